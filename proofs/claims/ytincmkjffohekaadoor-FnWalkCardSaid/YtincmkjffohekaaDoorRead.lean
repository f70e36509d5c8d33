/-
  Proved here: the program's two tables read behind a call as they did before it, where nothing that stood before the call has turned. No conditions beyond the lemmas' own.
-/
import Derived.Test.YtincmkjffohekaaDoorTab
import Derived.OpenShut
import Derived.Carry
import Derived.ChangeOld
namespace Go.Proofs.YtincmkjffohekaaDoor
open Go.ChangeShapes Go.WideShapes Go.RowKit Go.WideElems

theorem laidOut_all : laidOutB Tryd.prog = true := by kernel_rfl

section
variable {H : Type} {enc : TypeId × Value → H} {W W' : World}
theorem var_stays (hb : Below W.heap.size W W') {n : String} {g : Nat} {cs : Array Value} (hg : Tryd.prog.globalNamed n = some g) (h : W.var? Tryd.prog n = some cs) : W'.var? Tryd.prog n = some cs := by
  simp only [World.var?, hg, Option.bind_some] at h ⊢
  have hlt : g < W.heap.size := by
    rcases Nat.lt_or_ge g W.heap.size with h1 | h1
    · exact h1
    · rw [Array.getElem?_eq_none h1] at h; cases h
  rw [hb.block g hlt]
  exact h
theorem read_stays (hb : Below W.heap.size W W') {t fuel : Nat} {cs : List Value} {d : DataW H} {p : List MemPlace} (hr : Tryd.prog.readableRec t = true) (hs : t < Tryd.prog.types.size)
    (h : DataW.trod enc Tryd.prog W 0 (fun _ => true) true fuel t cs = some (d, p)) (hp : ∀ x ∈ p, x.block < W.heap.size) :
    DataW.trod enc Tryd.prog W' 0 (fun b => decide (b < W.heap.size)) true fuel t cs = some (d, p) :=
  DataW.trod_stays (kids_book laidOut_all hr) (book_sized hr) (fun e => by cases e) ⟨hs, book_self t⟩ h (fun x hx => hb.same (hp x hx)) (fun x hx => by simpa using hp x hx)
theorem tables_stay (hb : Below W.heap.size W W') {gs : List (DataW H)} {ps : List MemPlace}
    (h : DataW.TrodVars enc Tryd.prog W (fun _ => true) [tabName 0, tabName 1] gs ps) :
    DataW.TrodVars enc Tryd.prog W' (fun b => decide (b < W.heap.size)) [tabName 0, tabName 1] gs ps := by
  have hlt := h.lt
  obtain ⟨g0, t0, cs0, f0, d0, p0, g1, t1, cs1, f1, d1, p1, rfl, a1, a2, a3, a4, b1, b2, b3, b4, e⟩ := trodVars_two h
  obtain rfl := Option.some.inj (n0.symm.trans a1)
  obtain rfl := Option.some.inj (n1.symm.trans b1)
  obtain rfl := Option.some.inj (y0.symm.trans a2)
  obtain rfl := Option.some.inj (y1.symm.trans b2)
  have l0 : ∀ x ∈ p0, x.block < W.heap.size := fun x hx => hlt x (by rw [e]; simp [hx])
  have l1 : ∀ x ∈ p1, x.block < W.heap.size := fun x hx => hlt x (by rw [e]; simp [hx])
  exact ⟨0, 47, cs0, f0, p0, _, a1, a2, var_stays hb a1 a3, read_stays hb (by kernel_rfl) (of_decide_eq_true (by kernel_rfl)) a4 l0,
    trodVars_mk1 b1 b2 (var_stays hb b1 b3) (read_stays hb (by kernel_rfl) (of_decide_eq_true (by kernel_rfl)) b4 l1), e⟩
end
end Go.Proofs.YtincmkjffohekaaDoor
