/-
  Proved here: more lemmas on rows of numbers that a call owns (the row behind a name of its own; an append onto it), for every program. No conditions beyond each lemma's own.
-/
import Derived.Test.YtincmkjffohekaaDoorBase
import Derived.WalkKit
import Derived.Below
namespace Go.Proofs.YtincmkjffohekaaDoor
open Go.RowKit

/-- The slice value v owns, from block base on, the row of the numbers xs. -/
def OwnsL (w : World) (base : Nat) (e : TypeId) (k : IntKind) (v : Value) (xs : List Int) : Prop := w.ownsRow base e 1 v xs.length (xs.map (Value.int k))
/-- What an append leaves. -/
def GrewL (w w' : World) (base : Nat) (e : TypeId) (k : IntKind) (v v' : Value) (xs : List Int) : Prop := OwnsL w' base e k v' xs ∧ w.grownBy w' v.ownBlock
/-- All numbers fit their kind. -/
def FitL (k : IntKind) (xs : List Int) : Prop := ∀ x ∈ xs, (Lit.int k x).wf = true

section
variable {w w' : World} {base base' : Nat} {e : TypeId} {k : IntKind} {v v' : Value} {xs ys : List Int}
theorem FitL.app (h : FitL k xs) (h' : FitL k ys) : FitL k (xs ++ ys) := by
  intro x hx
  rcases List.mem_append.1 hx with h1 | h1
  · exact h x h1
  · exact h' x h1
theorem FitL.nil (k : IntKind) : FitL k [] := by intro x hx; cases hx
theorem FitL.one {x : Int} (h : (Lit.int k x).wf = true) : FitL k [x] := by intro y hy; simp at hy; subst hy; exact h
theorem IsL.fit {B : Nat} {A : Option Addr} {n : Nat} (h : IsL w B k A n xs) : FitL k xs := h.2.1
theorem OwnsL.form (h : OwnsL w base e k v xs) : ∃ A c, v = .slice A xs.length c := own_form h
theorem OwnsL.isL {A : Option Addr} {c : Nat} (h : OwnsL w base e k (.slice A xs.length c) xs) (hf : FitL k xs) : IsL w w.heap.size k A xs.length xs := IsL.of_own h hf
theorem OwnsL.alloc (h : OwnsL w base e k v xs) (o : Obj) : OwnsL (w.alloc o) base e k v xs := World.ownsRow.alloc h o
theorem OwnsL.drew (h : OwnsL w base e k v xs) : OwnsL w.drew base e k v xs := h
theorem OwnsL.drewN (h : OwnsL w base e k v xs) (n : Nat) : OwnsL (w.drewN n) base e k v xs := h
theorem OwnsL.below (h : OwnsL w base e k v xs) (hb : Below w.heap.size w w') : OwnsL w' base e k v xs := own_below h hb
theorem OwnsL.low (h : OwnsL w base e k v xs) (hb : base' ≤ base) : OwnsL w base' e k v xs := own_low h hb
theorem OwnsL.nil_ (w : World) (base : Nat) (e : TypeId) (k : IntKind) : OwnsL w base e k (.slice none 0 0) [] := World.ownsRow_nil _ _ _ _
theorem OwnsL.lit0 (w : World) (e : TypeId) (k : IntKind) : OwnsL (w.alloc (.cells #[] e)) w.heap.size e k (.slice (some ⟨w.heap.size, 0, none⟩) 0 0) [] :=
  World.ownsRow_made w #[] 0 (Nat.le_refl _) (Nat.zero_le _) rfl
theorem OwnsL.lit1 (w : World) (e : TypeId) (k : IntKind) (x : Int) : OwnsL (w.alloc (.cells #[.int k x] e)) w.heap.size e k (.slice (some ⟨w.heap.size, 0, none⟩) 1 1) [x] :=
  World.ownsRow_lit w #[.int k x] 1 (Nat.le_refl _) (by decide) rfl
theorem OwnsL.lit2 (w : World) (e : TypeId) (k : IntKind) (x y : Int) : OwnsL (w.alloc (.cells #[.int k x, .int k y] e)) w.heap.size e k (.slice (some ⟨w.heap.size, 0, none⟩) 2 2) [x, y] :=
  World.ownsRow_lit w #[.int k x, .int k y] 2 (Nat.le_refl _) (by decide) rfl
theorem GrewL.own (h : GrewL w w' base e k v v' xs) : OwnsL w' base e k v' xs := h.1
theorem GrewL.below {B n : Nat} (h : GrewL w w' base e k v v' ys) (h0 : w.ownsRow base e 1 v n (xs.map (Value.int k))) (hB : B ≤ base) (hw : B ≤ w.heap.size) : Below B w w' := below_of_own h0 h.2 hB hw
theorem grown_alloc_left {o : Obj} {row : Option Nat} (h : (w.alloc o).grownBy w' row) : w.grownBy w' row :=
  ⟨h.os, h.tape, h.output, by have := h.size; simp at this; omega, fun k hk hne => (h.block k (by simp; omega) hne).trans (Below.heap_alloc w o k hk)⟩
theorem GrewL.alloc_left {o : Obj} (h : GrewL (w.alloc o) w' base e k v v' xs) : GrewL w w' base e k v v' xs := ⟨h.1, grown_alloc_left h.2⟩
/-- A call that hands back a row that it made. -/
theorem gives_own (h : OwnsL w' w.heap.size e k v xs) (hb : Below w.heap.size w w') : GivesL w e k xs (.returned v) w' := by
  obtain ⟨A, c, rfl⟩ := h.form
  exact ⟨A, c, rfl, h, hb⟩
end

theorem wpList_append_O {P : Program} (w : World) {ops : Array Oper} {rest : List Oper} {o : Oper} {a : Act} {Q : Exit → Act → World → Prop} (hgd : o.guard = none) (s x : Operand) (t : TypeId)
    (ho : o.op = .call { callee := .builtin .append, args := #[s, x], argTypes := #[t, t] })
    (base : Nat) (e : TypeId) (i : TypeInfo) (z : Value) (bytes : Nat) (ht : P.underlying t = some (.slice e)) (hi : P.info? e = some i) (hz : i.zero = some z)
    (hsize : i.size = 1) (hby : i.bytes = bytes) (hzs : z.cells.size = 1) (k : IntKind)
    (v : Value) (xs : List Int) (hs : a.eval s = v) (hown : OwnsL w base e k v xs)
    (B : Nat) (A : Option Addr) (m c : Nat) (news : List Int) (hx : a.eval x = .slice A m c) (hr : IsL w B k A m news)
    (h63 : xs.length + m ≤ maxLen) (hbytes : (xs.length + m) * bytes ≤ 140737488355328) (hbase : base ≤ w.heap.size)
    (h : ∀ v' w', GrewL w w' base e k v v' (xs ++ news) → wpList P ops Q rest (a.put o.dst v') w') : wpList P ops Q (o :: rest) a w := by
  refine wpList_append_L w hgd s x t ho base e i z bytes ht hi hz hsize hby hzs k v xs.length xs hs hown B A m c news hx hr h63 hbytes hbase fun v' w' h1 h2 => h v' w' ⟨?_, h2⟩
  have hl := hr.1
  subst hl
  unfold OwnsL
  rw [List.length_append]
  exact h1

/-- The same behind a guard that says yes. -/
theorem wpList_append_W {P : Program} (w : World) {ops : Array Oper} {rest : List Oper} {o : Oper} {a : Act} {Q : Exit → Act → World → Prop} (hw : Region.wanted o (yielded ops a.tmps) = true) (s x : Operand) (t : TypeId)
    (ho : o.op = .call { callee := .builtin .append, args := #[s, x], argTypes := #[t, t] })
    (base : Nat) (e : TypeId) (i : TypeInfo) (z : Value) (bytes : Nat) (ht : P.underlying t = some (.slice e)) (hi : P.info? e = some i) (hz : i.zero = some z)
    (hsize : i.size = 1) (hby : i.bytes = bytes) (hzs : z.cells.size = 1) (k : IntKind)
    (v : Value) (xs : List Int) (hs : a.eval s = v) (hown : OwnsL w base e k v xs)
    (B : Nat) (A : Option Addr) (m c : Nat) (news : List Int) (hx : a.eval x = .slice A m c) (hr : IsL w B k A m news)
    (h63 : xs.length + m ≤ maxLen) (hbytes : (xs.length + m) * bytes ≤ 140737488355328) (hbase : base ≤ w.heap.size)
    (h : ∀ v' w', GrewL w w' base e k v v' (xs ++ news) → wpList P ops Q rest (a.put o.dst v') w') : wpList P ops Q (o :: rest) a w := by
  refine wpList_step fun K hK => ?_
  rw [if_pos hw]
  obtain ⟨v', w', hrun, h2, h3⟩ := run_append_L (P := P) w base t o.type e i z bytes ht hi hz hsize hby hzs k v xs.length xs hown B A m c news hr h63 hbytes hbase
  have hl := hr.1
  subst hl
  unfold Oper.wp execOp
  simp only [ho, resolve, invoke, builtin, Sem.run_bind, Sem.run_pure, Result.andThen_ok, List.map_toArray, List.map_cons, List.map_nil, hs, hx, hrun]
  refine hK _ _ (h v' w' ⟨?_, h3⟩)
  unfold OwnsL
  rw [List.length_append]
  exact h2

end Go.Proofs.YtincmkjffohekaaDoor
