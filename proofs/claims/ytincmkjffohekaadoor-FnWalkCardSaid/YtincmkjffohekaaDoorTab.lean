/-
  Proved here: what the rows' list of the two tables gives: the cells of goutf8.first and goutf8.acceptRanges. No conditions.
-/
import Derived.Test.YtincmkjffohekaaDoorRows
import Derived.Test.YtincmkjffohekaaDoorBase
import Derived.LaidMore
import Derived.Lib.LaidU8
namespace Go.Proofs.YtincmkjffohekaaDoor
open Go.RowKit

/-- The two tables lie as their initialisers lay them. -/
def Tabs (w : World) : Prop :=
  2 ≤ w.heap.size ∧ (∀ c, c < 256 → w.cell? ⟨0, c, none⟩ = some (.int .u8 (Lib.firstT c))) ∧
  (∀ i, i < 16 → w.cell? ⟨1, 2 * i, none⟩ = some (.int .u8 (Lib.accLo i)) ∧ w.cell? ⟨1, 2 * i + 1, none⟩ = some (.int .u8 (Lib.accHi i)))
theorem Tabs.keep {w w' : World} (h : Tabs w) (hb : Below w.heap.size w w') : Tabs w' := by
  obtain ⟨h0, h1, h2⟩ := h
  refine ⟨Nat.le_trans h0 hb.size, fun c hc => ?_, fun i hi => ?_⟩
  · rw [hb.cell (p := ⟨0, c, none⟩) (by show 0 < w.heap.size; omega)]; exact h1 c hc
  · rw [hb.cell (p := ⟨1, 2 * i, none⟩) (by show 1 < w.heap.size; omega), hb.cell (p := ⟨1, 2 * i + 1, none⟩) (by show 1 < w.heap.size; omega)]; exact h2 i hi
theorem Tabs.low {w w' : World} {B : Nat} (h : Tabs w) (hB : 2 ≤ B) (hb : Below B w w') : Tabs w' := by
  obtain ⟨h0, h1, h2⟩ := h
  refine ⟨Nat.le_trans h0 hb.size, fun c hc => ?_, fun i hi => ?_⟩
  · rw [hb.cell (p := ⟨0, c, none⟩) (by show 0 < B; omega)]; exact h1 c hc
  · rw [hb.cell (p := ⟨1, 2 * i, none⟩) (by show 1 < B; omega), hb.cell (p := ⟨1, 2 * i + 1, none⟩) (by show 1 < B; omega)]; exact h2 i hi

/-- The rows' own list of the two tables, and their names as the list has them. -/
def laid2 : List (String × DataW Unit) := Rows.fnWalkRow.laid
def tabName (k : Nat) : String := (laid2.map Prod.fst)[k]?.getD ""
theorem laid2_two : laid2 = [(tabName 0, Rows.laid_loop_example_pub_g03431_pub_goutf8_first), (tabName 1, Rows.laid_loop_example_pub_g03431_pub_goutf8_acceptRanges)] := rfl
theorem first_data : (Rows.laid_loop_example_pub_g03431_pub_goutf8_first : DataW Unit) = Lib.firstData := by kernel_rfl
theorem accept_data : (Rows.laid_loop_example_pub_g03431_pub_goutf8_acceptRanges : DataW Unit) = Lib.acceptData := by kernel_rfl
theorem c5 : Tryd.prog.cellsOf 5 = 1 := by kernel_rfl
theorem c47 : Tryd.prog.cellsOf 47 = 256 := by kernel_rfl
theorem c49 : Tryd.prog.cellsOf 49 = 2 := by kernel_rfl
theorem n0 : Tryd.prog.globalNamed (tabName 0) = some 0 := by kernel_rfl
theorem n1 : Tryd.prog.globalNamed (tabName 1) = some 1 := by kernel_rfl
theorem y0 : (Tryd.prog.globals[0]?).map (·.type) = some 47 := by kernel_rfl
theorem y1 : (Tryd.prog.globals[1]?).map (·.type) = some 50 := by kernel_rfl

theorem tabs_of_laid {W : World} (h : laidMetH Tryd.prog laid2 W) : Tabs W := by
  rw [MakeChecks.laidMetH_plain _ _ _ (by kernel_rfl)] at h
  have r0 : Lib.VarReads Tryd.prog W (tabName 0) Lib.firstData := by rw [← first_data]; exact Lib.laidMet.reads h (by simp [laid2_two])
  have r1 : Lib.VarReads Tryd.prog W (tabName 1) Lib.acceptData := by rw [← accept_data]; exact Lib.laidMet.reads h (by simp [laid2_two])
  have h0 : ∀ c, c < 256 → W.cell? ⟨0, c, none⟩ = some (.int .u8 (Lib.firstT c)) := by
    intro c hc
    obtain ⟨g, t, cs, fuel, p, hg, hty, hvar, hd⟩ := r0
    obtain rfl := Option.some.inj (n0.symm.trans hg)
    obtain rfl := Option.some.inj (y0.symm.trans hty)
    have hcs := Lib.cells_of_tab Tryd.underlying47 Tryd.underlying5 c5 c47 hd
    have := World.var?_cell hg hvar c
    rw [this, ← Array.getElem?_toList, hcs]
    simp [Lib.firstTab, hc]
  have h1 : ∀ i, i < 16 → W.cell? ⟨1, 2 * i, none⟩ = some (.int .u8 (Lib.accLo i)) ∧ W.cell? ⟨1, 2 * i + 1, none⟩ = some (.int .u8 (Lib.accHi i)) := by
    intro i hi
    obtain ⟨g, t, cs, fuel, p, hg, hty, hvar, hd⟩ := r1
    obtain rfl := Option.some.inj (n1.symm.trans hg)
    obtain rfl := Option.some.inj (y1.symm.trans hty)
    obtain ⟨fuel', d, q, hdi, he⟩ := Lib.array_elem Tryd.underlying50 hd i hi
    simp only [List.getElem?_map, List.getElem?_range hi, Option.map_some, Option.some.injEq] at hdi
    subst hdi
    rw [c49] at he
    have hcs := Lib.ints_of_struct Tryd.underlying49 (fun j f hj => by
      match j, hj with
      | 0, hj => simp at hj; subst hj; exact ⟨Tryd.underlying5, rfl, c5⟩
      | 1, hj => simp at hj; subst hj; exact ⟨Tryd.underlying5, rfl, c5⟩
      | j + 2, hj => simp at hj) (by rw [c49]; rfl) he
    have e0 := congrArg (·[0]?) hcs
    have e1 := congrArg (·[1]?) hcs
    simp only [List.getElem?_take, List.getElem?_drop] at e0 e1
    constructor
    · rw [World.var?_cell hg hvar (2 * i), ← Array.getElem?_toList]
      simpa [Nat.mul_comm] using e0
    · rw [World.var?_cell hg hvar (2 * i + 1), ← Array.getElem?_toList]
      simpa [Nat.mul_comm] using e1
  have h9 : 1 < W.heap.size := by
    have := World.block_lt_of_cell? _ _ (h1 0 (by omega)).1
    simpa using this
  exact ⟨h9, h0, h1⟩

end Go.Proofs.YtincmkjffohekaaDoor
