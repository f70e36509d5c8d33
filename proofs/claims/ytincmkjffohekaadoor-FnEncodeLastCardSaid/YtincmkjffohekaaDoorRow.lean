/-
  Proved here: lemmas on a row of numbers of known length that a call has made and writes into. No conditions beyond each lemma's own.
-/
import Derived.Test.YtincmkjffohekaaDoorMem
import Derived.Laws.OwnMore
import Derived.OneCell
namespace Go.Proofs.YtincmkjffohekaaDoor
open Go.RowKit

/-- Block g, from base on, is the whole row of the N numbers R. -/
def RowN (w : World) (base : Nat) (e : TypeId) (k : IntKind) (g N : Nat) (R : List Int) : Prop := w.ownsRow base e 1 (.slice (some ⟨g, 0, none⟩) N N) N (R.map (Value.int k))

section
variable {w w' : World} {base : Nat} {e : TypeId} {k : IntKind} {g N : Nat} {R : List Int}
theorem RowN.len (h : RowN w base e k g N R) : R.length = N := by simpa using h.1
theorem RowN.lt (h : RowN w base e k g N R) : base ≤ g ∧ g < w.heap.size := World.ownsRow.lt h g rfl
theorem RowN.cellAt (h : RowN w base e k g N R) {j : Nat} (hj : j < N) : w.cell? ⟨g, j, none⟩ = some (.int k (R.getD j 0)) := by
  have := World.ownsRow.cellAt h j (by omega)
  rw [this]
  have hl := h.len
  simp [List.getD, hl, hj]
theorem RowN.frozenAt (h : RowN w base e k g N R) (j : Nat) : w.frozen? ⟨g, j, none⟩ = false := World.ownsRow.frozenAt h j
theorem RowN.stored (h : RowN w base e k g N R) (j : Nat) (x : Int) : RowN (w.setCell ⟨g, j, none⟩ (.int k x)) base e k g N (R.set j x) := by
  have := (World.ownsRow.stored h j (.int k x)).1
  unfold RowN
  rw [List.map_set]
  exact this
theorem RowN.below_store {B : Nat} {a : World} (h : RowN w base e k g N R) (hb : Below B a w) (hB : B ≤ base) (j : Nat) (u : Value) : Below B a (w.setCell ⟨g, j, none⟩ u) :=
  hb.setCell (by have := h.lt; show B ≤ g; omega) u
theorem RowN.below (h : RowN w base e k g N R) (hb : Below w.heap.size w w') : RowN w' base e k g N R := own_below h hb
theorem RowN.drew (h : RowN w base e k g N R) : RowN w.drew base e k g N R := h
theorem RowN.take (h : RowN w base e k g N R) {m : Nat} (hm : m ≤ N) : OwnsL w base e k (.slice (some ⟨g, 0, none⟩) m N) (R.take m) := by
  have hl := h.len
  have hlen : (R.take m).length = m := by simp; omega
  rcases h.2 with ⟨h0, _⟩ | ⟨g', cap, cur, hv, hg, hh, h1, h2, h3, h4⟩
  · simp at h0
  · simp only [Value.slice.injEq, Option.some.injEq, Addr.mk.injEq, and_true, true_and] at hv
    obtain ⟨rfl, rfl⟩ := hv
    refine ⟨by simp, .inr ⟨g, N, cur, by rw [hlen], hg, hh, by omega, h2, h3, ?_⟩⟩
    rw [hlen, List.map_take, ← h4, List.take_take, Nat.min_eq_left (by omega), Nat.mul_one]
end

theorem set_take {R P : List Int} {m : Nat} (h : R.take m = P) (hm : m < R.length) (x : Int) : (R.set m x).take (m + 1) = P ++ [x] := by
  rw [List.take_add_one, List.take_set_of_le (Nat.le_refl m), h]
  simp [hm]
theorem made_zero (E : TypeId) (k : IntKind) {w : World} {base g N : Nat} (h : w.ownsRow base E 1 (.slice (some ⟨g, 0, none⟩) N N) N (madeCells #[.int k 0] N).toList) : RowN w base E k g N (List.replicate N 0) := by
  unfold RowN
  rw [List.map_replicate, ← toList_madeCells_one]
  exact h

end Go.Proofs.YtincmkjffohekaaDoor
