/-
  Proved here: what string(b) is of a slice of bytes that reads as a list; strings of lists of bytes compared and joined. No conditions beyond each lemma's own.
-/
import Derived.Test.YtincmkjffohekaaDoorMem
import Derived.Test.YtincmkjffohekaaDoorP8
import Derived.Laws.BytesString
import Derived.Laws.IdiomStrings
import Derived.Laws.Strings
import Derived.WalkKit
namespace Go.Proofs.YtincmkjffohekaaDoor
open Go.RowKit

def byteOf (x : Int) : UInt8 := UInt8.ofNat x.toNat
/-- The string of a list of numbers, each a byte. -/
def strOf (xs : List Int) : ByteArray := ⟨(xs.map byteOf).toArray⟩
theorem byteOf_back {x : Int} (h : 0 ≤ x ∧ x ≤ 255) : ((byteOf x).toNat : Int) = x := by
  unfold byteOf
  rw [UInt8.toNat_ofNat']
  omega
theorem byteOf_inj {x y : Int} (hx : 0 ≤ x ∧ x ≤ 255) (hy : 0 ≤ y ∧ y ≤ 255) (h : byteOf x = byteOf y) : x = y := by
  rw [← byteOf_back hx, ← byteOf_back hy, h]
theorem strOf_list (xs : List Int) : (strOf xs).toList = xs.map byteOf := ByteArray.toList_mk _
theorem map_inj : ∀ {xs ys : List Int}, (∀ x ∈ xs, 0 ≤ x ∧ x ≤ 255) → (∀ y ∈ ys, 0 ≤ y ∧ y ≤ 255) → xs.map byteOf = ys.map byteOf → xs = ys
  | [], [], _, _, _ => rfl
  | [], y :: ys, _, _, h => by simp at h
  | x :: xs, [], _, _, h => by simp at h
  | x :: xs, y :: ys, hx, hy, h => by
    simp only [List.map_cons, List.cons.injEq] at h
    rw [byteOf_inj (hx x (by simp)) (hy y (by simp)) h.1, map_inj (fun z hz => hx z (by simp [hz])) (fun z hz => hy z (by simp [hz])) h.2]
theorem FitL.bytes {xs : List Int} (h : FitL .u8 xs) : ∀ x ∈ xs, 0 ≤ x ∧ x ≤ 255 := fun x hx => byte_range (h x hx)
theorem str_eq {xs ys : List Int} (hx : FitL .u8 xs) (hy : FitL .u8 ys) : ((strOf xs).toList == (strOf ys).toList) = decide (xs = ys) := by
  rw [strOf_list, strOf_list]
  by_cases h : xs = ys
  · subst h; simp
  · have : xs.map byteOf ≠ ys.map byteOf := fun e => h (map_inj hx.bytes hy.bytes e)
    rw [decide_eq_false h]
    simpa using this
theorem str_append (xs ys : List Int) : strOf xs ++ strOf ys = strOf (xs ++ ys) := by
  have h : ∀ a b : ByteArray, a ++ b = ⟨a.data ++ b.data⟩ := by
    intro a b
    apply ByteArray.ext
    simp
  rw [h]
  simp [strOf]

/-- string(b). -/
theorem run_string_L {P : Program} (w : World) (src dst e : TypeId) {B : Nat} {A : Option Addr} {n : Nat} {xs : List Int} (h : IsL w B .u8 A n xs) (c : Nat)
    (hs : P.underlying src = some (.slice e)) (he : P.underlying e = some (.int .u8)) (hd : P.underlying dst = some .string) :
    (convert src dst (.slice A n c)).run P w = .ok (.string (strOf xs)) w := by
  have hl := h.len
  rcases A with _ | ad
  · have h0 : n = 0 := by
      rcases Nat.eq_zero_or_pos n with h0 | h0
      · exact h0
      · obtain ⟨_, _, e, _⟩ := h.2.2 h0
        cases e
    subst h0
    obtain rfl : xs = [] := List.eq_nil_of_length_eq_zero hl
    rw [run_convert_bytes_string w src dst e none 0 c hs he hd]
    rfl
  · subst hl
    have hcell : ∀ j (hj : j < (xs.map byteOf).length), w.cell? (ad.add j) = some (.int .u8 ((xs.map byteOf)[j].toNat : Int)) := by
      intro j hj
      have hj' : j < xs.length := by simpa using hj
      obtain ⟨b, off, hA, _, hc⟩ := h.2.2 (by omega)
      obtain rfl := Option.some.inj hA
      rw [Addr.add_lit, hc j hj']
      have hr := byte_range (h.wfAt hj')
      have e1 : xs.getD j 0 = xs[j] := by simp [List.getD, hj']
      rw [e1] at hr
      rw [e1, List.getElem_map, byteOf_back hr]
    have := run_convert_bytes_back (P := P) w src dst e ad c (xs.map byteOf) hs he hd hcell
    rw [List.length_map] at this
    exact this

end Go.Proofs.YtincmkjffohekaaDoor
