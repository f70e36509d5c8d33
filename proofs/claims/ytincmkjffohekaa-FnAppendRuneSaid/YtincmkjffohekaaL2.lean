/-
  Proved here: the walks of the laws FnEncodeOrder and FnAppendRune: each returns true for every input. No conditions.
-/
import Derived.Test.YtincmkjffohekaaL1
namespace Go.Proofs.Ytincmkjffohekaa
open Go.RowKit

def lessL : List Int → List Int → Bool
  | _, [] => false
  | [], _ :: _ => true
  | a :: x, b :: y => decide (a < b) || (a == b && lessL x y)
theorem byteOf_lt {x y : Int} (hx : 0 ≤ x ∧ x ≤ 255) (hy : 0 ≤ y ∧ y ≤ 255) : decide (byteOf x < byteOf y) = decide (x < y) := by
  have h1 := byteOf_back hx
  have h2 := byteOf_back hy
  rw [decide_eq_decide, UInt8.lt_iff_toNat_lt]
  omega
theorem byteOf_eq {x y : Int} (hx : 0 ≤ x ∧ x ≤ 255) (hy : 0 ≤ y ∧ y ≤ 255) : (byteOf x == byteOf y) = (x == y) := by
  rw [Bool.eq_iff_iff, beq_iff_eq, beq_iff_eq]
  exact ⟨byteOf_inj hx hy, fun h => by rw [h]⟩
theorem less_bytes : ∀ {xs ys : List Int}, (∀ x ∈ xs, 0 ≤ x ∧ x ≤ 255) → (∀ y ∈ ys, 0 ≤ y ∧ y ≤ 255) → Op.bytesLess (xs.map byteOf) (ys.map byteOf) = lessL xs ys
  | _, [], _, _ => by simp [Op.bytesLess, lessL]
  | [], y :: ys, _, _ => by simp [Op.bytesLess, lessL]
  | x :: xs, y :: ys, hx, hy => by
    have h1 := byteOf_lt (hx x (by simp)) (hy y (by simp))
    have h2 := byteOf_eq (hx x (by simp)) (hy y (by simp))
    have h3 := less_bytes (xs := xs) (ys := ys) (fun z hz => hx z (by simp [hz])) (fun z hz => hy z (by simp [hz]))
    simp only [List.map_cons, Op.bytesLess, lessL, h1, h2, h3]
theorem enc_order {a b : Int} (ha : (0 ≤ a ∧ a < 55296) ∨ (57343 < a ∧ a ≤ 1114111)) (hb : (0 ≤ b ∧ b < 55296) ∨ (57343 < b ∧ b ≤ 1114111)) : lessL (enc a) (enc b) = decide (a < b) := by
  rcases enc_cases a with h | h | h | h | h <;> rcases enc_cases b with k | k | k | k | k
  all_goals first | exact absurd ha h | exact absurd hb k | skip
  all_goals
    first | rw [enc_1 h] | rw [enc_2 h] | rw [enc_3 h] | rw [enc_4 h]
    first | rw [enc_1 k] | rw [enc_2 k] | rw [enc_3 k] | rw [enc_4 k]
    rw [Bool.eq_iff_iff]
    first | (simp [lessL]; done) | (simp [lessL]; omega)

set_option maxHeartbeats 1000000 in
theorem fnEncodeOrder_walk (a b : Int) (w : World) (w0 : (Lit.int .i32 a).wf = true) (w1 : (Lit.int .i32 b).wf = true) :
    Calls Try.prog 9 #[.int .i32 a, .int .i32 b] w fun e w' => e = .returned (.bool true) ∧ Below w.heap.size w w' := by
  have hra := rune_range w0
  have hrb := rune_range w1
  clear w0 w1
  by_cases ha : (0 ≤ a ∧ a < 55296) ∨ (57343 < a ∧ a ≤ 1114111)
  · by_cases hb : (0 ≤ b ∧ b < 55296) ∨ (57343 < b ∧ b ≤ 1114111)
    · have HO := Lib.hid (less_bytes (enc_byte a) (enc_byte b))
      rw [enc_order ha hb] at HO
      have hlt : Hid (Op.bytesLess (strOf (enc a)).toList (strOf (enc b)).toList = decide (a < b)) := by rw [strOf_list, strOf_list]; exact HO
      have HA := Lib.hid (isRune_yes a w ha)
      have HB := Lib.hid (isRune_yes b w hb)
      have HE := Lib.hid (fun w2 => implEncode_any a w2 hra)
      have HF := Lib.hid (fun w2 => implEncode_any b w2 hrb)
      have hfa : FitL .u8 (enc a) := enc_wf a
      have hfb : FitL .u8 (enc b) := enc_wf b
      have hla := (enc_len a).1
      clear ha hb HO
      generalize enc a = xs at *
      generalize enc b = ys at *
      have hp : (0 : Int) < (xs.length : Int) := by omega
      go_enter Try.func9, Try.ntmps9
      go_wp2_with fail
      refine HA.out.mono ?_
      rintro e w' ⟨rfl, rfl⟩
      go_wp2_with fail
      refine HB.out.mono ?_
      rintro e w' ⟨rfl, rfl⟩
      go_wp2_with fail
      refine (HE.out w).mono ?_
      rintro e w1 ⟨A1, c1, rfl, o1, b1⟩
      go_wp2_with fail
      refine (HF.out w1).mono ?_
      rintro e w2 ⟨A2, c2, rfl, o2, b2⟩
      have hc1 := run_string_L w2 27 9 5 ((o1.isL hfa).upto b2) c1 Try.underlying27 Try.underlying5 Try.underlying9
      have hc2 := run_string_L w2 27 9 5 (o2.isL hfb) c2 Try.underlying27 Try.underlying5 Try.underlying9
      clear o1 o2
      go_wp2
      all_goals go_ret
      all_goals refine ⟨ret_bool ?_, b1.trans (b2.mono b1.size)⟩
      all_goals rw [hlt.out]
      all_goals simp
      all_goals omega
    · have HA := Lib.hid (isRune_yes a w ha)
      have HB := Lib.hid (isRune_no b w hb)
      clear ha hb
      go_enter Try.func9, Try.ntmps9
      go_wp2_with fail
      refine HA.out.mono ?_
      rintro e w' ⟨rfl, rfl⟩
      go_wp2_with fail
      refine HB.out.mono ?_
      rintro e w' ⟨rfl, rfl⟩
      go_wp2
      go_ret
      exact ⟨rfl, Below.refl _ _⟩
  · have HA := Lib.hid (isRune_no a w ha)
    clear ha
    go_enter Try.func9, Try.ntmps9
    go_wp2_with fail
    refine HA.out.mono ?_
    rintro e w' ⟨rfl, rfl⟩
    go_wp2
    go_ret
    exact ⟨rfl, Below.refl _ _⟩

set_option maxHeartbeats 4000000 in
theorem fnAppendRune_walk (A : Option Addr) (n c : Nat) (xs : List Int) (r : Int) (w : World) (h : IsL w w.heap.size .u8 A n xs) (w0 : (Lit.int .i32 r).wf = true) :
    Calls Try.prog 8 #[.slice A n c, .int .i32 r] w fun e w' => e = .returned (.bool true) ∧ Below w.heap.size w w' := by
  have hr := rune_range w0
  clear w0
  have H := Lib.hid h
  clear h
  by_cases h1 : (2147483647 : Int) < (n : Int)
  · go_enter Try.func8, Try.ntmps8
    go_wp2
    go_ret
    exact ⟨rfl, Below.refl _ _⟩
  by_cases h2 : (1000 : Int) < (n : Int)
  · go_enter Try.func8, Try.ntmps8
    go_wp2
    go_quiet (fail)
    go_wp2
    go_ret
    exact ⟨rfl, ⟨rfl, rfl, rfl, Nat.le_refl _, fun _ _ => rfl⟩⟩
  have hf : FitL .u8 (xs ++ enc r) := FitL.app H.out.fit (enc_wf r)
  have hfe : FitL .u8 (enc r) := enc_wf r
  have HS := Lib.hid (str_append xs (enc r))
  have HA := Lib.hid (fun w2 h => implAppend_any A n c xs r w2 h (by omega) hr)
  have HB := Lib.hid (fun w2 => bytes_any r w2)
  have hz1 : (strOf xs).size ≤ 1000 := by
    have := H.out.len
    show (xs.map byteOf).toArray.size ≤ 1000
    simp; omega
  have hz2 : (strOf (enc r)).size ≤ 4 := by
    show ((enc r).map byteOf).toArray.size ≤ 4
    simp [(enc_len r).2]
  generalize xs ++ enc r = zs at *
  generalize enc r = ys at *
  have hc0 := run_string_L w.drew 27 9 5 (B := w.heap.size) H.out c Try.underlying27 Try.underlying5 Try.underlying9
  have hg : decide ((1000 : Int) < (n : Int)) = false := by simpa using h2
  go_enter Try.func8, Try.ntmps8
  go_wp2_with fail
  go_region_with (first
    | (go_at_call 21; refine (HA.out _ (by exact H.out)).mono ?_; rintro e w1 ⟨A1, c1, rfl, o1, b1⟩; have i1 := OwnsL.isL (e := 5) (k := .u8) o1 hf; have I1 := Lib.hid i1; have B1 : Hid (Below w.heap.size w w1) := (Below.refl w.heap.size w).drew.trans b1; have hc1 := run_string_L w1 27 9 5 i1 c1 Try.underlying27 Try.underlying5 Try.underlying9; have hc01 := run_string_L w1 27 9 5 (IsL.below (B := w.heap.size) H.out B1.out) c Try.underlying27 Try.underlying5 Try.underlying9; clear i1 o1 b1)
    | (go_at_call 22; refine (HB.out _).mono ?_; rintro e w2 ⟨A2, c2, rfl, o2, b2⟩; have i2 := OwnsL.isL (e := 5) (k := .u8) o2 hfe; have hc2 := run_string_L w2 27 9 5 i2 c2 Try.underlying27 Try.underlying5 Try.underlying9; have hc12 := run_string_L w2 27 9 5 (IsL.upto I1.out b2) c1 Try.underlying27 Try.underlying5 Try.underlying9; have B2 : Hid (Below w.heap.size w w2) := B1.out.trans (b2.mono B1.out.size); have hc02 := run_string_L w2 27 9 5 (IsL.below (B := w.heap.size) H.out B2.out) c Try.underlying27 Try.underlying5 Try.underlying9; clear i2 o2 b2))
  all_goals
    go_wp2
    go_ret
    exact ⟨ret_bool (by rw [HS.out]; simp), B2.out⟩

end Go.Proofs.Ytincmkjffohekaa
