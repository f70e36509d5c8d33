/-
  Proved here: the walks of the laws FnAppends and FnLens16: each returns true for every input. No conditions.
-/
import Derived.Test.YtkpehilgjckekaaL2
namespace Go.Proofs.Ytkpehilgjckekaa
open Go.RowKit

set_option maxHeartbeats 1000000 in
theorem fnAppends_walk (A : Option Addr) (n c : Nat) (xs : List Int) (w : World) (h : IsL w w.heap.size .i32 A n xs) :
    Calls Try.prog 12 #[.slice A n c] w fun e w' => e = .returned (.bool true) ∧ Below w.heap.size w w' := by
  have H := Lib.hid h
  clear h
  by_cases h1 : (2147483647 : Int) < (n : Int)
  · go_enter Try.func12, Try.ntmps12
    go_wp2
    go_ret
    exact ⟨rfl, Below.refl _ _⟩
  by_cases h2 : (300 : Int) < (n : Int)
  · go_enter Try.func12, Try.ntmps12
    go_wp2
    go_ret
    exact ⟨rfl, Below.refl _ _⟩
  go_enter Try.func12, Try.ntmps12
  go_wp2
  go_loopw [3, 15] (fun v i wr => ∃ k : Nat, k ≤ n ∧ i = .int .i64 k ∧ OwnsL wr w.heap.size 29 .u16 v ((xs.take k).flatMap words) ∧ Below w.heap.size w wr) (fun _ i _ => n - (intOf i).toNat)
  case atStart => exact ⟨0, Nat.zero_le _, rfl, OwnsL.lit0 w 29 .u16, (Below.refl _ _).alloc (Nat.le_refl _) _⟩
  case round =>
    obtain ⟨k, hk, rfl, ho, hb⟩ := hrel
    have hsz := hb.size
    by_cases hlt : k < n
    · obtain ⟨b, off, x, rfl, hbb, hx, hwf, hc⟩ := (H.out.below hb).at_ hlt
      have hr := rune_range hwf
      have hl2 : (xs.take k).length ≤ k := List.length_take_le _ _
      have hfl := flat_len (xs.take k)
      have hfn := flat_next hx
      have hff : FitL .u16 ((xs.take k).flatMap words) := flat_wf _
      have hpl : ((xs.take k).flatMap words).length ≤ 2000 := by omega
      have HA := Lib.hid (fun A1 c1 w2 h => append16_any A1 ((xs.take k).flatMap words).length c1 ((xs.take k).flatMap words) x w2 h (by omega) hr)
      rw [← hfn] at HA
      clear hx hwf hfl hfn
      generalize (xs.take k).flatMap words = ps at *
      generalize hqs : (xs.take (k + 1)).flatMap words = qs at *
      have HQ := Lib.hid hqs
      clear hqs
      obtain ⟨A0, c0, rfl⟩ := ho.form
      have i0' := ho.isL hff
      clear ho
      go_wp2_with fail
      refine (HA.out A0 c0 wr i0').mono ?_
      rintro e w1 ⟨A1, c1, rfl, o1, b1⟩
      have ho1 : OwnsL w1 w.heap.size 29 .u16 (.slice A1 qs.length c1) qs := OwnsL.low o1 hsz
      have hb1 := hb.trans (b1.mono hsz)
      clear o1 i0' hb
      go_wp2
      go_roundw
      case rel => exact ⟨k + 1, by omega, by go_num, by rw [HQ.out]; exact ho1, hb1⟩
      case measure => simp [intOf]; omega
    · obtain rfl : n = k := by omega
      have hl := H.out.len
      rw [List.take_of_length_le (by omega)] at ho
      have hff : FitL .u16 (xs.flatMap words) := flat_wf xs
      have hfl : (xs.flatMap words).length ≤ 2147483648 := by have := flat_len xs; omega
      have HC := Lib.hid (fun w2 h => implEncode_any A n c xs w2 h (by omega))
      generalize xs.flatMap words = ys at *
      obtain ⟨A0, c0, rfl⟩ := ho.form
      clear hl
      go_wp2_with fail
      refine (HC.out wr (H.out.upto hb)).mono ?_
      rintro e w1 ⟨A1, c1, rfl, o1, b1⟩
      have i1 := OwnsL.isL (e := 29) (k := .u16) o1 hff
      have i0' := (ho.isL hff).upto b1
      have ball := hb.trans (b1.mono hb.size)
      clear o1 ho
      go_wp2_with fail
      refine (sameWords_any A0 A1 ys.length c0 ys.length c1 ys ys w1 i0' i1 hfl hfl).mono ?_
      rintro e w3 ⟨rfl, b3⟩
      have b123 := ball.trans (b3.mono ball.size)
      rw [show decide (ys = ys) = true from by simp]
      clear i1 i0'
      go_wp2_with fail
      refine (encode_zero w3).mono ?_
      rintro e w4 ⟨A4, c4, rfl, b4⟩
      have bfin := b123.trans (b4.mono b123.size)
      go_wp2
      go_ret
      exact ⟨rfl, bfin⟩

theorem len16_any (r : Int) (w : World) (h : (0 ≤ r ∧ r < 55296) ∨ (57343 < r ∧ r ≤ 1114111)) : Calls Try.prog 22 #[.int .i32 r] w fun e w' => e = .returned (.int .i64 (words r).length) ∧ w = w' := by
  by_cases h1 : r < 65536
  · rw [words_one (by omega)]
    have hL := runeLen_one r w (by omega)
    go_enter Try.func22, Try.ntmps22
    go_wp2_with (go_at_call 33; refine hL.mono ?_; rintro e w' ⟨rfl, rfl⟩)
    go_ret
    exact ⟨rfl, rfl⟩
  · rw [words_two (by omega) (by omega)]
    have hL := runeLen_two r w (by omega) (by omega)
    go_enter Try.func22, Try.ntmps22
    go_wp2_with (go_at_call 33; refine hL.mono ?_; rintro e w' ⟨rfl, rfl⟩)
    go_ret
    exact ⟨rfl, rfl⟩

set_option maxHeartbeats 1000000 in
theorem fnLens16_walk (A : Option Addr) (n c : Nat) (xs : List Int) (w : World) (h : IsL w w.heap.size .i32 A n xs) :
    Calls Try.prog 11 #[.slice A n c] w fun e w' => e = .returned (.bool true) ∧ Below w.heap.size w w' := by
  have H := Lib.hid h
  clear h
  by_cases h1 : (2147483647 : Int) < (n : Int)
  · go_enter Try.func11, Try.ntmps11
    go_wp2
    go_ret
    exact ⟨rfl, Below.refl _ _⟩
  by_cases h2 : (300 : Int) < (n : Int)
  · go_enter Try.func11, Try.ntmps11
    go_wp2
    go_ret
    exact ⟨rfl, Below.refl _ _⟩
  go_enter Try.func11, Try.ntmps11
  go_wp2
  go_loop [3, 14] (fun v i => ∃ k m : Nat, k ≤ n ∧ i = .int .i64 k ∧ v = .int .i64 m ∧ m ≤ 2 * k ∧ Hid (((xs.take k).flatMap words).length = m)) (fun _ i => n - (intOf i).toNat)
  case atStart => exact ⟨0, 0, Nat.zero_le _, rfl, rfl, by omega, by simp [Hid]⟩
  case round =>
    obtain ⟨k, m, hk, rfl, rfl, hm, hq⟩ := hrel
    by_cases hlt : k < n
    · obtain ⟨b, off, x, rfl, hbb, hx, hwf, hc⟩ := H.out.at_ hlt
      by_cases hR : (0 ≤ x ∧ x < 55296) ∨ (57343 < x ∧ x ≤ 1114111)
      · have hY := isRune_yes x w hR
        have hL := len16_any x w hR
        have hwl := words_len x
        have HQ : Hid (((xs.take (k + 1)).flatMap words).length = m + (words x).length) := by rw [flat_next hx, List.length_append, hq.out]; rfl
        clear hx hwf hq hR
        generalize (words x).length = q at *
        go_wp2_with (first | (go_at_call 21; refine hY.mono ?_; rintro e w' ⟨rfl, rfl⟩) | (go_at_call 22; refine hL.mono ?_; rintro e w' ⟨rfl, rfl⟩))
        go_round
        case rel => exact ⟨k + 1, m + q, by omega, by go_num, by go_num, by omega, HQ.out⟩
        case measure => simp [intOf]; omega
      · have hY := isRune_no x w hR
        clear hx hwf hq hR
        go_wp2_with (go_at_call 21; refine hY.mono ?_; rintro e w' ⟨rfl, rfl⟩)
        go_ret
        exact ⟨rfl, Below.refl _ _⟩
    · obtain rfl : n = k := by omega
      have hl := H.out.len
      have hq' := hq.out
      rw [List.take_of_length_le (by omega)] at hq'
      have HC := Lib.hid (implEncode_any A n c xs w H.out (by omega))
      generalize xs.flatMap words = ys at *
      have hone := fun w2 => len16_any 0 w2 (by omega)
      rw [words_one (by omega)] at hone
      have HO := Lib.hid hone
      subst hq'
      clear hl hone hq
      go_wp2_with fail
      refine HC.out.mono ?_
      rintro e w1 ⟨A1, c1, rfl, o1, b1⟩
      clear o1
      go_wp2_with fail
      refine (HO.out w1).mono ?_
      rintro e w2 ⟨rfl, rfl⟩
      go_wp2
      go_ret
      exact ⟨rfl, b1⟩

end Go.Proofs.Ytkpehilgjckekaa
