/-
  Proved here: the walks of the laws FnEncodeDecoded and FnDecodeEncoded: each returns true for every input. No conditions.
-/
import Derived.Test.YtkpehilgjckekaaL2
namespace Go.Proofs.Ytkpehilgjckekaa
open Go.RowKit

set_option maxHeartbeats 1000000 in
theorem fnEncodeDecoded_walk (A : Option Addr) (n c : Nat) (xs : List Int) (w : World) (h : IsL w w.heap.size .u16 A n xs) :
    Calls Try.prog 14 #[.slice A n c] w fun e w' => e = .returned (.bool true) ∧ Below w.heap.size w w' := by
  have H := Lib.hid h
  clear h
  by_cases h1 : (2147483647 : Int) < (n : Int)
  · go_enter Try.func14, Try.ntmps14
    go_wp2
    go_ret
    exact ⟨rfl, Below.refl _ _⟩
  by_cases h2 : (1000 : Int) < (n : Int)
  · go_enter Try.func14, Try.ntmps14
    go_wp2
    go_ret
    exact ⟨rfl, Below.refl _ _⟩
  have hl := H.out.len
  have hyf : FitL .i32 (ofWords xs) := ofWords_wf xs H.out.fit
  have hzf : FitL .u16 ((ofWords xs).flatMap words) := flat_wf _
  have hyl : (ofWords xs).length ≤ 1000 := by have := ofWords_len xs; omega
  have hzl : ((ofWords xs).flatMap words).length ≤ 2147483648 := by have := flat_len (ofWords xs); omega
  have HC := Lib.hid (fun w2 h => ofWords_any A n c xs w2 h (by omega))
  have HD := Lib.hid (fun w2 h => implDecode_any A n c xs w2 h (by omega))
  have HE := Lib.hid (fun A1 c1 w2 h => wordsOf_any A1 (ofWords xs).length c1 (ofWords xs) w2 h (by omega))
  have HF := Lib.hid (fun A1 c1 w2 h => implEncode_any A1 (ofWords xs).length c1 (ofWords xs) w2 h (by omega))
  generalize (ofWords xs).flatMap words = zs at *
  generalize ofWords xs = ys at *
  have HL := Lib.hid hl
  clear hl
  have hnb : n ≤ 2147483648 := by omega
  go_enter Try.func14, Try.ntmps14
  go_wp2_with fail
  refine (HC.out w H.out).mono ?_
  rintro e w1 ⟨A1, c1, rfl, o1, b1⟩
  have i1 := OwnsL.isL (e := 21) (k := .i32) o1 hyf
  clear o1
  go_wp2_with fail
  refine (HE.out A1 c1 w1 i1).mono ?_
  rintro e w2 ⟨A2, c2, rfl, o2, b2⟩
  have i2 := OwnsL.isL (e := 29) (k := .u16) o2 hzf
  have b12 := b1.trans (b2.mono b1.size)
  clear o2 i1
  go_wp2_with fail
  refine (sameWords_any A2 A zs.length c2 n c zs xs w2 i2 (H.out.upto b12) hzl hnb).mono ?_
  rintro e w3 ⟨rfl, b3⟩
  have b13 := b12.trans (b3.mono b12.size)
  clear i2
  by_cases hzx : zs = xs
  · rw [show decide (zs = xs) = true from by simpa using hzx]
    have HZ := Lib.hid hzx
    clear hzx
    go_wp2_with fail
    refine (HD.out w3 (H.out.upto b13)).mono ?_
    rintro e w4 ⟨A4, c4, rfl, o4, b4⟩
    have i4 := OwnsL.isL (e := 21) (k := .i32) o4 hyf
    have b14 := b13.trans (b4.mono b13.size)
    clear o4
    go_wp2_with fail
    refine (HF.out A4 c4 w4 i4).mono ?_
    rintro e w5 ⟨A5, c5, rfl, o5, b5⟩
    have i5 := OwnsL.isL (e := 29) (k := .u16) o5 hzf
    have b15 := b14.trans (b5.mono b14.size)
    clear o5 i4
    go_wp2_with fail
    refine (sameWords_any A5 A zs.length c5 n c zs xs w5 i5 (H.out.upto b15) hzl hnb).mono ?_
    rintro e w6 ⟨rfl, b6⟩
    have b16 := b15.trans (b6.mono b15.size)
    rw [show decide (zs = xs) = true from by simpa using HZ.out]
    clear i5
    go_wp2_with fail
    refine (decode_zero w6).mono ?_
    rintro e w7 ⟨A7, c7, rfl, b7⟩
    have bfin := b16.trans (b7.mono b16.size)
    go_wp2
    go_ret
    exact ⟨rfl, bfin⟩
  · rw [show decide (zs = xs) = false from by simpa using hzx]
    go_wp2
    go_ret
    exact ⟨rfl, b13⟩

theorem shown_range {r : Int} (h : -2147483648 ≤ r ∧ r ≤ 2147483647) : -2147483648 ≤ shown r ∧ shown r ≤ 2147483647 := by
  unfold shown; split <;> omega
theorem map_next {xs : List Int} {k : Nat} {x : Int} (hx : xs[k]? = some x) : (xs.map shown).take (k + 1) = (xs.map shown).take k ++ [shown x] := by
  rw [List.take_add_one]; simp [hx]
theorem shown_fit (xs : List Int) (h : FitL .i32 xs) : FitL .i32 (xs.map shown) := by
  intro y hy
  obtain ⟨x, hx, rfl⟩ := List.mem_map.1 hy
  exact wf_i32 (shown_range (rune_range (h x hx)))

set_option maxHeartbeats 1000000 in
theorem fnDecodeEncoded_walk (A : Option Addr) (n c : Nat) (xs : List Int) (w : World) (h : IsL w w.heap.size .i32 A n xs) :
    Calls Try.prog 13 #[.slice A n c] w fun e w' => e = .returned (.bool true) ∧ Below w.heap.size w w' := by
  obtain ⟨i0, hi, hz0, hz1, hz2⟩ := info_parts info32
  have H := Lib.hid h
  clear h
  by_cases h1 : (2147483647 : Int) < (n : Int)
  · go_enter Try.func13, Try.ntmps13
    go_wp2
    go_ret
    exact ⟨rfl, Below.refl _ _⟩
  by_cases h2 : (1000 : Int) < (n : Int)
  · go_enter Try.func13, Try.ntmps13
    go_wp2
    go_ret
    exact ⟨rfl, Below.refl _ _⟩
  go_enter Try.func13, Try.ntmps13
  go_wp2
  go_loopw [3, 15] (fun v i wr => ∃ k : Nat, k ≤ n ∧ i = .int .i64 k ∧ OwnsL wr w.heap.size 21 .i32 v ((xs.map shown).take k) ∧ Below w.heap.size w wr) (fun _ i _ => n - (intOf i).toNat)
  case atStart => exact ⟨0, Nat.zero_le _, rfl, OwnsL.lit0 w 21 .i32, (Below.refl _ _).alloc (Nat.le_refl _) _⟩
  case round =>
    obtain ⟨k, hk, rfl, ho, hb⟩ := hrel
    have hsz := hb.size
    by_cases hlt : k < n
    · obtain ⟨b, off, x, rfl, hbb, hx, hwf, hc⟩ := (H.out.below hb).at_ hlt
      have hr := rune_range hwf
      have hl3 : ((xs.map shown).take k).length ≤ k := List.length_take_le _ _
      have HT := Lib.hid (map_next hx)
      clear hx hwf
      by_cases hR : (0 ≤ x ∧ x < 55296) ∨ (57343 < x ∧ x ≤ 1114111)
      · have hY := isRune_yes x wr hR
        have hsx : shown x = x := by simp [shown, isRune_iff.2 hR]
        have HS := Lib.hid hsx
        clear hsx hR
        go_wp2_with (first | (go_at_call 21; refine hY.mono ?_; rintro e w' ⟨rfl, rfl⟩) | (at_builtin; refine wpList_append_O _ rfl _ _ 35 rfl w.heap.size 21 i0 (.int .i32 0) 4 Try.underlying35 hi hz0 hz1 hz2 rfl .i32 _ ((xs.map shown).take k) rfl (ho.alloc _) (wr.heap.size + 1) _ 1 1 [x] rfl (IsL.new1 wr 21 x (wf_i32 hr)) (by unfold maxLen; have := hl3; omega) (by have := hl3; omega) (by simp; omega) ?_))
        intro v' w1 hg
        have ho1 : OwnsL w1 w.heap.size 21 .i32 v' ((xs.map shown).take (k + 1)) := by rw [HT.out, HS.out]; exact hg.own
        have hb1 := hb.trans (hg.alloc_left.below ho (Nat.le_refl _) (by omega))
        clear hg ho hb
        go_wp2
        go_roundw
        case rel => exact ⟨k + 1, by omega, by go_num, ho1, hb1⟩
        case measure => simp [intOf]; omega
      · have hY := isRune_no x wr hR
        have hsx : shown x = 65533 := by simp [shown, isRune_not.2 hR]
        have HS := Lib.hid hsx
        clear hsx hR
        go_wp2_with (first | (go_at_call 21; refine hY.mono ?_; rintro e w' ⟨rfl, rfl⟩) | (at_builtin; refine wpList_append_O _ rfl _ _ 35 rfl w.heap.size 21 i0 (.int .i32 0) 4 Try.underlying35 hi hz0 hz1 hz2 rfl .i32 _ ((xs.map shown).take k) rfl (ho.alloc _) (wr.heap.size + 1) _ 1 1 [65533] rfl (IsL.new1 wr 21 65533 (wf_i32 (by omega))) (by unfold maxLen; have := hl3; omega) (by have := hl3; omega) (by simp; omega) ?_))
        intro v' w1 hg
        have ho1 : OwnsL w1 w.heap.size 21 .i32 v' ((xs.map shown).take (k + 1)) := by rw [HT.out, HS.out]; exact hg.own
        have hb1 := hb.trans (hg.alloc_left.below ho (Nat.le_refl _) (by omega))
        clear hg ho hb
        go_wp2
        go_roundw
        case rel => exact ⟨k + 1, by omega, by go_num, ho1, hb1⟩
        case measure => simp [intOf]; omega
    · obtain rfl : n = k := by omega
      have hl := H.out.len
      rw [List.take_of_length_le (by rw [List.length_map]; omega)] at ho
      have hsf := shown_fit xs H.out.fit
      have hsl : (xs.map shown).length ≤ 2147483648 := by simp only [List.length_map]; omega
      have hff : FitL .u16 (xs.flatMap words) := flat_wf xs
      have hfl : (xs.flatMap words).length ≤ 1000000 := by have := flat_len xs; omega
      have HC := Lib.hid (fun w2 h => implEncode_any A n c xs w2 h (by omega))
      have HD := Lib.hid (fun A1 c1 w2 h => implDecode_any A1 (xs.flatMap words).length c1 (xs.flatMap words) w2 h hfl)
      rw [ofWords_flat] at HD
      generalize xs.flatMap words = fs at *
      generalize xs.map shown = ys at *
      obtain ⟨A0, c0, rfl⟩ := ho.form
      clear hl
      go_wp2_with fail
      refine (HC.out wr (H.out.upto hb)).mono ?_
      rintro e w1 ⟨A1, c1, rfl, o1, b1⟩
      have i1 := OwnsL.isL (e := 29) (k := .u16) o1 hff
      clear o1
      go_wp2_with fail
      refine (HD.out A1 c1 w1 i1).mono ?_
      rintro e w2 ⟨A2, c2, rfl, o2, b2⟩
      have i2 := OwnsL.isL (e := 21) (k := .i32) o2 hsf
      have b12 := b1.trans (b2.mono b1.size)
      have i0' := (ho.isL hsf).upto b12
      have ball := hb.trans (b12.mono hb.size)
      clear o2 ho i1
      go_wp2_with fail
      refine (sameRunes_any A2 A0 ys.length c2 ys.length c0 ys ys w2 i2 i0' hsl hsl).mono ?_
      rintro e w3 ⟨rfl, b3⟩
      have b123 := ball.trans (b3.mono ball.size)
      rw [show decide (ys = ys) = true from by simp]
      clear i2 i0'
      go_wp2_with fail
      refine (encode_zero w3).mono ?_
      rintro e w4 ⟨A4, c4, rfl, b4⟩
      have bfin := b123.trans (b4.mono b123.size)
      go_wp2
      go_ret
      exact ⟨rfl, bfin⟩

end Go.Proofs.Ytkpehilgjckekaa
