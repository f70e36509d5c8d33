/-
  Proved here: contracts of goutf16.Decode, impl.Decode, spec.OfWords. Condition: at most 1000000 words.
-/
import Derived.Test.YtkpehilgjckekaaC4
namespace Go.Proofs.Ytkpehilgjckekaa
open Go.RowKit

theorem decodeAll_any (A : Option Addr) (n c : Nat) (xs : List Int) (w : World) (h : IsL w w.heap.size .u16 A n xs) (hn : n ≤ 1000000) :
    Calls Try.prog 37 #[.slice A n c] w (GivesL w 21 .i32 (ofWords xs)) := by
  obtain ⟨i0, hi, hz0, hz1, hz2⟩ := info_parts info32
  go_enter Try.func37, Try.ntmps37
  go_wp2_with (at_make; refine wpList_make_own _ rfl _ _ 35 rfl w.heap.size 21 i0 (.int .i32 0) 1 Try.underlying35 hi hz0 hz1 .i64 .i64 64 64 rfl rfl rfl (by rw [hz2]; omega) (by unfold maxLen; omega) (Nat.le_refl _) ?_)
  intro w1 own1 g1
  have o1 : OwnsL w1 w.heap.size 21 .i32 (.slice (some ⟨w.heap.size, 0, none⟩) 0 64) [] := own1
  have b1 : Below w.heap.size w w1 := (Below.refl _ _).grown g1 (Nat.le_refl _) (by simp)
  have h1 := h.below b1
  clear own1 g1
  go_wp2_with fail
  refine (decode_any w.heap.size A _ n c 64 xs w1 h1 hn o1 b1.size).mono ?_
  rintro e w2 ⟨v, rfl, o2, b2⟩
  have R := gives_own o2 (b1.trans b2)
  clear o2 o1 h1 h
  go_wp2
  go_ret
  exact R

theorem implDecode_any (A : Option Addr) (n c : Nat) (xs : List Int) (w : World) (h : IsL w w.heap.size .u16 A n xs) (hn : n ≤ 1000000) :
    Calls Try.prog 26 #[.slice A n c] w (GivesL w 21 .i32 (ofWords xs)) := by
  have hl := h.len
  have hf : FitL .u16 xs := h.fit
  have hwf : FitL .i32 (ofWords xs) := ofWords_wf xs hf
  have hyl : (ofWords xs).length ≤ 2147483648 := by have := ofWords_len xs; omega
  have HA := Lib.hid (fun (w1 : World) (A1 : Option Addr) (c1 : Nat) h1 => decodeAll_any A1 xs.length c1 xs w1 h1 (by omega))
  generalize ofWords xs = ys at *
  have HC := clone16_any A n c xs w h (by omega)
  clear h hl
  go_enter Try.func26, Try.ntmps26
  go_wp2_with fail
  refine HC.mono ?_
  rintro e w1 ⟨A1, c1, rfl, h1, hb1⟩
  have hI1 := OwnsL.isL (e := 29) (k := .u16) h1 hf
  go_wp2_with fail
  refine (HA.out w1 A1 c1 hI1).mono ?_
  rintro e w2 ⟨A2, c2, rfl, h2, hb2⟩
  have hI2 := OwnsL.isL (e := 21) (k := .i32) h2 hwf
  go_wp2_with fail
  refine (clone32_any A2 _ c2 ys w2 hI2 hyl).mono ?_
  rintro e w3 ⟨A3, c3, rfl, h3, hb3⟩
  have hb := (hb1.trans (hb2.mono hb1.size)).trans (hb3.mono (Nat.le_trans hb1.size hb2.size))
  have H3 : OwnsL w3 w.heap.size 21 .i32 (.slice A3 ys.length c3) ys := OwnsL.low h3 (Nat.le_trans hb1.size hb2.size)
  clear h3 h2 h1
  go_wp2
  go_ret
  exact ⟨A3, c3, rfl, H3, hb⟩

theorem half_yes (x : Int) (w : World) (h1 : 55296 ≤ x) (h2 : x ≤ 57343) : Calls Try.prog 16 #[.int .i32 x] w fun e w' => e = .returned (.bool true) ∧ w = w' := by
  go_enter Try.func16, Try.ntmps16
  go_wp2
  all_goals go_ret
  all_goals exact ⟨ret_bool (by first | rfl | (simp; omega)), rfl⟩
theorem half_no (x : Int) (w : World) (h1 : x < 55296 ∨ 57343 < x) : Calls Try.prog 16 #[.int .i32 x] w fun e w' => e = .returned (.bool false) ∧ w = w' := by
  rcases h1 with h1 | h1
  all_goals
    go_enter Try.func16, Try.ntmps16
    go_wp2
    all_goals go_ret
    all_goals exact ⟨ret_bool (by first | rfl | (simp; omega)), rfl⟩
theorem paired_yes (x y : Int) (w : World) (h : 55296 ≤ x ∧ x ≤ 56319 ∧ 56320 ≤ y ∧ y ≤ 57343) : Calls Try.prog 18 #[.int .i32 x, .int .i32 y] w fun e w' => e = .returned (.int .i32 (joined x y)) ∧ w = w' := by
  go_enter Try.func18, Try.ntmps18
  go_wp2
  all_goals first | (exfalso; omega) | skip
  all_goals go_ret
  all_goals exact ⟨ret_int (by first | rfl | (unfold joined; omega)), rfl⟩
theorem paired_no (x y : Int) (w : World) (h : ¬ (55296 ≤ x ∧ x ≤ 56319 ∧ 56320 ≤ y ∧ y ≤ 57343)) (hr : 0 ≤ x ∧ x ≤ 65535 ∧ 0 ≤ y ∧ y ≤ 65535) : Calls Try.prog 18 #[.int .i32 x, .int .i32 y] w fun e w' => e = .returned (.int .i32 65533) ∧ w = w' := by
  go_enter Try.func18, Try.ntmps18
  go_wp2
  all_goals first | (exfalso; omega) | skip
  all_goals go_ret
  all_goals exact ⟨rfl, rfl⟩

set_option maxHeartbeats 1000000 in
theorem ofWords_any (A : Option Addr) (n c : Nat) (xs : List Int) (w : World) (h : IsL w w.heap.size .u16 A n xs) (hn : n ≤ 1000000) :
    Calls Try.prog 27 #[.slice A n c] w (GivesL w 21 .i32 (ofWords xs)) := by
  obtain ⟨i0, hi, hz0, hz1, hz2⟩ := info_parts info32
  have H := Lib.hid h
  clear h
  go_enter Try.func27, Try.ntmps27
  go_wp2
  go_loopw [3, 4] (fun v i wr => ∃ (k : Nat) (acc : List Int), k ≤ n ∧ i = .int .i64 k ∧ OwnsL wr w.heap.size 21 .i32 v acc ∧ Hid (acc ++ ofWords (xs.drop k) = ofWords xs) ∧ acc.length ≤ k ∧ Below w.heap.size w wr) (fun _ i _ => n - (intOf i).toNat)
  case atStart => exact ⟨0, [], Nat.zero_le _, rfl, OwnsL.lit0 w 21 .i32, by simp [Hid], by simp, (Below.refl _ _).alloc (Nat.le_refl _) _⟩
  case round =>
    obtain ⟨k, acc, hk, rfl, ho, hinv, hacc, hb⟩ := hrel
    have hsz := hb.size
    by_cases hlt : k < n
    · obtain ⟨b, off, x, rfl, hbb, hx, hwf, hc⟩ := (H.out.below hb).at_ hlt
      have HX := Lib.hid hx
      obtain ⟨hx0, hx1⟩ := word_range hwf
      clear hx hwf
      by_cases h1 : x < 55296 ∨ 57343 < x
      · have HI := Lib.hid (of_step_one HX.out (isHalf_no h1) hinv.out)
        have hH := half_no x wr h1
        clear hinv h1
        go_wp2_with (first | (go_at_call 16; refine hH.mono ?_; rintro e w' ⟨rfl, rfl⟩) | (at_builtin; refine wpList_append_O _ rfl _ _ 35 rfl w.heap.size 21 i0 (.int .i32 0) 4 Try.underlying35 hi hz0 hz1 hz2 rfl .i32 _ acc rfl (ho.alloc _) (wr.heap.size + 1) _ 1 1 [x] rfl (IsL.new1 wr 21 x (wf_i32 (by omega))) (by unfold maxLen; omega) (by omega) (by simp; omega) ?_))
        intro v' w1 hg
        have ho1 := hg.own
        have hb1 := hb.trans (hg.alloc_left.below ho (Nat.le_refl _) (by omega))
        clear hg ho hb
        go_wp2
        go_roundw
        case rel => exact ⟨k + 1, acc ++ [x], by omega, by go_num, ho1, HI.out, by simp; omega, hb1⟩
        case measure => simp [intOf]; omega
      · have p1 : 55296 ≤ x := by omega
        have p2 : x ≤ 57343 := by omega
        have hh := isHalf_yes p1 p2
        have hH := half_yes x wr p1 p2
        clear h1
        by_cases hlt2 : k + 1 < n
        · obtain ⟨b2, off2, y, hA, _, hy, hwy, hc2⟩ := (H.out.below hb).at_ hlt2
          simp only [Option.some.injEq, Addr.mk.injEq, and_true] at hA
          obtain ⟨rfl, rfl⟩ := hA
          have HY := Lib.hid hy
          obtain ⟨hy0, hy1⟩ := word_range hwy
          clear hy hwy
          by_cases h3 : 55296 ≤ x ∧ x ≤ 56319 ∧ 56320 ≤ y ∧ y ≤ 57343
          · have hjr := joined_range h3
            have HI := Lib.hid (of_step_two HX.out HY.out (isPair_yes h3) hinv.out)
            have hP := paired_yes x y wr h3
            have hH2 := half_no (joined x y) wr (by omega)
            have hne : (joined x y != 65533) = true := by rw [bne_iff_ne]; omega
            clear hinv hh h3
            go_wp2_with (first | (go_at_call 16; refine hH.mono ?_; rintro e w' ⟨rfl, rfl⟩) | (go_at_call 18; refine hP.mono ?_; rintro e w' ⟨rfl, rfl⟩) | (at_builtin; refine wpList_append_O _ rfl _ _ 35 rfl w.heap.size 21 i0 (.int .i32 0) 4 Try.underlying35 hi hz0 hz1 hz2 rfl .i32 _ acc rfl (ho.alloc _) (wr.heap.size + 1) _ 1 1 [joined x y] rfl (IsL.new1 wr 21 _ (wf_i32 (by omega))) (by unfold maxLen; omega) (by omega) (by simp; omega) ?_))
            intro v' w1 hg
            have ho1 := hg.own
            have hb1 := hb.trans (hg.alloc_left.below ho (Nat.le_refl _) (by omega))
            clear hg ho hb
            go_wp2
            go_roundw
            case rel => exact ⟨k + 2, acc ++ [joined x y], by omega, by go_num, ho1, HI.out, by simp; omega, hb1⟩
            case measure => simp [intOf]; omega
          · have HI := Lib.hid (of_step_bad HX.out hh (fun z hz => isPair_no (by rw [HY.out] at hz; obtain rfl := Option.some.inj hz; omega)) hinv.out)
            have hP := paired_no x y wr h3 (by omega)
            clear hinv hh h3
            go_wp2_with (first | (go_at_call 16; refine hH.mono ?_; rintro e w' ⟨rfl, rfl⟩) | (go_at_call 18; refine hP.mono ?_; rintro e w' ⟨rfl, rfl⟩) | (at_builtin; refine wpList_append_O _ rfl _ _ 35 rfl w.heap.size 21 i0 (.int .i32 0) 4 Try.underlying35 hi hz0 hz1 hz2 rfl .i32 _ acc rfl (ho.alloc _) (wr.heap.size + 1) _ 1 1 [65533] rfl (IsL.new1 wr 21 65533 (wf_i32 (by omega))) (by unfold maxLen; omega) (by omega) (by simp; omega) ?_))
            intro v' w1 hg
            have ho1 := hg.own
            have hb1 := hb.trans (hg.alloc_left.below ho (Nat.le_refl _) (by omega))
            clear hg ho hb
            go_wp2
            go_roundw
            case rel => exact ⟨k + 1, acc ++ [65533], by omega, by go_num, ho1, HI.out, by simp; omega, hb1⟩
            case measure => simp [intOf]; omega
        · have HI := Lib.hid (of_step_bad HX.out hh (fun z hz => by
            have h6 := (List.getElem?_eq_some_iff.1 hz).1
            have h7 := H.out.len
            omega) hinv.out)
          clear hinv hh
          go_wp2_with (first | (go_at_call 16; refine hH.mono ?_; rintro e w' ⟨rfl, rfl⟩) | (at_builtin; refine wpList_append_O _ rfl _ _ 35 rfl w.heap.size 21 i0 (.int .i32 0) 4 Try.underlying35 hi hz0 hz1 hz2 rfl .i32 _ acc rfl (ho.alloc _) (wr.heap.size + 1) _ 1 1 [65533] rfl (IsL.new1 wr 21 65533 (wf_i32 (by omega))) (by unfold maxLen; omega) (by omega) (by simp; omega) ?_))
          intro v' w1 hg
          have ho1 := hg.own
          have hb1 := hb.trans (hg.alloc_left.below ho (Nat.le_refl _) (by omega))
          clear hg ho hb
          go_wp2
          go_roundw
          case rel => exact ⟨k + 1, acc ++ [65533], by omega, by go_num, ho1, HI.out, by simp; omega, hb1⟩
          case measure => simp [intOf]; omega
    · obtain rfl : n = k := by omega
      have he := hinv.out
      rw [List.drop_eq_nil_of_le (by have := H.out.len; omega)] at he
      simp only [ofWords, List.append_nil] at he
      rw [he] at ho
      clear he hinv
      go_wp2
      go_ret
      exact gives_own ho hb

end Go.Proofs.Ytkpehilgjckekaa
