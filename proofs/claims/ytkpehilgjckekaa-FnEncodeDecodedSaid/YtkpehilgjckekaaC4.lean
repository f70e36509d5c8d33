/-
  Proved here: contracts of impl.Encode, goutf16.decode, goutf16.Decode, impl.Decode, spec.OfWords. Condition: at most 1000000 numbers.
-/
import Derived.Test.YtkpehilgjckekaaC3
namespace Go.Proofs.Ytkpehilgjckekaa
open Go.RowKit

theorem implEncode_any (A : Option Addr) (n c : Nat) (xs : List Int) (w : World) (h : IsL w w.heap.size .i32 A n xs) (hn : n ≤ 1000000) :
    Calls Try.prog 28 #[.slice A n c] w (GivesL w 29 .u16 (xs.flatMap words)) := by
  have hl := h.len
  have hf : FitL .i32 xs := h.fit
  have hwf : FitL .u16 (xs.flatMap words) := flat_wf xs
  have hyl : (xs.flatMap words).length ≤ 2147483648 := by have := flat_len xs; omega
  have HA := Lib.hid (fun (w1 : World) (A1 : Option Addr) (c1 : Nat) h1 => encode_any A1 xs.length c1 xs w1 h1 (by omega))
  generalize xs.flatMap words = ys at *
  have HC := clone32_any A n c xs w h (by omega)
  clear h hl
  go_enter Try.func28, Try.ntmps28
  go_wp2_with fail
  refine HC.mono ?_
  rintro e w1 ⟨A1, c1, rfl, h1, hb1⟩
  have hI1 := OwnsL.isL (e := 21) (k := .i32) h1 hf
  go_wp2_with fail
  refine (HA.out w1 A1 c1 hI1).mono ?_
  rintro e w2 ⟨A2, c2, rfl, h2, hb2⟩
  have hI2 := OwnsL.isL (e := 29) (k := .u16) h2 hwf
  go_wp2_with fail
  refine (clone16_any A2 _ c2 ys w2 hI2 hyl).mono ?_
  rintro e w3 ⟨A3, c3, rfl, h3, hb3⟩
  have hb := (hb1.trans (hb2.mono hb1.size)).trans (hb3.mono (Nat.le_trans hb1.size hb2.size))
  have H3 : OwnsL w3 w.heap.size 29 .u16 (.slice A3 ys.length c3) ys := OwnsL.low h3 (Nat.le_trans hb1.size hb2.size)
  clear h3 h2 h1
  go_wp2
  go_ret
  exact ⟨A3, c3, rfl, H3, hb⟩

theorem ret_int {k : IntKind} {a b : Int} (h : a = b) : Ending.returned (.int k a) = .returned (.int k b) := by rw [h]

theorem drop_at {xs : List Int} {k : Nat} {x : Int} (hx : xs[k]? = some x) : xs.drop k = x :: xs.drop (k + 1) := by
  obtain ⟨hk, rfl⟩ := List.getElem?_eq_some_iff.1 hx
  exact List.drop_eq_getElem_cons hk
theorem of_step_one {xs acc : List Int} {k : Nat} {x : Int} (hx : xs[k]? = some x) (h : isHalf x = false) (hi : acc ++ ofWords (xs.drop k) = ofWords xs) : (acc ++ [x]) ++ ofWords (xs.drop (k + 1)) = ofWords xs := by
  rw [← hi, drop_at hx, ofWords_one _ _ h]
  simp
theorem of_step_two {xs acc : List Int} {k : Nat} {x y : Int} (hx : xs[k]? = some x) (hy : xs[k + 1]? = some y) (h : isPair x y = true) (hi : acc ++ ofWords (xs.drop k) = ofWords xs) :
    (acc ++ [joined x y]) ++ ofWords (xs.drop (k + 2)) = ofWords xs := by
  rw [← hi, drop_at hx, drop_at hy]
  simp [ofWords, h]
theorem of_step_bad {xs acc : List Int} {k : Nat} {x : Int} (hx : xs[k]? = some x) (hh : isHalf x = true) (h : ∀ y, xs[k + 1]? = some y → isPair x y = false) (hi : acc ++ ofWords (xs.drop k) = ofWords xs) :
    (acc ++ [65533]) ++ ofWords (xs.drop (k + 1)) = ofWords xs := by
  rw [← hi, drop_at hx]
  cases he : xs[k + 1]? with
  | none =>
    have : xs.drop (k + 1) = [] := List.drop_eq_nil_of_le (List.getElem?_eq_none_iff.1 he)
    rw [this]
    simp [ofWords, lone, hh]
  | some y =>
    rw [drop_at he]
    simp [ofWords, h y he, lone, hh]
theorem isHalf_no {x : Int} (h : x < 55296 ∨ 57343 < x) : isHalf x = false := by simp only [isHalf, decide_eq_false_iff_not]; omega
theorem isHalf_yes {x : Int} (h1 : 55296 ≤ x) (h2 : x ≤ 57343) : isHalf x = true := by simp only [isHalf, decide_eq_true_eq]; omega
theorem isPair_no {x y : Int} (h : ¬ (55296 ≤ x ∧ x ≤ 56319 ∧ 56320 ≤ y ∧ y ≤ 57343)) : isPair x y = false := by simp only [isPair, decide_eq_false_iff_not]; exact h
theorem isPair_yes {x y : Int} (h : 55296 ≤ x ∧ x ≤ 56319 ∧ 56320 ≤ y ∧ y ≤ 57343) : isPair x y = true := by simp only [isPair, decide_eq_true_eq]; exact h

theorem word_range {r : Int} (h : (Lit.int .u16 r).wf = true) : 0 ≤ r ∧ r ≤ 65535 := by
  simp [Lit.wf, IntKind.min, IntKind.max, IntKind.bits, IntKind.signed] at h
  omega
theorem joined_range {x y : Int} (h : 55296 ≤ x ∧ x ≤ 56319 ∧ 56320 ≤ y ∧ y ≤ 57343) : 65536 ≤ joined x y ∧ joined x y ≤ 1114111 := by unfold joined; omega

theorem decodeRune_pair (x y : Int) (w : World) (h1 : 55296 ≤ x) (h2 : x ≤ 56319) (h3 : 56320 ≤ y) (h4 : y ≤ 57343) : Calls Try.prog 31 #[.int .i32 x, .int .i32 y] w fun e w' => e = .returned (.int .i32 (joined x y)) ∧ w = w' := by
  have hj := or_join x y h1 (by omega) h3 (by omega)
  go_enter Try.func31, Try.ntmps31
  go_wp2
  go_ret
  exact ⟨ret_int (by unfold joined; omega), rfl⟩

set_option maxHeartbeats 1000000 in
theorem decode_any (base : Nat) (A A2 : Option Addr) (n c c2 : Nat) (xs : List Int) (w : World) (h : IsL w base .u16 A n xs) (hn : n ≤ 1000000) (hown : OwnsL w base 21 .i32 (.slice A2 0 c2) []) (hbase : base ≤ w.heap.size) :
    Calls Try.prog 39 #[.slice A n c, .slice A2 0 c2] w fun e w' => ∃ v, e = .returned v ∧ OwnsL w' base 21 .i32 v (ofWords xs) ∧ Below base w w' := by
  obtain ⟨i0, hi, hz0, hz1, hz2⟩ := info_parts info32
  have H := Lib.hid h
  clear h
  go_enter Try.func39, Try.ntmps39
  go_wp2
  go_loopw [1, 5] (fun v i wr => ∃ (k : Nat) (acc : List Int), k ≤ n ∧ i = .int .i64 k ∧ OwnsL wr base 21 .i32 v acc ∧ Hid (acc ++ ofWords (xs.drop k) = ofWords xs) ∧ acc.length ≤ k ∧ Below base w wr) (fun _ i _ => n - (intOf i).toNat)
  case atStart => exact ⟨0, [], Nat.zero_le _, rfl, hown, by simp [Hid], by simp, Below.refl _ _⟩
  case round =>
    obtain ⟨k, acc, hk, rfl, ho, hinv, hacc, hb⟩ := hrel
    have hsz := hb.size
    by_cases hlt : k < n
    · obtain ⟨b, off, x, rfl, hbb, hx, hwf, hc⟩ := (H.out.below hb).at_ hlt
      have HX := Lib.hid hx
      obtain ⟨hx0, hx1⟩ := word_range hwf
      clear hx hwf
      by_cases h1 : x < 55296 ∨ 57343 < x
      · have HI := Lib.hid (of_step_one HX.out (isHalf_no h1) hinv.out)
        clear hinv
        rcases h1 with h1 | h1
        all_goals
          go_wp2_with (at_builtin; refine wpList_append_O _ rfl _ _ 35 rfl base 21 i0 (.int .i32 0) 4 Try.underlying35 hi hz0 hz1 hz2 rfl .i32 _ acc rfl (ho.alloc _) (wr.heap.size + 1) _ 1 1 [x] rfl (IsL.new1 wr 21 x (wf_i32 (by omega))) (by unfold maxLen; omega) (by omega) (by simp; omega) ?_)
          intro v' w1 hg
          have ho1 := hg.own
          have hb1 := hb.trans (hg.alloc_left.below ho (Nat.le_refl _) (by omega))
          clear hg ho hb
          go_wp2
          go_roundw
          case rel => exact ⟨k + 1, acc ++ [x], by omega, by go_num, ho1, HI.out, by simp; omega, hb1⟩
          case measure => simp [intOf]; omega
      · have p1 : 55296 ≤ x := by omega
        have p2 : x ≤ 57343 := by omega
        have hh := isHalf_yes p1 p2
        by_cases h2 : 56319 < x
        · have HI := Lib.hid (of_step_bad HX.out hh (fun y _ => isPair_no (by omega)) hinv.out)
          clear hinv hh h1
          go_wp2_with (at_builtin; refine wpList_append_O _ rfl _ _ 35 rfl base 21 i0 (.int .i32 0) 4 Try.underlying35 hi hz0 hz1 hz2 rfl .i32 _ acc rfl (ho.alloc _) (wr.heap.size + 1) _ 1 1 [65533] rfl (IsL.new1 wr 21 65533 (wf_i32 (by omega))) (by unfold maxLen; omega) (by omega) (by simp; omega) ?_)
          intro v' w1 hg
          have ho1 := hg.own
          have hb1 := hb.trans (hg.alloc_left.below ho (Nat.le_refl _) (by omega))
          clear hg ho hb
          go_wp2
          go_roundw
          case rel => exact ⟨k + 1, acc ++ [65533], by omega, by go_num, ho1, HI.out, by simp; omega, hb1⟩
          case measure => simp [intOf]; omega
        · by_cases hlt2 : k + 1 < n
          · obtain ⟨b2, off2, y, hA, _, hy, hwy, hc2⟩ := (H.out.below hb).at_ hlt2
            simp only [Option.some.injEq, Addr.mk.injEq, and_true] at hA
            obtain ⟨rfl, rfl⟩ := hA
            have HY := Lib.hid hy
            obtain ⟨hy0, hy1⟩ := word_range hwy
            clear hy hwy
            by_cases h3 : 56320 ≤ y ∧ y ≤ 57343
            · obtain ⟨q1, q2⟩ := h3
              have hjr := joined_range (x := x) (y := y) (by omega)
              have HI := Lib.hid (of_step_two HX.out HY.out (isPair_yes (by omega)) hinv.out)
              have hD := decodeRune_pair x y wr (by omega) (by omega) q1 q2
              clear hinv hh h1
              go_wp2_with (first | (go_at_call 31; refine hD.mono ?_; rintro e w' ⟨rfl, rfl⟩) | (at_builtin; refine wpList_append_O _ rfl _ _ 35 rfl base 21 i0 (.int .i32 0) 4 Try.underlying35 hi hz0 hz1 hz2 rfl .i32 _ acc rfl (ho.alloc _) (wr.heap.size + 1) _ 1 1 [joined x y] rfl (IsL.new1 wr 21 _ (wf_i32 (by omega))) (by unfold maxLen; omega) (by omega) (by simp; omega) ?_))
              intro v' w1 hg
              have ho1 := hg.own
              have hb1 := hb.trans (hg.alloc_left.below ho (Nat.le_refl _) (by omega))
              clear hg ho hb
              go_wp2
              go_roundw
              case rel => exact ⟨k + 2, acc ++ [joined x y], by omega, by go_num, ho1, HI.out, by simp; omega, hb1⟩
              case measure => simp [intOf]; omega
            · have HI := Lib.hid (of_step_bad HX.out hh (fun z hz => isPair_no (by rw [HY.out] at hz; obtain rfl := Option.some.inj hz; omega)) hinv.out)
              clear hinv hh h1
              by_cases h4 : y < 56320
              · go_wp2_with (at_builtin; refine wpList_append_O _ rfl _ _ 35 rfl base 21 i0 (.int .i32 0) 4 Try.underlying35 hi hz0 hz1 hz2 rfl .i32 _ acc rfl (ho.alloc _) (wr.heap.size + 1) _ 1 1 [65533] rfl (IsL.new1 wr 21 65533 (wf_i32 (by omega))) (by unfold maxLen; omega) (by omega) (by simp; omega) ?_)
                intro v' w1 hg
                have ho1 := hg.own
                have hb1 := hb.trans (hg.alloc_left.below ho (Nat.le_refl _) (by omega))
                clear hg ho hb
                go_wp2
                go_roundw
                case rel => exact ⟨k + 1, acc ++ [65533], by omega, by go_num, ho1, HI.out, by simp; omega, hb1⟩
                case measure => simp [intOf]; omega
              · have h5 : ¬ y < 57344 := by omega
                go_wp2_with (at_builtin; refine wpList_append_O _ rfl _ _ 35 rfl base 21 i0 (.int .i32 0) 4 Try.underlying35 hi hz0 hz1 hz2 rfl .i32 _ acc rfl (ho.alloc _) (wr.heap.size + 1) _ 1 1 [65533] rfl (IsL.new1 wr 21 65533 (wf_i32 (by omega))) (by unfold maxLen; omega) (by omega) (by simp; omega) ?_)
                intro v' w1 hg
                have ho1 := hg.own
                have hb1 := hb.trans (hg.alloc_left.below ho (Nat.le_refl _) (by omega))
                clear hg ho hb
                go_wp2
                go_roundw
                case rel => exact ⟨k + 1, acc ++ [65533], by omega, by go_num, ho1, HI.out, by simp; omega, hb1⟩
                case measure => simp [intOf]; omega
          · have HI := Lib.hid (of_step_bad HX.out hh (fun z hz => by
              have h6 := (List.getElem?_eq_some_iff.1 hz).1
              have h7 := H.out.len
              omega) hinv.out)
            clear hinv hh h1
            go_wp2_with (at_builtin; refine wpList_append_O _ rfl _ _ 35 rfl base 21 i0 (.int .i32 0) 4 Try.underlying35 hi hz0 hz1 hz2 rfl .i32 _ acc rfl (ho.alloc _) (wr.heap.size + 1) _ 1 1 [65533] rfl (IsL.new1 wr 21 65533 (wf_i32 (by omega))) (by unfold maxLen; omega) (by omega) (by simp; omega) ?_)
            intro v' w1 hg
            have ho1 := hg.own
            have hb1 := hb.trans (hg.alloc_left.below ho (Nat.le_refl _) (by omega))
            clear hg ho hb
            go_wp2
            go_roundw
            case rel => exact ⟨k + 1, acc ++ [65533], by omega, by go_num, ho1, HI.out, by simp; omega, hb1⟩
            case measure => simp [intOf]; omega
    · obtain rfl : n = k := by omega
      have he := hinv.out
      rw [List.drop_eq_nil_of_le (by have := H.out.len; omega)] at he
      simp only [ofWords, List.append_nil] at he
      rw [he] at ho
      clear he hinv
      go_wp2
      go_ret
      exact ⟨_, rfl, ho, hb⟩

end Go.Proofs.Ytkpehilgjckekaa
