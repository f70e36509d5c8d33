/-
  Proved here: contracts of slices.Clone at []byte, spec.IsRune, spec.Size and spec.Bytes, for every input (Clone: at most 2^31 bytes).
-/
import Derived.Test.YtincmkjffohekaaDoorRows
import Derived.Test.YtincmkjffohekaaDoorBase
import Derived.Test.YtincmkjffohekaaDoorMem
import Derived.Test.YtincmkjffohekaaDoorP8
import Derived.WalkKit
import Derived.Below
import Derived.Handy
import Derived.WalkSpells
import Derived.Lib.Hide
namespace Go.Proofs.YtincmkjffohekaaDoor
open Go.RowKit

theorem info8 : (Tryd.prog.info? 5).map (fun i => (i.zero, i.size, i.bytes)) = some (some (.int .u8 0), 1, 1) := by kernel_rfl

theorem ret_int {k : IntKind} {a b : Int} (h : a = b) : Ending.returned (.int k a) = .returned (.int k b) := by rw [h]

theorem clone8_any (A : Option Addr) (n c : Nat) (xs : List Int) (w : World) (h : IsL w w.heap.size .u8 A n xs) (hn : n ≤ 2147483648) :
    Calls Tryd.prog 39 #[.slice A n c] w (GivesL w 5 .u8 xs) := by
  obtain ⟨i0, hi, hz0, hz1, hz2⟩ := info_parts info8
  have q : ∀ (w : World) (a : Option Addr) (n c n' c' : Nat), (binOp .eql 22 (.slice a n c) (.slice none n' c')).run Tryd.prog w = .ok (.bool a.isNone) w := fun w a n c n' c' => Lib.run_eql_slice_nil w _ _ a n c n' c' Tryd.underlying22
  rcases A with _ | ad
  · have h0 : n = 0 := by
      rcases Nat.eq_zero_or_pos n with h0 | h0
      · exact h0
      · obtain ⟨_, _, e, _⟩ := h.2.2 h0
        cases e
    subst h0
    obtain rfl : xs = [] := List.eq_nil_of_length_eq_zero h.1
    go_enter Tryd.func39, Tryd.ntmps39
    go_wp2
    go_ret
    exact ⟨none, 0, rfl, World.ownsRow_nil _ _ _ _, Below.refl _ _⟩
  · have H := Lib.hid h
    have hl := h.1
    subst hl
    clear h
    go_enter Tryd.func39, Tryd.ntmps39
    go_wp2_with (at_builtin; refine wpList_append_O _ rfl _ _ 22 rfl w.heap.size 5 i0 (.int .u8 0) 1 Tryd.underlying22 hi hz0 hz1 hz2 rfl .u8 _ [] rfl (OwnsL.lit0 w 5 .u8) w.heap.size (some ad) xs.length c xs rfl ((H.out).below ((Below.refl _ _).alloc (Nat.le_refl _) _)) (by unfold maxLen; simp; omega) (by simp; omega) (by simp) ?_)
    intro v' w1 hg
    have hb : Below w.heap.size w w1 := ((Below.refl _ w).alloc (Nat.le_refl _) _).trans (hg.below (OwnsL.lit0 w 5 .u8) (Nat.le_refl _) (by simp))
    have R := gives_own (e := 5) (k := .u8) (xs := xs) (by simpa using hg.own) hb
    clear hg
    go_wp2
    go_ret
    exact R

theorem isRune_yes (r : Int) (w : World) (h : (0 ≤ r ∧ r < 55296) ∨ (57343 < r ∧ r ≤ 1114111)) : Calls Tryd.prog 36 #[.int .i32 r] w fun e w' => e = .returned (.bool true) ∧ w = w' := by
  rcases h with ⟨a, b⟩ | ⟨a, b⟩
  all_goals
    go_enter Tryd.func36, Tryd.ntmps36
    go_wp2
    all_goals go_ret
    all_goals exact ⟨ret_bool (by first | rfl | (simp; omega)), rfl⟩
theorem isRune_no (r : Int) (w : World) (h : ¬ ((0 ≤ r ∧ r < 55296) ∨ (57343 < r ∧ r ≤ 1114111))) : Calls Tryd.prog 36 #[.int .i32 r] w fun e w' => e = .returned (.bool false) ∧ w = w' := by
  go_enter Tryd.func36, Tryd.ntmps36
  go_wp2
  all_goals go_ret
  all_goals exact ⟨ret_bool (by first | rfl | (simp; omega)), rfl⟩
theorem isRune_any (r : Int) (w : World) : Calls Tryd.prog 36 #[.int .i32 r] w fun e w' => e = .returned (.bool (isRune r)) ∧ w = w' := by
  by_cases h : isRune r = true
  · rw [h]; exact isRune_yes r w (isRune_iff.1 h)
  · have h' : isRune r = false := by simpa using h
    rw [h']; exact isRune_no r w (isRune_not.1 h')

theorem size_1 (r : Int) (w : World) (h : 0 ≤ r ∧ r < 128) : Calls Tryd.prog 61 #[.int .i32 r] w fun e w' => e = .returned (.int .i64 1) ∧ w = w' := by
  have hy := isRune_yes r w (by omega)
  have h1 : r < 128 := by omega
  have h2 : r < 2048 := by omega
  have h3 : r < 65536 := by omega
  clear h
  go_enter Tryd.func61, Tryd.ntmps61
  go_wp2_with (go_at_call 36; refine hy.mono ?_; rintro e w' ⟨rfl, rfl⟩)
  go_ret
  exact ⟨rfl, rfl⟩
theorem size_2 (r : Int) (w : World) (h : 128 ≤ r ∧ r < 2048) : Calls Tryd.prog 61 #[.int .i32 r] w fun e w' => e = .returned (.int .i64 2) ∧ w = w' := by
  have hy := isRune_yes r w (by omega)
  have h1 : ¬ r < 128 := by omega
  have h2 : r < 2048 := by omega
  have h3 : r < 65536 := by omega
  clear h
  go_enter Tryd.func61, Tryd.ntmps61
  go_wp2_with (go_at_call 36; refine hy.mono ?_; rintro e w' ⟨rfl, rfl⟩)
  go_ret
  exact ⟨rfl, rfl⟩
theorem size_3 (r : Int) (w : World) (h : (2048 ≤ r ∧ r < 55296) ∨ (57343 < r ∧ r < 65536)) : Calls Tryd.prog 61 #[.int .i32 r] w fun e w' => e = .returned (.int .i64 3) ∧ w = w' := by
  have hy := isRune_yes r w (by omega)
  have h1 : ¬ r < 128 := by omega
  have h2 : ¬ r < 2048 := by omega
  have h3 : r < 65536 := by omega
  clear h
  go_enter Tryd.func61, Tryd.ntmps61
  go_wp2_with (go_at_call 36; refine hy.mono ?_; rintro e w' ⟨rfl, rfl⟩)
  go_ret
  exact ⟨rfl, rfl⟩
theorem size_4 (r : Int) (w : World) (h : 65536 ≤ r ∧ r ≤ 1114111) : Calls Tryd.prog 61 #[.int .i32 r] w fun e w' => e = .returned (.int .i64 4) ∧ w = w' := by
  have hy := isRune_yes r w (by omega)
  have h1 : ¬ r < 128 := by omega
  have h2 : ¬ r < 2048 := by omega
  have h3 : ¬ r < 65536 := by omega
  clear h
  go_enter Tryd.func61, Tryd.ntmps61
  go_wp2_with (go_at_call 36; refine hy.mono ?_; rintro e w' ⟨rfl, rfl⟩)
  go_ret
  exact ⟨rfl, rfl⟩
theorem size_bad (r : Int) (w : World) (h : ¬ ((0 ≤ r ∧ r < 55296) ∨ (57343 < r ∧ r ≤ 1114111))) : Calls Tryd.prog 61 #[.int .i32 r] w fun e w' => e = .returned (.int .i64 (-1)) ∧ w = w' := by
  have hy := isRune_no r w h
  clear h
  go_enter Tryd.func61, Tryd.ntmps61
  go_wp2_with (go_at_call 36; refine hy.mono ?_; rintro e w' ⟨rfl, rfl⟩)
  go_ret
  exact ⟨rfl, rfl⟩

/-! The loop of spec.Bytes: what is left of the number after j rounds, and the bytes behind the first. -/
def left (r : Int) : Nat → Int
  | 0 => r
  | j + 1 => left r j / 64
def tails (r : Int) : Nat → List Int
  | 0 => []
  | j + 1 => (128 + left r j % 64) :: tails r j
theorem left_range {r : Int} (h : 0 ≤ r ∧ r ≤ 1114111) : ∀ j, 0 ≤ left r j ∧ left r j ≤ 1114111
  | 0 => h
  | j + 1 => by have := left_range h j; simp only [left]; omega
theorem tails_len (r : Int) : ∀ j, (tails r j).length = j
  | 0 => rfl
  | j + 1 => by simp [tails, tails_len r j]
theorem tails_fit (r : Int) : ∀ j, FitL .u8 (tails r j)
  | 0 => FitL.nil _
  | j + 1 => by
    intro x hx
    simp only [tails, List.mem_cons] at hx
    rcases hx with rfl | hx
    · exact wf_u8 (by omega)
    · exact tails_fit r j x hx
theorem enc_tails2 {r : Int} (h : 128 ≤ r ∧ r < 2048) : [192 + left r 1] ++ tails r 1 = enc r := by
  rw [enc_2 h]; simp [left, tails]
theorem enc_tails3 {r : Int} (h : (2048 ≤ r ∧ r < 55296) ∨ (57343 < r ∧ r < 65536)) : [224 + left r 2] ++ tails r 2 = enc r := by
  rw [enc_3 h]; simp only [left, tails, List.cons_append, List.nil_append, List.cons.injEq, and_true]; omega
theorem enc_tails4 {r : Int} (h : 65536 ≤ r ∧ r ≤ 1114111) : [240 + left r 3] ++ tails r 3 = enc r := by
  rw [enc_4 h]; simp only [left, tails, List.cons_append, List.nil_append, List.cons.injEq, and_true]; omega
theorem and63 (q : Int) (h : 0 ≤ q ∧ q ≤ 1114111) : bits .and .i32 q 63 = q % 64 := bits_mask .i32 31 (by decide) wraps_i32 6 (by decide) q (by omega) (by omega)

theorem bytes_1 (r : Int) (w : World) (h : 0 ≤ r ∧ r < 128) : Calls Tryd.prog 57 #[.int .i32 r] w (GivesL w 5 .u8 (enc r)) := by
  have hs := size_1 r w h
  have he : IntKind.u8.wrap r = r := by rw [IntKind.wrap_u8]; omega
  rw [enc_1 h]
  clear h
  go_enter Tryd.func57, Tryd.ntmps57
  go_wp2_with (go_at_call 61; refine hs.mono ?_; rintro e w' ⟨rfl, rfl⟩)
  go_ret
  exact gives_own (OwnsL.lit1 w 5 .u8 r) ((Below.refl _ _).alloc (Nat.le_refl _) _)

set_option maxHeartbeats 1000000 in
theorem bytes_2 (r : Int) (w : World) (h : 128 ≤ r ∧ r < 2048) : Calls Tryd.prog 57 #[.int .i32 r] w (GivesL w 5 .u8 (enc r)) := by
  obtain ⟨i0, hi, hz0, hz1, hz2⟩ := info_parts info8
  have hs := size_2 r w h
  have hlr : ∀ j, 0 ≤ left r j ∧ left r j ≤ 1114111 := left_range (by omega)
  have HL := Lib.hid hlr
  have HE := Lib.hid (enc_tails2 h)
  have HQ : Hid (0 ≤ left r 1 ∧ left r 1 < 32) := by show 0 ≤ left r 1 ∧ left r 1 < 32; simp only [left]; omega
  clear hlr h
  go_enter Tryd.func57, Tryd.ntmps57
  go_wp2_with (go_at_call 61; refine hs.mono ?_; rintro e w' ⟨rfl, rfl⟩)
  go_loopw [0, 4, 5] (fun q v i wr => ∃ j m : Nat, m + j = 1 ∧ i = .int .i64 m ∧ q = .int .i32 (left r j) ∧ OwnsL wr w.heap.size 5 .u8 v (tails r j) ∧ Below w.heap.size w wr) (fun _ _ i _ => (intOf i).toNat)
  case atStart => exact ⟨0, 1, rfl, rfl, rfl, OwnsL.lit0 w 5 .u8, (Below.refl _ _).alloc (Nat.le_refl _) _⟩
  case round =>
    obtain ⟨j, m, hjm, rfl, rfl, ho, hb⟩ := hrel
    have hsz := hb.size
    have hlen := tails_len r j
    have hq := HL.out j
    have hnx : left r (j + 1) = left r j / 64 := rfl
    have htx : tails r (j + 1) = [128 + left r j % 64] ++ tails r j := rfl
    have HN := Lib.hid hnx
    have HT := Lib.hid htx
    have HF := Lib.hid (tails_fit r j)
    have hj3 : (tails r j).length ≤ 3 := by omega
    have hm3 : m ≤ 3 := by omega
    have HJ := Lib.hid hjm
    have HTL := Lib.hid hlen
    by_cases hm : 0 < m
    · have e1 := and63 (left r j) hq
      have e2 := u8_or128 (y := left r j % 64) (by omega) (by omega)
      have hjm' : m - 1 + (j + 1) = 1 := by omega
      have HJ2 := Lib.hid hjm'
      clear hnx htx hjm hlen hjm'
      obtain ⟨A1, c1, rfl⟩ := ho.form
      have hI := ((ho.isL HF.out).below (w' := wr.alloc (.cells #[.int .u8 (128 + left r j % 64)] 5)) ((Below.refl _ _).alloc (Nat.le_refl _) _))
      generalize left r j = q at *
      generalize tails r j = ts at *
      go_wp2_with (at_builtin; refine wpList_append_O _ rfl _ _ 22 rfl wr.heap.size 5 i0 (.int .u8 0) 1 Tryd.underlying22 hi hz0 hz1 hz2 rfl .u8 _ [128 + q % 64] rfl (OwnsL.lit1 wr 5 .u8 (128 + q % 64)) wr.heap.size A1 ts.length c1 ts rfl hI (by unfold maxLen; simp; omega) (by simp; omega) (by simp) ?_)
      intro v' w1 hg
      have ho1 : OwnsL w1 w.heap.size 5 .u8 v' (tails r (j + 1)) := by rw [HT.out]; exact hg.own.low hsz
      have hb1 : Below w.heap.size w w1 := hb.trans (((Below.refl _ wr).alloc (Nat.le_refl _) _).trans (hg.below (OwnsL.lit1 wr 5 .u8 (128 + q % 64)) (Nat.le_refl _) (by simp)) |>.mono hsz)
      clear hg ho hb hI
      go_wp2
      go_roundw
      case rel => exact ⟨j + 1, m - 1, HJ2.out, by congr 1; omega, by rw [HN.out], ho1, hb1⟩
      case measure => simp [intOf]; omega
    · obtain rfl : m = 0 := by omega
      obtain rfl : j = 1 := by omega
      obtain ⟨A1, c1, rfl⟩ := ho.form
      have hQ := HQ.out
      have e1 : IntKind.u8.wrap (left r 1) = left r 1 := by rw [IntKind.wrap_u8]; omega
      have e2 := u8_or192 (y := left r 1) (by omega) (by omega)
      have hI := ((ho.isL HF.out).below (w' := wr.alloc (.cells #[.int .u8 (192 + left r 1)] 5)) ((Below.refl _ _).alloc (Nat.le_refl _) _))
      clear hnx htx hjm hlen hQ
      generalize left r 1 = q at *
      generalize tails r 1 = ts at *
      go_wp2_with (at_builtin; refine wpList_append_O _ rfl _ _ 22 rfl wr.heap.size 5 i0 (.int .u8 0) 1 Tryd.underlying22 hi hz0 hz1 hz2 rfl .u8 _ [192 + q] rfl (OwnsL.lit1 wr 5 .u8 (192 + q)) wr.heap.size A1 ts.length c1 ts rfl hI (by unfold maxLen; simp; omega) (by simp; omega) (by simp) ?_)
      intro v' w1 hg
      have ho1 : OwnsL w1 w.heap.size 5 .u8 v' (enc r) := by rw [← HE.out]; exact hg.own.low hsz
      have hb1 : Below w.heap.size w w1 := hb.trans (((Below.refl _ wr).alloc (Nat.le_refl _) _).trans (hg.below (OwnsL.lit1 wr 5 .u8 (192 + q)) (Nat.le_refl _) (by simp)) |>.mono hsz)
      have R := gives_own ho1 hb1
      clear hg ho hb hI ho1
      go_wp2
      go_ret
      exact R

set_option maxHeartbeats 1000000 in
theorem bytes_3 (r : Int) (w : World) (h : (2048 ≤ r ∧ r < 55296) ∨ (57343 < r ∧ r < 65536)) : Calls Tryd.prog 57 #[.int .i32 r] w (GivesL w 5 .u8 (enc r)) := by
  obtain ⟨i0, hi, hz0, hz1, hz2⟩ := info_parts info8
  have hs := size_3 r w h
  have hlr : ∀ j, 0 ≤ left r j ∧ left r j ≤ 1114111 := left_range (by omega)
  have HL := Lib.hid hlr
  have HE := Lib.hid (enc_tails3 h)
  have HQ : Hid (0 ≤ left r 2 ∧ left r 2 < 16) := by show 0 ≤ left r 2 ∧ left r 2 < 16; simp only [left]; omega
  clear hlr h
  go_enter Tryd.func57, Tryd.ntmps57
  go_wp2_with (go_at_call 61; refine hs.mono ?_; rintro e w' ⟨rfl, rfl⟩)
  go_loopw [0, 4, 5] (fun q v i wr => ∃ j m : Nat, m + j = 2 ∧ i = .int .i64 m ∧ q = .int .i32 (left r j) ∧ OwnsL wr w.heap.size 5 .u8 v (tails r j) ∧ Below w.heap.size w wr) (fun _ _ i _ => (intOf i).toNat)
  case atStart => exact ⟨0, 2, rfl, rfl, rfl, OwnsL.lit0 w 5 .u8, (Below.refl _ _).alloc (Nat.le_refl _) _⟩
  case round =>
    obtain ⟨j, m, hjm, rfl, rfl, ho, hb⟩ := hrel
    have hsz := hb.size
    have hlen := tails_len r j
    have hq := HL.out j
    have hnx : left r (j + 1) = left r j / 64 := rfl
    have htx : tails r (j + 1) = [128 + left r j % 64] ++ tails r j := rfl
    have HN := Lib.hid hnx
    have HT := Lib.hid htx
    have HF := Lib.hid (tails_fit r j)
    have hj3 : (tails r j).length ≤ 3 := by omega
    have hm3 : m ≤ 3 := by omega
    have HJ := Lib.hid hjm
    have HTL := Lib.hid hlen
    by_cases hm : 0 < m
    · have e1 := and63 (left r j) hq
      have e2 := u8_or128 (y := left r j % 64) (by omega) (by omega)
      have hjm' : m - 1 + (j + 1) = 2 := by omega
      have HJ2 := Lib.hid hjm'
      clear hnx htx hjm hlen hjm'
      obtain ⟨A1, c1, rfl⟩ := ho.form
      have hI := ((ho.isL HF.out).below (w' := wr.alloc (.cells #[.int .u8 (128 + left r j % 64)] 5)) ((Below.refl _ _).alloc (Nat.le_refl _) _))
      generalize left r j = q at *
      generalize tails r j = ts at *
      go_wp2_with (at_builtin; refine wpList_append_O _ rfl _ _ 22 rfl wr.heap.size 5 i0 (.int .u8 0) 1 Tryd.underlying22 hi hz0 hz1 hz2 rfl .u8 _ [128 + q % 64] rfl (OwnsL.lit1 wr 5 .u8 (128 + q % 64)) wr.heap.size A1 ts.length c1 ts rfl hI (by unfold maxLen; simp; omega) (by simp; omega) (by simp) ?_)
      intro v' w1 hg
      have ho1 : OwnsL w1 w.heap.size 5 .u8 v' (tails r (j + 1)) := by rw [HT.out]; exact hg.own.low hsz
      have hb1 : Below w.heap.size w w1 := hb.trans (((Below.refl _ wr).alloc (Nat.le_refl _) _).trans (hg.below (OwnsL.lit1 wr 5 .u8 (128 + q % 64)) (Nat.le_refl _) (by simp)) |>.mono hsz)
      clear hg ho hb hI
      go_wp2
      go_roundw
      case rel => exact ⟨j + 1, m - 1, HJ2.out, by congr 1; omega, by rw [HN.out], ho1, hb1⟩
      case measure => simp [intOf]; omega
    · obtain rfl : m = 0 := by omega
      obtain rfl : j = 2 := by omega
      obtain ⟨A1, c1, rfl⟩ := ho.form
      have hQ := HQ.out
      have e1 : IntKind.u8.wrap (left r 2) = left r 2 := by rw [IntKind.wrap_u8]; omega
      have e2 := u8_or224 (y := left r 2) (by omega) (by omega)
      have hI := ((ho.isL HF.out).below (w' := wr.alloc (.cells #[.int .u8 (224 + left r 2)] 5)) ((Below.refl _ _).alloc (Nat.le_refl _) _))
      clear hnx htx hjm hlen hQ
      generalize left r 2 = q at *
      generalize tails r 2 = ts at *
      go_wp2_with (at_builtin; refine wpList_append_O _ rfl _ _ 22 rfl wr.heap.size 5 i0 (.int .u8 0) 1 Tryd.underlying22 hi hz0 hz1 hz2 rfl .u8 _ [224 + q] rfl (OwnsL.lit1 wr 5 .u8 (224 + q)) wr.heap.size A1 ts.length c1 ts rfl hI (by unfold maxLen; simp; omega) (by simp; omega) (by simp) ?_)
      intro v' w1 hg
      have ho1 : OwnsL w1 w.heap.size 5 .u8 v' (enc r) := by rw [← HE.out]; exact hg.own.low hsz
      have hb1 : Below w.heap.size w w1 := hb.trans (((Below.refl _ wr).alloc (Nat.le_refl _) _).trans (hg.below (OwnsL.lit1 wr 5 .u8 (224 + q)) (Nat.le_refl _) (by simp)) |>.mono hsz)
      have R := gives_own ho1 hb1
      clear hg ho hb hI ho1
      go_wp2
      go_ret
      exact R

set_option maxHeartbeats 1000000 in
theorem bytes_4 (r : Int) (w : World) (h : 65536 ≤ r ∧ r ≤ 1114111) : Calls Tryd.prog 57 #[.int .i32 r] w (GivesL w 5 .u8 (enc r)) := by
  obtain ⟨i0, hi, hz0, hz1, hz2⟩ := info_parts info8
  have hs := size_4 r w h
  have hlr : ∀ j, 0 ≤ left r j ∧ left r j ≤ 1114111 := left_range (by omega)
  have HL := Lib.hid hlr
  have HE := Lib.hid (enc_tails4 h)
  have HQ : Hid (0 ≤ left r 3 ∧ left r 3 < 8) := by show 0 ≤ left r 3 ∧ left r 3 < 8; simp only [left]; omega
  clear hlr h
  go_enter Tryd.func57, Tryd.ntmps57
  go_wp2_with (go_at_call 61; refine hs.mono ?_; rintro e w' ⟨rfl, rfl⟩)
  go_loopw [0, 4, 5] (fun q v i wr => ∃ j m : Nat, m + j = 3 ∧ i = .int .i64 m ∧ q = .int .i32 (left r j) ∧ OwnsL wr w.heap.size 5 .u8 v (tails r j) ∧ Below w.heap.size w wr) (fun _ _ i _ => (intOf i).toNat)
  case atStart => exact ⟨0, 3, rfl, rfl, rfl, OwnsL.lit0 w 5 .u8, (Below.refl _ _).alloc (Nat.le_refl _) _⟩
  case round =>
    obtain ⟨j, m, hjm, rfl, rfl, ho, hb⟩ := hrel
    have hsz := hb.size
    have hlen := tails_len r j
    have hq := HL.out j
    have hnx : left r (j + 1) = left r j / 64 := rfl
    have htx : tails r (j + 1) = [128 + left r j % 64] ++ tails r j := rfl
    have HN := Lib.hid hnx
    have HT := Lib.hid htx
    have HF := Lib.hid (tails_fit r j)
    have hj3 : (tails r j).length ≤ 3 := by omega
    have hm3 : m ≤ 3 := by omega
    have HJ := Lib.hid hjm
    have HTL := Lib.hid hlen
    by_cases hm : 0 < m
    · have e1 := and63 (left r j) hq
      have e2 := u8_or128 (y := left r j % 64) (by omega) (by omega)
      have hjm' : m - 1 + (j + 1) = 3 := by omega
      have HJ2 := Lib.hid hjm'
      clear hnx htx hjm hlen hjm'
      obtain ⟨A1, c1, rfl⟩ := ho.form
      have hI := ((ho.isL HF.out).below (w' := wr.alloc (.cells #[.int .u8 (128 + left r j % 64)] 5)) ((Below.refl _ _).alloc (Nat.le_refl _) _))
      generalize left r j = q at *
      generalize tails r j = ts at *
      go_wp2_with (at_builtin; refine wpList_append_O _ rfl _ _ 22 rfl wr.heap.size 5 i0 (.int .u8 0) 1 Tryd.underlying22 hi hz0 hz1 hz2 rfl .u8 _ [128 + q % 64] rfl (OwnsL.lit1 wr 5 .u8 (128 + q % 64)) wr.heap.size A1 ts.length c1 ts rfl hI (by unfold maxLen; simp; omega) (by simp; omega) (by simp) ?_)
      intro v' w1 hg
      have ho1 : OwnsL w1 w.heap.size 5 .u8 v' (tails r (j + 1)) := by rw [HT.out]; exact hg.own.low hsz
      have hb1 : Below w.heap.size w w1 := hb.trans (((Below.refl _ wr).alloc (Nat.le_refl _) _).trans (hg.below (OwnsL.lit1 wr 5 .u8 (128 + q % 64)) (Nat.le_refl _) (by simp)) |>.mono hsz)
      clear hg ho hb hI
      go_wp2
      go_roundw
      case rel => exact ⟨j + 1, m - 1, HJ2.out, by congr 1; omega, by rw [HN.out], ho1, hb1⟩
      case measure => simp [intOf]; omega
    · obtain rfl : m = 0 := by omega
      obtain rfl : j = 3 := by omega
      obtain ⟨A1, c1, rfl⟩ := ho.form
      have hQ := HQ.out
      have e1 : IntKind.u8.wrap (left r 3) = left r 3 := by rw [IntKind.wrap_u8]; omega
      have e2 := u8_or240 (y := left r 3) (by omega) (by omega)
      have hI := ((ho.isL HF.out).below (w' := wr.alloc (.cells #[.int .u8 (240 + left r 3)] 5)) ((Below.refl _ _).alloc (Nat.le_refl _) _))
      clear hnx htx hjm hlen hQ
      generalize left r 3 = q at *
      generalize tails r 3 = ts at *
      go_wp2_with (at_builtin; refine wpList_append_O _ rfl _ _ 22 rfl wr.heap.size 5 i0 (.int .u8 0) 1 Tryd.underlying22 hi hz0 hz1 hz2 rfl .u8 _ [240 + q] rfl (OwnsL.lit1 wr 5 .u8 (240 + q)) wr.heap.size A1 ts.length c1 ts rfl hI (by unfold maxLen; simp; omega) (by simp; omega) (by simp) ?_)
      intro v' w1 hg
      have ho1 : OwnsL w1 w.heap.size 5 .u8 v' (enc r) := by rw [← HE.out]; exact hg.own.low hsz
      have hb1 : Below w.heap.size w w1 := hb.trans (((Below.refl _ wr).alloc (Nat.le_refl _) _).trans (hg.below (OwnsL.lit1 wr 5 .u8 (240 + q)) (Nat.le_refl _) (by simp)) |>.mono hsz)
      have R := gives_own ho1 hb1
      clear hg ho hb hI ho1
      go_wp2
      go_ret
      exact R

theorem bytes_bad (r : Int) (w : World) (h : ¬ ((0 ≤ r ∧ r < 55296) ∨ (57343 < r ∧ r ≤ 1114111))) : Calls Tryd.prog 57 #[.int .i32 r] w (GivesL w 5 .u8 (enc r)) := by
  have hs := size_bad r w h
  have hB := bytes_3 65533 w (by omega)
  have hl : enc 65533 = enc r := by rw [enc_bad h]; decide
  rw [hl] at hB
  clear h hl
  have HL := Lib.hid (enc_len r)
  generalize enc r = ys at *
  go_enter Tryd.func57, Tryd.ntmps57
  go_wp2_with (first | (go_at_call 61; refine hs.mono ?_; rintro e w' ⟨rfl, rfl⟩) | (go_at_call 57; refine hB.mono ?_; rintro e w' ⟨A1, c1, rfl, o1, b1⟩; have R : GivesL w 5 .u8 ys (.returned (.slice A1 ys.length c1)) w' := ⟨A1, c1, rfl, o1, b1⟩; clear o1))
  go_ret
  exact R
theorem bytes_any (r : Int) (w : World) : Calls Tryd.prog 57 #[.int .i32 r] w (GivesL w 5 .u8 (enc r)) := by
  rcases enc_cases r with h | h | h | h | h
  · exact bytes_1 r w h
  · exact bytes_2 r w h
  · exact bytes_3 r w h
  · exact bytes_4 r w h
  · exact bytes_bad r w h

end Go.Proofs.YtincmkjffohekaaDoor
