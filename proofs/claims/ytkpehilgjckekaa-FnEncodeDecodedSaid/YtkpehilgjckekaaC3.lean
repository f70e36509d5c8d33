/-
  Proved here: the contract of goutf16.Encode: the words of the numbers. Condition: at most 1000000 numbers.
-/
import Derived.Test.YtkpehilgjckekaaC2
import Derived.Test.YtkpehilgjckekaaRow
namespace Go.Proofs.Ytkpehilgjckekaa
open Go.RowKit

theorem runeLen_one (r : Int) (w : World) (h : (0 ≤ r ∧ r < 55296) ∨ (57343 < r ∧ r < 65536)) : Calls Try.prog 33 #[.int .i32 r] w fun e w' => e = .returned (.int .i64 1) ∧ w = w' := by
  rcases h with ⟨a, b⟩ | ⟨a, b⟩
  all_goals
    have h2 : decide (57344 ≤ r) = decide (57343 < r) := by simp; omega
    go_enter Try.func33, Try.ntmps33
    go_wp2
    go_ret
    exact ⟨rfl, rfl⟩
theorem runeLen_two (r : Int) (w : World) (a : 65536 ≤ r) (b : r ≤ 1114111) : Calls Try.prog 33 #[.int .i32 r] w fun e w' => e = .returned (.int .i64 2) ∧ w = w' := by
  go_enter Try.func33, Try.ntmps33
  go_wp2
  go_ret
  exact ⟨rfl, rfl⟩
theorem runeLen_bad (r : Int) (w : World) (h : ¬ ((0 ≤ r ∧ r < 55296) ∨ (57343 < r ∧ r ≤ 1114111))) : Calls Try.prog 33 #[.int .i32 r] w fun e w' => e = .returned (.int .i64 (-1)) ∧ w = w' := by
  go_enter Try.func33, Try.ntmps33
  go_wp2
  all_goals
    go_ret
    exact ⟨rfl, rfl⟩
theorem pair_two (r : Int) (w : World) (a : 65536 ≤ r) (b : r ≤ 1114111) : Calls Try.prog 32 #[.int .i32 r] w fun e w' => e = .returned (.tuple #[.int .i32 (55296 + (r - 65536) / 1024), .int .i32 (56320 + (r - 65536) % 1024)]) ∧ w = w' := by
  have b1 := and_hi r a b
  have b2 := and_lo r a b
  go_enter Try.func32, Try.ntmps32
  go_wp2
  go_ret2
  exact ⟨rfl, rfl⟩

def need (xs : List Int) : Nat := (xs.filter (fun x => decide (65536 ≤ x))).length
theorem need_le (xs : List Int) : need xs ≤ xs.length := List.length_filter_le _ _
theorem need_step {xs : List Int} {k : Nat} {x : Int} (hx : xs[k]? = some x) : need (xs.take (k + 1)) = need (xs.take k) + if 65536 ≤ x then 1 else 0 := by
  rw [List.take_add_one, hx]
  unfold need
  rw [List.filter_append, List.length_append]
  by_cases h : 65536 ≤ x <;> simp [h]
theorem flat_need (xs : List Int) : (xs.flatMap words).length ≤ xs.length + need xs := by
  induction xs with
  | nil => simp
  | cons a t ih =>
    have h2 : (words a).length ≤ 1 + if 65536 ≤ a then 1 else 0 := by
      by_cases h : 65536 ≤ a
      · have := words_len a; simp [h]; omega
      · by_cases h1 : (0 ≤ a ∧ a < 55296) ∨ (57343 < a ∧ a ≤ 1114111)
        · rw [words_one (by omega)]; simp
        · rw [words_bad h1]; simp
    have h3 : need (a :: t) = need t + if 65536 ≤ a then 1 else 0 := by
      unfold need
      by_cases h : 65536 ≤ a <;> simp [h]
    rw [h3]
    simp only [List.flatMap_cons, List.length_append, List.length_cons]
    omega
theorem flat_take_le (xs : List Int) (k : Nat) : ((xs.take k).flatMap words).length ≤ (xs.flatMap words).length := by
  have : xs.flatMap words = (xs.take k).flatMap words ++ (xs.drop k).flatMap words := by rw [← List.flatMap_append, List.take_append_drop]
  rw [this, List.length_append]
  omega
theorem flat_next {xs : List Int} {k : Nat} {x : Int} (hx : xs[k]? = some x) : (xs.take (k + 1)).flatMap words = (xs.take k).flatMap words ++ words x := by
  rw [List.take_add_one, hx]; simp

set_option maxHeartbeats 1000000 in
theorem encode_any (A : Option Addr) (n c : Nat) (xs : List Int) (w : World) (h : IsL w w.heap.size .i32 A n xs) (hn : n ≤ 1000000) :
    Calls Try.prog 38 #[.slice A n c] w (GivesL w 29 .u16 (xs.flatMap words)) := by
  obtain ⟨i0, hi, hz0, hz1, hz2⟩ := info_parts info16
  have H := Lib.hid h
  clear h
  go_enter Try.func38, Try.ntmps38
  go_wp2
  go_loop [3, 15] (fun s i => ∃ k m : Nat, k ≤ n ∧ i = .int .i64 k ∧ s = .int .i64 m ∧ m ≤ 2000000 ∧ Hid (m = n + need (xs.take k))) (fun _ i => n - (intOf i).toNat)
  case atStart => exact ⟨0, n, Nat.zero_le _, rfl, rfl, by omega, by simp [Hid, need]⟩
  case round =>
    obtain ⟨k, m, hk, rfl, rfl, hm, hN⟩ := hrel
    by_cases hlt : k < n
    · obtain ⟨b, off, x, rfl, hbb, hx, hwf, hc⟩ := H.out.at_ hlt
      have hs := need_step hx
      have hnl := need_le (xs.take (k + 1))
      have hl2 : (xs.take (k + 1)).length ≤ k + 1 := List.length_take_le _ _
      have HS := Lib.hid hs
      have HR := Lib.hid (rune_range hwf)
      clear hs hx hwf
      by_cases hx : 65536 ≤ x
      · have hm2 : m + 1 = n + need (xs.take (k + 1)) := by rw [HS.out, if_pos hx, hN.out]; omega
        have hm3 : m + 1 ≤ 2000000 := by omega
        have HM := Lib.hid hm2
        clear hm2 hN HS
        go_wp2
        go_round
        case rel => exact ⟨k + 1, m + 1, by omega, by go_num, by go_num, hm3, HM.out⟩
        case measure => simp [intOf]; omega
      · have hm2 : m = n + need (xs.take (k + 1)) := by rw [HS.out, if_neg hx, hN.out]; omega
        have HM := Lib.hid hm2
        clear hm2 hN HS
        go_wp2
        go_round
        case rel => exact ⟨k + 1, m, by omega, by go_num, rfl, hm, HM.out⟩
        case measure => simp [intOf]; omega
    · obtain rfl : n = k := by omega
      have hl := H.out.len
      have hfl : (xs.flatMap words).length ≤ m := by
        have := flat_need xs
        have hN' := hN.out
        rw [List.take_of_length_le (by omega)] at hN'
        omega
      clear hN hl
      go_wp2_with (at_make; refine wpList_make_full _ rfl _ _ 27 rfl w.heap.size 29 i0 (.int .u16 0) 1 Try.underlying27 hi hz0 hz1 .i64 .i64 _ _ m rfl rfl rfl rfl (by rw [hz2]; omega) (by unfold maxLen; omega) (Nat.le_refl _) ?_)
      intro w1 own1 g1
      have row1 := made_zero 29 .u16 own1
      have b1 : Below w.heap.size w w1 := (Below.refl _ _).grown g1 (Nat.le_refl _) (by simp)
      clear own1 g1
      go_wp2
      go_loopw [3, 28] (fun s i wr => ∃ (k q : Nat) (R : List Int), k ≤ n ∧ i = .int .i64 k ∧ s = .int .i64 q ∧ Hid (((xs.take k).flatMap words).length = q) ∧ RowN wr w.heap.size 29 .u16 w.heap.size m R ∧ Hid (R.take q = (xs.take k).flatMap words) ∧ Below w.heap.size w wr)
        (fun _ i _ => n - (intOf i).toNat)
      case atStart => exact ⟨0, 0, _, Nat.zero_le _, rfl, rfl, by simp [Hid], row1, by simp [Hid], b1⟩
      case round =>
        obtain ⟨k, q, R, hk, rfl, rfl, hq, hrow, htk, hb⟩ := hrel
        by_cases hlt : k < n
        · obtain ⟨b, off, x, rfl, hbb, hx, hwf, hc⟩ := (H.out.below hb).at_ hlt
          have HX := Lib.hid hx
          have hr := rune_range hwf
          clear hx hwf
          have hfn := flat_next HX.out
          have hle : q + (words x).length ≤ m := by
            have h1 := flat_take_le xs (k + 1)
            rw [hfn, List.length_append, hq.out] at h1
            omega
          have HF := Lib.hid hfn
          clear hfn
          by_cases h1 : (0 ≤ x ∧ x < 55296) ∨ (57343 < x ∧ x < 65536)
          · have hw1 := words_one h1
            rw [hw1] at hle
            have hqm : q < m := by simp only [List.length_cons, List.length_nil] at hle; omega
            have hcell := hrow.cellAt hqm
            have hfz := hrow.frozenAt q
            have hcv : IntKind.u16.wrap x = x := u16_in x (by omega)
            have hL := runeLen_one x wr h1
            have hst := hrow.stored q x
            have hbs := hrow.below_store hb (Nat.le_refl _) q (.int .u16 x)
            have HT : Hid ((R.set q x).take (q + 1) = (xs.take (k + 1)).flatMap words) := by rw [HF.out, hw1]; exact set_take htk.out (by rw [hrow.len]; exact hqm) x
            have HQ : Hid (((xs.take (k + 1)).flatMap words).length = q + 1) := by rw [HF.out, hw1, List.length_append, hq.out]; rfl
            clear h1 hw1 htk hq HF hle
            go_wp2_with (go_at_call 33; refine hL.mono ?_; rintro e w' ⟨rfl, rfl⟩)
            go_roundw
            case rel => exact ⟨k + 1, q + 1, _, by omega, by go_num, by go_num, HQ.out, hst, HT.out, hbs⟩
            case measure => simp [intOf]; omega
          · by_cases h2 : 65536 ≤ x ∧ x ≤ 1114111
            · obtain ⟨p1, p2⟩ := h2
              have hw1 := words_two p1 p2
              rw [hw1] at hle
              have hqm : q + 1 < m := by simp only [List.length_cons, List.length_nil] at hle; omega
              have hcell := hrow.cellAt (j := q) (by omega)
              have hfz := hrow.frozenAt q
              have hst := hrow.stored q (55296 + (x - 65536) / 1024)
              have hbs := hrow.below_store hb (Nat.le_refl _) q (.int .u16 (55296 + (x - 65536) / 1024))
              have hcell2 := hst.cellAt hqm
              have hfz2 := hst.frozenAt (q + 1)
              have hst2 := hst.stored (q + 1) (56320 + (x - 65536) % 1024)
              have hbs2 := hst.below_store hbs (Nat.le_refl _) (q + 1) (.int .u16 (56320 + (x - 65536) % 1024))
              have hL := runeLen_two x wr p1 p2
              have hP := pair_two x wr p1 p2
              have hA := set_take htk.out (by rw [hrow.len]; omega) (55296 + (x - 65536) / 1024)
              have hB := set_take hA (by rw [hst.len]; exact hqm) (56320 + (x - 65536) % 1024)
              have HT : Hid (((R.set q (55296 + (x - 65536) / 1024)).set (q + 1) (56320 + (x - 65536) % 1024)).take (q + 2) = (xs.take (k + 1)).flatMap words) := by
                rw [HF.out, hw1]
                refine hB.trans ?_
                simp
              have HQ : Hid (((xs.take (k + 1)).flatMap words).length = q + 2) := by rw [HF.out, hw1, List.length_append, hq.out]; rfl
              have e1 := u16_in (55296 + (x - 65536) / 1024) (by omega)
              have e2 := u16_in (56320 + (x - 65536) % 1024) (by omega)
              have HH := Lib.hid (And.intro hst2 hbs2)
              clear h1 hw1 htk hq HF hle hA hB hst2 hbs2 hst hbs hrow hb
              go_wp2_with (first | (go_at_call 33; refine hL.mono ?_; rintro e w' ⟨rfl, rfl⟩) | (go_at_call 32; refine hP.mono ?_; rintro e w' ⟨rfl, rfl⟩))
              go_roundw
              case rel => exact ⟨k + 1, q + 2, _, by omega, by go_num, by go_num, HQ.out, HH.out.1, HT.out, HH.out.2⟩
              case measure => simp [intOf]; omega
            · have hw1 := words_bad (r := x) (by omega)
              rw [hw1] at hle
              have hqm : q < m := by simp only [List.length_cons, List.length_nil] at hle; omega
              have hcell := hrow.cellAt hqm
              have hfz := hrow.frozenAt q
              have hL := runeLen_bad x wr (by omega)
              have hst := hrow.stored q 65533
              have hbs := hrow.below_store hb (Nat.le_refl _) q (.int .u16 65533)
              have HT : Hid ((R.set q 65533).take (q + 1) = (xs.take (k + 1)).flatMap words) := by rw [HF.out, hw1]; exact set_take htk.out (by rw [hrow.len]; exact hqm) 65533
              have HQ : Hid (((xs.take (k + 1)).flatMap words).length = q + 1) := by rw [HF.out, hw1, List.length_append, hq.out]; rfl
              clear h1 h2 hw1 htk hq HF hle
              go_wp2_with (go_at_call 33; refine hL.mono ?_; rintro e w' ⟨rfl, rfl⟩)
              go_roundw
              case rel => exact ⟨k + 1, q + 1, _, by omega, by go_num, by go_num, HQ.out, hst, HT.out, hbs⟩
              case measure => simp [intOf]; omega
        · obtain rfl : n = k := by omega
          have hl := H.out.len
          have ht := htk.out
          have hq' := hq.out
          have hxn : xs.take n = xs := List.take_of_length_le (by omega)
          rw [hxn] at ht hq'
          clear hxn
          have hqm : q ≤ m := by rw [← hq']; exact hfl
          have ho := hrow.take hqm
          rw [ht] at ho
          have HO := Lib.hid (gives_own ho hb)
          clear ht hq' htk hq hl ho
          go_wp2
          go_ret
          exact HO.out


end Go.Proofs.Ytkpehilgjckekaa
