/-
  Proved here: contracts of laws.sameWords and laws.sameRunes: each tells whether two lists are one. No conditions but that the lengths are below 2^31.
-/
import Derived.Test.YtkpehilgjckekaaC1
import Derived.Deep.QuietTactic
import Derived.BigQuiet
namespace Go.Proofs.Ytkpehilgjckekaa
open Go.RowKit

theorem below_drewN {B : Nat} {a w : World} (h : Below B a w) (n : Nat) : Below B a (w.drewN n) := ⟨h.os, h.tape, h.output, h.size, h.block⟩

theorem take_ne {xs ys : List Int} {k : Nat} {x y : Int} (hx : xs[k]? = some x) (hy : ys[k]? = some y) (h : x ≠ y) : xs ≠ ys := by
  rintro rfl
  rw [hx] at hy
  exact h (Option.some.inj hy)
theorem take_more {xs ys : List Int} {k : Nat} {x : Int} (hx : xs[k]? = some x) (hy : ys[k]? = some x) (h : xs.take k = ys.take k) : xs.take (k + 1) = ys.take (k + 1) := by
  rw [List.take_add_one, List.take_add_one, hx, hy, h]

set_option maxHeartbeats 400000 in
theorem sameWords_any (A B : Option Addr) (n c m d : Nat) (xs ys : List Int) (w : World) (ha : IsL w w.heap.size .u16 A n xs) (hb : IsL w w.heap.size .u16 B m ys) (hn : n ≤ 2147483648) (hm : m ≤ 2147483648) :
    Calls Try.prog 23 #[.slice A n c, .slice B m d] w fun e w' => e = .returned (.bool (decide (xs = ys))) ∧ Below w.heap.size w w' := by
  have HA := Lib.hid ha
  have HB := Lib.hid hb
  clear ha hb
  by_cases hnm : n = m
  · subst hnm
    go_enter Try.func23, Try.ntmps23
    go_wp2
    go_loopw [13] (fun i wr => ∃ k : Nat, k ≤ n ∧ i = .int .i64 k ∧ Hid (xs.take k = ys.take k) ∧ Below w.heap.size w wr) (fun i _ => n - (intOf i).toNat)
    case atStart => exact ⟨0, Nat.zero_le _, rfl, by simp [Hid], Below.refl _ _⟩
    case round =>
      obtain ⟨k, hk, rfl, heq, hbel⟩ := hrel
      by_cases hlt : k < n
      · obtain ⟨b1, o1, x, rfl, _, hx, hwx, hc1⟩ := (HA.out.below hbel).at_ hlt
        obtain ⟨b2, o2, y, rfl, _, hy, hwy, hc2⟩ := (HB.out.below hbel).at_ hlt
        have HX := Lib.hid hx
        have HY := Lib.hid hy
        clear hx hy hwx hwy
        have hkk : (k : Int) < (n : Int) := by omega
        by_cases hxy : x = y
        · subst hxy
          have HT := Lib.hid (take_more HX.out HY.out heq.out)
          go_wp2
          go_quiet (fail)
          go_wp2
          go_roundw
          case rel => exact ⟨k + 1, by omega, by go_num, HT.out, below_drewN hbel _⟩
          case measure => simp [intOf]; omega
        · have hne : (x != y) = true := by simpa using hxy
          have HN := Lib.hid (take_ne HX.out HY.out hxy)
          go_wp2
          go_quiet (fail)
          go_wp2
          go_ret
          exact ⟨ret_bool (by simpa using HN.out), below_drewN hbel _⟩
      · obtain rfl : n = k := by omega
        have he := heq.out
        rw [List.take_of_length_le (by have := HA.out.len; omega), List.take_of_length_le (by have := HB.out.len; omega)] at he
        have HE := Lib.hid he
        clear he heq
        go_wp2
        go_ret
        exact ⟨ret_bool (by simpa using HE.out), hbel⟩
  · have hne : ((n : Int) != (m : Int)) = true := by simp; omega
    have HN : Hid (xs ≠ ys) := by
      rintro rfl
      exact hnm (HA.out.len.symm.trans HB.out.len)
    go_enter Try.func23, Try.ntmps23
    go_wp2
    go_ret
    exact ⟨ret_bool (by simpa using HN.out), Below.refl _ _⟩

set_option maxHeartbeats 400000 in
theorem sameRunes_any (A B : Option Addr) (n c m d : Nat) (xs ys : List Int) (w : World) (ha : IsL w w.heap.size .i32 A n xs) (hb : IsL w w.heap.size .i32 B m ys) (hn : n ≤ 2147483648) (hm : m ≤ 2147483648) :
    Calls Try.prog 25 #[.slice A n c, .slice B m d] w fun e w' => e = .returned (.bool (decide (xs = ys))) ∧ Below w.heap.size w w' := by
  have HA := Lib.hid ha
  have HB := Lib.hid hb
  clear ha hb
  by_cases hnm : n = m
  · subst hnm
    go_enter Try.func25, Try.ntmps25
    go_wp2
    go_loopw [13] (fun i wr => ∃ k : Nat, k ≤ n ∧ i = .int .i64 k ∧ Hid (xs.take k = ys.take k) ∧ Below w.heap.size w wr) (fun i _ => n - (intOf i).toNat)
    case atStart => exact ⟨0, Nat.zero_le _, rfl, by simp [Hid], Below.refl _ _⟩
    case round =>
      obtain ⟨k, hk, rfl, heq, hbel⟩ := hrel
      by_cases hlt : k < n
      · obtain ⟨b1, o1, x, rfl, _, hx, hwx, hc1⟩ := (HA.out.below hbel).at_ hlt
        obtain ⟨b2, o2, y, rfl, _, hy, hwy, hc2⟩ := (HB.out.below hbel).at_ hlt
        have HX := Lib.hid hx
        have HY := Lib.hid hy
        clear hx hy hwx hwy
        have hkk : (k : Int) < (n : Int) := by omega
        by_cases hxy : x = y
        · subst hxy
          have HT := Lib.hid (take_more HX.out HY.out heq.out)
          go_wp2
          go_quiet (fail)
          go_wp2
          go_roundw
          case rel => exact ⟨k + 1, by omega, by go_num, HT.out, below_drewN hbel _⟩
          case measure => simp [intOf]; omega
        · have hne : (x != y) = true := by simpa using hxy
          have HN := Lib.hid (take_ne HX.out HY.out hxy)
          go_wp2
          go_quiet (fail)
          go_wp2
          go_ret
          exact ⟨ret_bool (by simpa using HN.out), below_drewN hbel _⟩
      · obtain rfl : n = k := by omega
        have he := heq.out
        rw [List.take_of_length_le (by have := HA.out.len; omega), List.take_of_length_le (by have := HB.out.len; omega)] at he
        have HE := Lib.hid he
        clear he heq
        go_wp2
        go_ret
        exact ⟨ret_bool (by simpa using HE.out), hbel⟩
  · have hne : ((n : Int) != (m : Int)) = true := by simp; omega
    have HN : Hid (xs ≠ ys) := by
      rintro rfl
      exact hnm (HA.out.len.symm.trans HB.out.len)
    go_enter Try.func25, Try.ntmps25
    go_wp2
    go_ret
    exact ⟨ret_bool (by simpa using HN.out), Below.refl _ _⟩

theorem append16_any (A : Option Addr) (n c : Nat) (xs : List Int) (r : Int) (w : World) (h : IsL w w.heap.size .u16 A n xs) (hn : n ≤ 2147483640) (hr : -2147483648 ≤ r ∧ r ≤ 2147483647) :
    Calls Try.prog 24 #[.slice A n c, .int .i32 r] w (GivesL w 29 .u16 (xs ++ words r)) := by
  have hl := h.len
  have hf : FitL .u16 xs := h.fit
  have hwl := words_len r
  have hwf : FitL .u16 (xs ++ words r) := hf.app (words_wf r)
  have hyl : (xs ++ words r).length ≤ 2147483648 := by rw [List.length_append]; omega
  have HA := Lib.hid (fun (w1 : World) (A1 : Option Addr) (c1 : Nat) h1 hb => appendRune_any w.heap.size A1 xs.length c1 xs r w1 h1 hb (by omega) hr)
  generalize xs ++ words r = ys at *
  have HC := clone16_any A n c xs w h (by omega)
  clear h hl
  go_enter Try.func24, Try.ntmps24
  go_wp2_with fail
  refine HC.mono ?_
  rintro e w1 ⟨A1, c1, rfl, h1, hb1⟩
  go_wp2_with fail
  refine (HA.out w1 A1 c1 h1 hb1.size).mono ?_
  rintro e w2 ⟨A2, c2, rfl, h2⟩
  have hb2 : Below w.heap.size w1 w2 := h2.below h1 (Nat.le_refl _) hb1.size
  have hI := h2.own.isL hwf
  go_wp2_with fail
  refine (clone16_any A2 _ c2 ys w2 hI hyl).mono ?_
  rintro e w3 ⟨A3, c3, rfl, h3, hb3⟩
  have hb := (hb1.trans hb2).trans (hb3.mono (Nat.le_trans hb1.size hb2.size))
  have H3 : OwnsL w3 w.heap.size 29 .u16 (.slice A3 ys.length c3) ys := OwnsL.low h3 (Nat.le_trans hb1.size hb2.size)
  clear h3 h2 h1
  go_wp2
  go_ret
  exact ⟨A3, c3, rfl, H3, hb⟩

end Go.Proofs.Ytkpehilgjckekaa
