/-
  Proved here: the contract of goutf8.decodeRuneInStringSlow, class by class of the first byte, the tables lying as their initialisers lay them. No other conditions.
-/
import Derived.Test.YtincmkjffohekaaDoorDpl
import Derived.Deep.RegionHeld
namespace Go.Proofs.YtincmkjffohekaaDoor
open Go.RowKit

set_option maxHeartbeats 1000000 in
theorem sslow_short_2 (s : ByteArray) (xa : UInt8) (w : World) (T : Tabs w) (hn : s.size ≤ 2147483648) (g0 : 0 < s.size) (k0 : s[0]'g0 = xa) (ha : 194 ≤ xa.toNat ∧ xa.toNat ≤ 223) (hs : s.size < 2) :
    Calls Tryd.prog 58 #[.string s] w fun e w' => e = .returned (.tuple #[.int .i32 65533, .int .i64 1]) ∧ Below w.heap.size w w' := by
  have ra := xa.toNat_lt
  have hft : Lib.firstT xa.toNat = 2 := by
    unfold Lib.firstT
    repeat' split
    all_goals first | rfl | omega
  have hc0 := T.2.1 xa.toNat (by omega)
  rw [hft] at hc0
  have ha0 := (T.2.2 0 (by omega)).1
  have ha1 := (T.2.2 0 (by omega)).2
  simp only [Lib.accLo, Lib.accHi, Nat.reduceMul, Nat.reduceAdd, Nat.reduceEqDiff, if_true, if_false] at ha0 ha1
  have hz : ¬ (s.size : Int) < 1 := by omega
  have hz0 : (0 : Int) < (s.size : Int) := by omega
  have hsz : (s.size : Int) < 2 := by omega
  clear hft T ha
  go_enter Tryd.func58, Tryd.ntmps58
  go_wp2
  go_ret2
  exact ⟨rfl, (Below.refl _ _).alloc (Nat.le_refl _) _⟩
set_option maxHeartbeats 4000000 in
theorem sslow_long_2 (s : ByteArray) (xa xb : UInt8) (w : World) (T : Tabs w) (hn : s.size ≤ 2147483648) (g0 : 0 < s.size) (k0 : s[0]'g0 = xa) (g1 : 1 < s.size) (k1 : s[1]'g1 = xb) (ha : 194 ≤ xa.toNat ∧ xa.toNat ≤ 223) :
    Calls Tryd.prog 58 #[.string s] w fun e w' => e = .returned (.tuple #[.int .i32 (d2 (xa.toNat : Int) (xb.toNat : Int)).1, .int .i64 ((d2 (xa.toNat : Int) (xb.toNat : Int)).2 : Int)]) ∧ Below w.heap.size w w' := by
  have ra := xa.toNat_lt
  have rb := xb.toNat_lt
  have hft : Lib.firstT xa.toNat = 2 := by
    unfold Lib.firstT
    repeat' split
    all_goals first | rfl | omega
  have hc0 := T.2.1 xa.toNat (by omega)
  rw [hft] at hc0
  have ha0 := (T.2.2 0 (by omega)).1
  have ha1 := (T.2.2 0 (by omega)).2
  simp only [Lib.accLo, Lib.accHi, Nat.reduceMul, Nat.reduceAdd, Nat.reduceEqDiff, if_true, if_false] at ha0 ha1
  have hz : ¬ (s.size : Int) < 1 := by omega
  have hz0 : (0 : Int) < (s.size : Int) := by omega
  have hsz : ¬ (s.size : Int) < 2 := by omega
  have hy1 : (1 : Int) < (s.size : Int) := by omega
  have ea := u8_and31 (x := (xa.toNat : Int)) (by omega) (by omega)
  have eb := u8_and63 (x := (xb.toNat : Int)) (by omega) (by omega)
  have ob := i32_or6 (x := (xa.toNat : Int) % 32 * 64) (y := (xb.toNat : Int) % 64) (by omega) (by omega) (by omega) (by omega) (by omega)
  have HA := Lib.hid ha
  clear hft T ha
  go_enter Tryd.func58, Tryd.ntmps58
  go_wp2
  all_goals
    go_ret2
    refine ⟨?_, (Below.refl _ _).alloc (Nat.le_refl _) _⟩
    have ha := HA.out
    first
      | exact ret_pair (k := 2) (d2_yes (by omega)) rfl
      | exact ret_pair (k := 1) (d2_no (by omega)) rfl
set_option maxHeartbeats 1000000 in
theorem sslow_short_19 (s : ByteArray) (xa : UInt8) (w : World) (T : Tabs w) (hn : s.size ≤ 2147483648) (g0 : 0 < s.size) (k0 : s[0]'g0 = xa) (ha : xa.toNat = 224) (hs : s.size < 3) :
    Calls Tryd.prog 58 #[.string s] w fun e w' => e = .returned (.tuple #[.int .i32 65533, .int .i64 1]) ∧ Below w.heap.size w w' := by
  have ra := xa.toNat_lt
  have hft : Lib.firstT xa.toNat = 19 := by
    unfold Lib.firstT
    repeat' split
    all_goals first | rfl | omega
  have hc0 := T.2.1 xa.toNat (by omega)
  rw [hft] at hc0
  have ha0 := (T.2.2 1 (by omega)).1
  have ha1 := (T.2.2 1 (by omega)).2
  simp only [Lib.accLo, Lib.accHi, Nat.reduceMul, Nat.reduceAdd, Nat.reduceEqDiff, if_true, if_false] at ha0 ha1
  have hz : ¬ (s.size : Int) < 1 := by omega
  have hz0 : (0 : Int) < (s.size : Int) := by omega
  have hsz : (s.size : Int) < 3 := by omega
  clear hft T ha
  go_enter Tryd.func58, Tryd.ntmps58
  go_wp2
  go_ret2
  exact ⟨rfl, (Below.refl _ _).alloc (Nat.le_refl _) _⟩
set_option maxHeartbeats 4000000 in
theorem sslow_long_19 (s : ByteArray) (xa xb xc : UInt8) (w : World) (T : Tabs w) (hn : s.size ≤ 2147483648) (g0 : 0 < s.size) (k0 : s[0]'g0 = xa) (g1 : 1 < s.size) (k1 : s[1]'g1 = xb) (g2 : 2 < s.size) (k2 : s[2]'g2 = xc) (ha : xa.toNat = 224) :
    Calls Tryd.prog 58 #[.string s] w fun e w' => e = .returned (.tuple #[.int .i32 (d3 (xa.toNat : Int) (xb.toNat : Int) (xc.toNat : Int)).1, .int .i64 ((d3 (xa.toNat : Int) (xb.toNat : Int) (xc.toNat : Int)).2 : Int)]) ∧ Below w.heap.size w w' := by
  have ra := xa.toNat_lt
  have rb := xb.toNat_lt
  have rc := xc.toNat_lt
  have hft : Lib.firstT xa.toNat = 19 := by
    unfold Lib.firstT
    repeat' split
    all_goals first | rfl | omega
  have hc0 := T.2.1 xa.toNat (by omega)
  rw [hft] at hc0
  have ha0 := (T.2.2 1 (by omega)).1
  have ha1 := (T.2.2 1 (by omega)).2
  simp only [Lib.accLo, Lib.accHi, Nat.reduceMul, Nat.reduceAdd, Nat.reduceEqDiff, if_true, if_false] at ha0 ha1
  have hz : ¬ (s.size : Int) < 1 := by omega
  have hz0 : (0 : Int) < (s.size : Int) := by omega
  have hsz : ¬ (s.size : Int) < 3 := by omega
  have hy1 : (1 : Int) < (s.size : Int) := by omega
  have hy2 : (2 : Int) < (s.size : Int) := by omega
  have ea := u8_and15 (x := (xa.toNat : Int)) (by omega) (by omega)
  have eb := u8_and63 (x := (xb.toNat : Int)) (by omega) (by omega)
  have ec := u8_and63 (x := (xc.toNat : Int)) (by omega) (by omega)
  have ob := i32_or12 (x := (xa.toNat : Int) % 16 * 4096) (y := (xb.toNat : Int) % 64 * 64) (by omega) (by omega) (by omega) (by omega) (by omega)
  have oc := i32_or6 (x := (xa.toNat : Int) % 16 * 4096 + (xb.toNat : Int) % 64 * 64) (y := (xc.toNat : Int) % 64) (by omega) (by omega) (by omega) (by omega) (by omega)
  have HA := Lib.hid ha
  clear hft T ha
  go_enter Tryd.func58, Tryd.ntmps58
  go_wp2
  all_goals
    go_ret2
    refine ⟨?_, (Below.refl _ _).alloc (Nat.le_refl _) _⟩
    have ha := HA.out
    first
      | exact ret_pair (k := 3) (d3_yes (by omega)) rfl
      | exact ret_pair (k := 1) (d3_no (by omega)) rfl
set_option maxHeartbeats 1000000 in
theorem sslow_short_3 (s : ByteArray) (xa : UInt8) (w : World) (T : Tabs w) (hn : s.size ≤ 2147483648) (g0 : 0 < s.size) (k0 : s[0]'g0 = xa) (ha : (225 ≤ xa.toNat ∧ xa.toNat ≤ 236) ∨ (238 ≤ xa.toNat ∧ xa.toNat ≤ 239)) (hs : s.size < 3) :
    Calls Tryd.prog 58 #[.string s] w fun e w' => e = .returned (.tuple #[.int .i32 65533, .int .i64 1]) ∧ Below w.heap.size w w' := by
  have ra := xa.toNat_lt
  have hft : Lib.firstT xa.toNat = 3 := by
    unfold Lib.firstT
    repeat' split
    all_goals first | rfl | omega
  have hc0 := T.2.1 xa.toNat (by omega)
  rw [hft] at hc0
  have ha0 := (T.2.2 0 (by omega)).1
  have ha1 := (T.2.2 0 (by omega)).2
  simp only [Lib.accLo, Lib.accHi, Nat.reduceMul, Nat.reduceAdd, Nat.reduceEqDiff, if_true, if_false] at ha0 ha1
  have hz : ¬ (s.size : Int) < 1 := by omega
  have hz0 : (0 : Int) < (s.size : Int) := by omega
  have hsz : (s.size : Int) < 3 := by omega
  clear hft T ha
  go_enter Tryd.func58, Tryd.ntmps58
  go_wp2
  go_ret2
  exact ⟨rfl, (Below.refl _ _).alloc (Nat.le_refl _) _⟩
set_option maxHeartbeats 4000000 in
theorem sslow_long_3 (s : ByteArray) (xa xb xc : UInt8) (w : World) (T : Tabs w) (hn : s.size ≤ 2147483648) (g0 : 0 < s.size) (k0 : s[0]'g0 = xa) (g1 : 1 < s.size) (k1 : s[1]'g1 = xb) (g2 : 2 < s.size) (k2 : s[2]'g2 = xc) (ha : (225 ≤ xa.toNat ∧ xa.toNat ≤ 236) ∨ (238 ≤ xa.toNat ∧ xa.toNat ≤ 239)) :
    Calls Tryd.prog 58 #[.string s] w fun e w' => e = .returned (.tuple #[.int .i32 (d3 (xa.toNat : Int) (xb.toNat : Int) (xc.toNat : Int)).1, .int .i64 ((d3 (xa.toNat : Int) (xb.toNat : Int) (xc.toNat : Int)).2 : Int)]) ∧ Below w.heap.size w w' := by
  have ra := xa.toNat_lt
  have rb := xb.toNat_lt
  have rc := xc.toNat_lt
  have hft : Lib.firstT xa.toNat = 3 := by
    unfold Lib.firstT
    repeat' split
    all_goals first | rfl | omega
  have hc0 := T.2.1 xa.toNat (by omega)
  rw [hft] at hc0
  have ha0 := (T.2.2 0 (by omega)).1
  have ha1 := (T.2.2 0 (by omega)).2
  simp only [Lib.accLo, Lib.accHi, Nat.reduceMul, Nat.reduceAdd, Nat.reduceEqDiff, if_true, if_false] at ha0 ha1
  have hz : ¬ (s.size : Int) < 1 := by omega
  have hz0 : (0 : Int) < (s.size : Int) := by omega
  have hsz : ¬ (s.size : Int) < 3 := by omega
  have hy1 : (1 : Int) < (s.size : Int) := by omega
  have hy2 : (2 : Int) < (s.size : Int) := by omega
  have ea := u8_and15 (x := (xa.toNat : Int)) (by omega) (by omega)
  have eb := u8_and63 (x := (xb.toNat : Int)) (by omega) (by omega)
  have ec := u8_and63 (x := (xc.toNat : Int)) (by omega) (by omega)
  have ob := i32_or12 (x := (xa.toNat : Int) % 16 * 4096) (y := (xb.toNat : Int) % 64 * 64) (by omega) (by omega) (by omega) (by omega) (by omega)
  have oc := i32_or6 (x := (xa.toNat : Int) % 16 * 4096 + (xb.toNat : Int) % 64 * 64) (y := (xc.toNat : Int) % 64) (by omega) (by omega) (by omega) (by omega) (by omega)
  have HA := Lib.hid ha
  clear hft T ha
  go_enter Tryd.func58, Tryd.ntmps58
  go_wp2
  all_goals
    go_ret2
    refine ⟨?_, (Below.refl _ _).alloc (Nat.le_refl _) _⟩
    have ha := HA.out
    first
      | exact ret_pair (k := 3) (d3_yes (by omega)) rfl
      | exact ret_pair (k := 1) (d3_no (by omega)) rfl
set_option maxHeartbeats 1000000 in
theorem sslow_short_35 (s : ByteArray) (xa : UInt8) (w : World) (T : Tabs w) (hn : s.size ≤ 2147483648) (g0 : 0 < s.size) (k0 : s[0]'g0 = xa) (ha : xa.toNat = 237) (hs : s.size < 3) :
    Calls Tryd.prog 58 #[.string s] w fun e w' => e = .returned (.tuple #[.int .i32 65533, .int .i64 1]) ∧ Below w.heap.size w w' := by
  have ra := xa.toNat_lt
  have hft : Lib.firstT xa.toNat = 35 := by
    unfold Lib.firstT
    repeat' split
    all_goals first | rfl | omega
  have hc0 := T.2.1 xa.toNat (by omega)
  rw [hft] at hc0
  have ha0 := (T.2.2 2 (by omega)).1
  have ha1 := (T.2.2 2 (by omega)).2
  simp only [Lib.accLo, Lib.accHi, Nat.reduceMul, Nat.reduceAdd, Nat.reduceEqDiff, if_true, if_false] at ha0 ha1
  have hz : ¬ (s.size : Int) < 1 := by omega
  have hz0 : (0 : Int) < (s.size : Int) := by omega
  have hsz : (s.size : Int) < 3 := by omega
  clear hft T ha
  go_enter Tryd.func58, Tryd.ntmps58
  go_wp2
  go_ret2
  exact ⟨rfl, (Below.refl _ _).alloc (Nat.le_refl _) _⟩
set_option maxHeartbeats 4000000 in
theorem sslow_long_35 (s : ByteArray) (xa xb xc : UInt8) (w : World) (T : Tabs w) (hn : s.size ≤ 2147483648) (g0 : 0 < s.size) (k0 : s[0]'g0 = xa) (g1 : 1 < s.size) (k1 : s[1]'g1 = xb) (g2 : 2 < s.size) (k2 : s[2]'g2 = xc) (ha : xa.toNat = 237) :
    Calls Tryd.prog 58 #[.string s] w fun e w' => e = .returned (.tuple #[.int .i32 (d3 (xa.toNat : Int) (xb.toNat : Int) (xc.toNat : Int)).1, .int .i64 ((d3 (xa.toNat : Int) (xb.toNat : Int) (xc.toNat : Int)).2 : Int)]) ∧ Below w.heap.size w w' := by
  have ra := xa.toNat_lt
  have rb := xb.toNat_lt
  have rc := xc.toNat_lt
  have hft : Lib.firstT xa.toNat = 35 := by
    unfold Lib.firstT
    repeat' split
    all_goals first | rfl | omega
  have hc0 := T.2.1 xa.toNat (by omega)
  rw [hft] at hc0
  have ha0 := (T.2.2 2 (by omega)).1
  have ha1 := (T.2.2 2 (by omega)).2
  simp only [Lib.accLo, Lib.accHi, Nat.reduceMul, Nat.reduceAdd, Nat.reduceEqDiff, if_true, if_false] at ha0 ha1
  have hz : ¬ (s.size : Int) < 1 := by omega
  have hz0 : (0 : Int) < (s.size : Int) := by omega
  have hsz : ¬ (s.size : Int) < 3 := by omega
  have hy1 : (1 : Int) < (s.size : Int) := by omega
  have hy2 : (2 : Int) < (s.size : Int) := by omega
  have ea := u8_and15 (x := (xa.toNat : Int)) (by omega) (by omega)
  have eb := u8_and63 (x := (xb.toNat : Int)) (by omega) (by omega)
  have ec := u8_and63 (x := (xc.toNat : Int)) (by omega) (by omega)
  have ob := i32_or12 (x := (xa.toNat : Int) % 16 * 4096) (y := (xb.toNat : Int) % 64 * 64) (by omega) (by omega) (by omega) (by omega) (by omega)
  have oc := i32_or6 (x := (xa.toNat : Int) % 16 * 4096 + (xb.toNat : Int) % 64 * 64) (y := (xc.toNat : Int) % 64) (by omega) (by omega) (by omega) (by omega) (by omega)
  have HA := Lib.hid ha
  clear hft T ha
  go_enter Tryd.func58, Tryd.ntmps58
  go_wp2
  all_goals
    go_ret2
    refine ⟨?_, (Below.refl _ _).alloc (Nat.le_refl _) _⟩
    have ha := HA.out
    first
      | exact ret_pair (k := 3) (d3_yes (by omega)) rfl
      | exact ret_pair (k := 1) (d3_no (by omega)) rfl
set_option maxHeartbeats 1000000 in
theorem sslow_short_52 (s : ByteArray) (xa : UInt8) (w : World) (T : Tabs w) (hn : s.size ≤ 2147483648) (g0 : 0 < s.size) (k0 : s[0]'g0 = xa) (ha : xa.toNat = 240) (hs : s.size < 4) :
    Calls Tryd.prog 58 #[.string s] w fun e w' => e = .returned (.tuple #[.int .i32 65533, .int .i64 1]) ∧ Below w.heap.size w w' := by
  have ra := xa.toNat_lt
  have hft : Lib.firstT xa.toNat = 52 := by
    unfold Lib.firstT
    repeat' split
    all_goals first | rfl | omega
  have hc0 := T.2.1 xa.toNat (by omega)
  rw [hft] at hc0
  have ha0 := (T.2.2 3 (by omega)).1
  have ha1 := (T.2.2 3 (by omega)).2
  simp only [Lib.accLo, Lib.accHi, Nat.reduceMul, Nat.reduceAdd, Nat.reduceEqDiff, if_true, if_false] at ha0 ha1
  have hz : ¬ (s.size : Int) < 1 := by omega
  have hz0 : (0 : Int) < (s.size : Int) := by omega
  have hsz : (s.size : Int) < 4 := by omega
  clear hft T ha
  go_enter Tryd.func58, Tryd.ntmps58
  go_wp2
  go_ret2
  exact ⟨rfl, (Below.refl _ _).alloc (Nat.le_refl _) _⟩
set_option maxHeartbeats 4000000 in
theorem sslow_long_52 (s : ByteArray) (xa xb xc xd : UInt8) (w : World) (T : Tabs w) (hn : s.size ≤ 2147483648) (g0 : 0 < s.size) (k0 : s[0]'g0 = xa) (g1 : 1 < s.size) (k1 : s[1]'g1 = xb) (g2 : 2 < s.size) (k2 : s[2]'g2 = xc) (g3 : 3 < s.size) (k3 : s[3]'g3 = xd) (ha : xa.toNat = 240) :
    Calls Tryd.prog 58 #[.string s] w fun e w' => e = .returned (.tuple #[.int .i32 (d4 (xa.toNat : Int) (xb.toNat : Int) (xc.toNat : Int) (xd.toNat : Int)).1, .int .i64 ((d4 (xa.toNat : Int) (xb.toNat : Int) (xc.toNat : Int) (xd.toNat : Int)).2 : Int)]) ∧ Below w.heap.size w w' := by
  have ra := xa.toNat_lt
  have rb := xb.toNat_lt
  have rc := xc.toNat_lt
  have rd := xd.toNat_lt
  have hft : Lib.firstT xa.toNat = 52 := by
    unfold Lib.firstT
    repeat' split
    all_goals first | rfl | omega
  have hc0 := T.2.1 xa.toNat (by omega)
  rw [hft] at hc0
  have ha0 := (T.2.2 3 (by omega)).1
  have ha1 := (T.2.2 3 (by omega)).2
  simp only [Lib.accLo, Lib.accHi, Nat.reduceMul, Nat.reduceAdd, Nat.reduceEqDiff, if_true, if_false] at ha0 ha1
  have hz : ¬ (s.size : Int) < 1 := by omega
  have hz0 : (0 : Int) < (s.size : Int) := by omega
  have hsz : ¬ (s.size : Int) < 4 := by omega
  have hy1 : (1 : Int) < (s.size : Int) := by omega
  have hy2 : (2 : Int) < (s.size : Int) := by omega
  have hy3 : (3 : Int) < (s.size : Int) := by omega
  have ea := u8_and7 (x := (xa.toNat : Int)) (by omega) (by omega)
  have eb := u8_and63 (x := (xb.toNat : Int)) (by omega) (by omega)
  have ec := u8_and63 (x := (xc.toNat : Int)) (by omega) (by omega)
  have ed := u8_and63 (x := (xd.toNat : Int)) (by omega) (by omega)
  have ob := i32_or18 (x := (xa.toNat : Int) % 8 * 262144) (y := (xb.toNat : Int) % 64 * 4096) (by omega) (by omega) (by omega) (by omega) (by omega)
  have oc := i32_or12 (x := (xa.toNat : Int) % 8 * 262144 + (xb.toNat : Int) % 64 * 4096) (y := (xc.toNat : Int) % 64 * 64) (by omega) (by omega) (by omega) (by omega) (by omega)
  have od := i32_or6 (x := (xa.toNat : Int) % 8 * 262144 + (xb.toNat : Int) % 64 * 4096 + (xc.toNat : Int) % 64 * 64) (y := (xd.toNat : Int) % 64) (by omega) (by omega) (by omega) (by omega) (by omega)
  have HA := Lib.hid ha
  clear hft T ha
  go_enter Tryd.func58, Tryd.ntmps58
  go_wp2
  all_goals
    go_ret2
    refine ⟨?_, (Below.refl _ _).alloc (Nat.le_refl _) _⟩
    have ha := HA.out
    first
      | exact ret_pair (k := 4) (d4_yes (by omega)) rfl
      | exact ret_pair (k := 1) (d4_no (by omega)) rfl
set_option maxHeartbeats 1000000 in
theorem sslow_short_4 (s : ByteArray) (xa : UInt8) (w : World) (T : Tabs w) (hn : s.size ≤ 2147483648) (g0 : 0 < s.size) (k0 : s[0]'g0 = xa) (ha : 241 ≤ xa.toNat ∧ xa.toNat ≤ 243) (hs : s.size < 4) :
    Calls Tryd.prog 58 #[.string s] w fun e w' => e = .returned (.tuple #[.int .i32 65533, .int .i64 1]) ∧ Below w.heap.size w w' := by
  have ra := xa.toNat_lt
  have hft : Lib.firstT xa.toNat = 4 := by
    unfold Lib.firstT
    repeat' split
    all_goals first | rfl | omega
  have hc0 := T.2.1 xa.toNat (by omega)
  rw [hft] at hc0
  have ha0 := (T.2.2 0 (by omega)).1
  have ha1 := (T.2.2 0 (by omega)).2
  simp only [Lib.accLo, Lib.accHi, Nat.reduceMul, Nat.reduceAdd, Nat.reduceEqDiff, if_true, if_false] at ha0 ha1
  have hz : ¬ (s.size : Int) < 1 := by omega
  have hz0 : (0 : Int) < (s.size : Int) := by omega
  have hsz : (s.size : Int) < 4 := by omega
  clear hft T ha
  go_enter Tryd.func58, Tryd.ntmps58
  go_wp2
  go_ret2
  exact ⟨rfl, (Below.refl _ _).alloc (Nat.le_refl _) _⟩
set_option maxHeartbeats 4000000 in
theorem sslow_long_4 (s : ByteArray) (xa xb xc xd : UInt8) (w : World) (T : Tabs w) (hn : s.size ≤ 2147483648) (g0 : 0 < s.size) (k0 : s[0]'g0 = xa) (g1 : 1 < s.size) (k1 : s[1]'g1 = xb) (g2 : 2 < s.size) (k2 : s[2]'g2 = xc) (g3 : 3 < s.size) (k3 : s[3]'g3 = xd) (ha : 241 ≤ xa.toNat ∧ xa.toNat ≤ 243) :
    Calls Tryd.prog 58 #[.string s] w fun e w' => e = .returned (.tuple #[.int .i32 (d4 (xa.toNat : Int) (xb.toNat : Int) (xc.toNat : Int) (xd.toNat : Int)).1, .int .i64 ((d4 (xa.toNat : Int) (xb.toNat : Int) (xc.toNat : Int) (xd.toNat : Int)).2 : Int)]) ∧ Below w.heap.size w w' := by
  have ra := xa.toNat_lt
  have rb := xb.toNat_lt
  have rc := xc.toNat_lt
  have rd := xd.toNat_lt
  have hft : Lib.firstT xa.toNat = 4 := by
    unfold Lib.firstT
    repeat' split
    all_goals first | rfl | omega
  have hc0 := T.2.1 xa.toNat (by omega)
  rw [hft] at hc0
  have ha0 := (T.2.2 0 (by omega)).1
  have ha1 := (T.2.2 0 (by omega)).2
  simp only [Lib.accLo, Lib.accHi, Nat.reduceMul, Nat.reduceAdd, Nat.reduceEqDiff, if_true, if_false] at ha0 ha1
  have hz : ¬ (s.size : Int) < 1 := by omega
  have hz0 : (0 : Int) < (s.size : Int) := by omega
  have hsz : ¬ (s.size : Int) < 4 := by omega
  have hy1 : (1 : Int) < (s.size : Int) := by omega
  have hy2 : (2 : Int) < (s.size : Int) := by omega
  have hy3 : (3 : Int) < (s.size : Int) := by omega
  have ea := u8_and7 (x := (xa.toNat : Int)) (by omega) (by omega)
  have eb := u8_and63 (x := (xb.toNat : Int)) (by omega) (by omega)
  have ec := u8_and63 (x := (xc.toNat : Int)) (by omega) (by omega)
  have ed := u8_and63 (x := (xd.toNat : Int)) (by omega) (by omega)
  have ob := i32_or18 (x := (xa.toNat : Int) % 8 * 262144) (y := (xb.toNat : Int) % 64 * 4096) (by omega) (by omega) (by omega) (by omega) (by omega)
  have oc := i32_or12 (x := (xa.toNat : Int) % 8 * 262144 + (xb.toNat : Int) % 64 * 4096) (y := (xc.toNat : Int) % 64 * 64) (by omega) (by omega) (by omega) (by omega) (by omega)
  have od := i32_or6 (x := (xa.toNat : Int) % 8 * 262144 + (xb.toNat : Int) % 64 * 4096 + (xc.toNat : Int) % 64 * 64) (y := (xd.toNat : Int) % 64) (by omega) (by omega) (by omega) (by omega) (by omega)
  have HA := Lib.hid ha
  clear hft T ha
  go_enter Tryd.func58, Tryd.ntmps58
  go_wp2
  all_goals
    go_ret2
    refine ⟨?_, (Below.refl _ _).alloc (Nat.le_refl _) _⟩
    have ha := HA.out
    first
      | exact ret_pair (k := 4) (d4_yes (by omega)) rfl
      | exact ret_pair (k := 1) (d4_no (by omega)) rfl
set_option maxHeartbeats 1000000 in
theorem sslow_short_68 (s : ByteArray) (xa : UInt8) (w : World) (T : Tabs w) (hn : s.size ≤ 2147483648) (g0 : 0 < s.size) (k0 : s[0]'g0 = xa) (ha : xa.toNat = 244) (hs : s.size < 4) :
    Calls Tryd.prog 58 #[.string s] w fun e w' => e = .returned (.tuple #[.int .i32 65533, .int .i64 1]) ∧ Below w.heap.size w w' := by
  have ra := xa.toNat_lt
  have hft : Lib.firstT xa.toNat = 68 := by
    unfold Lib.firstT
    repeat' split
    all_goals first | rfl | omega
  have hc0 := T.2.1 xa.toNat (by omega)
  rw [hft] at hc0
  have ha0 := (T.2.2 4 (by omega)).1
  have ha1 := (T.2.2 4 (by omega)).2
  simp only [Lib.accLo, Lib.accHi, Nat.reduceMul, Nat.reduceAdd, Nat.reduceEqDiff, if_true, if_false] at ha0 ha1
  have hz : ¬ (s.size : Int) < 1 := by omega
  have hz0 : (0 : Int) < (s.size : Int) := by omega
  have hsz : (s.size : Int) < 4 := by omega
  clear hft T ha
  go_enter Tryd.func58, Tryd.ntmps58
  go_wp2
  go_ret2
  exact ⟨rfl, (Below.refl _ _).alloc (Nat.le_refl _) _⟩
set_option maxHeartbeats 4000000 in
theorem sslow_long_68 (s : ByteArray) (xa xb xc xd : UInt8) (w : World) (T : Tabs w) (hn : s.size ≤ 2147483648) (g0 : 0 < s.size) (k0 : s[0]'g0 = xa) (g1 : 1 < s.size) (k1 : s[1]'g1 = xb) (g2 : 2 < s.size) (k2 : s[2]'g2 = xc) (g3 : 3 < s.size) (k3 : s[3]'g3 = xd) (ha : xa.toNat = 244) :
    Calls Tryd.prog 58 #[.string s] w fun e w' => e = .returned (.tuple #[.int .i32 (d4 (xa.toNat : Int) (xb.toNat : Int) (xc.toNat : Int) (xd.toNat : Int)).1, .int .i64 ((d4 (xa.toNat : Int) (xb.toNat : Int) (xc.toNat : Int) (xd.toNat : Int)).2 : Int)]) ∧ Below w.heap.size w w' := by
  have ra := xa.toNat_lt
  have rb := xb.toNat_lt
  have rc := xc.toNat_lt
  have rd := xd.toNat_lt
  have hft : Lib.firstT xa.toNat = 68 := by
    unfold Lib.firstT
    repeat' split
    all_goals first | rfl | omega
  have hc0 := T.2.1 xa.toNat (by omega)
  rw [hft] at hc0
  have ha0 := (T.2.2 4 (by omega)).1
  have ha1 := (T.2.2 4 (by omega)).2
  simp only [Lib.accLo, Lib.accHi, Nat.reduceMul, Nat.reduceAdd, Nat.reduceEqDiff, if_true, if_false] at ha0 ha1
  have hz : ¬ (s.size : Int) < 1 := by omega
  have hz0 : (0 : Int) < (s.size : Int) := by omega
  have hsz : ¬ (s.size : Int) < 4 := by omega
  have hy1 : (1 : Int) < (s.size : Int) := by omega
  have hy2 : (2 : Int) < (s.size : Int) := by omega
  have hy3 : (3 : Int) < (s.size : Int) := by omega
  have ea := u8_and7 (x := (xa.toNat : Int)) (by omega) (by omega)
  have eb := u8_and63 (x := (xb.toNat : Int)) (by omega) (by omega)
  have ec := u8_and63 (x := (xc.toNat : Int)) (by omega) (by omega)
  have ed := u8_and63 (x := (xd.toNat : Int)) (by omega) (by omega)
  have ob := i32_or18 (x := (xa.toNat : Int) % 8 * 262144) (y := (xb.toNat : Int) % 64 * 4096) (by omega) (by omega) (by omega) (by omega) (by omega)
  have oc := i32_or12 (x := (xa.toNat : Int) % 8 * 262144 + (xb.toNat : Int) % 64 * 4096) (y := (xc.toNat : Int) % 64 * 64) (by omega) (by omega) (by omega) (by omega) (by omega)
  have od := i32_or6 (x := (xa.toNat : Int) % 8 * 262144 + (xb.toNat : Int) % 64 * 4096 + (xc.toNat : Int) % 64 * 64) (y := (xd.toNat : Int) % 64) (by omega) (by omega) (by omega) (by omega) (by omega)
  have HA := Lib.hid ha
  clear hft T ha
  go_enter Tryd.func58, Tryd.ntmps58
  go_wp2
  all_goals
    go_ret2
    refine ⟨?_, (Below.refl _ _).alloc (Nat.le_refl _) _⟩
    have ha := HA.out
    first
      | exact ret_pair (k := 4) (d4_yes (by omega)) rfl
      | exact ret_pair (k := 1) (d4_no (by omega)) rfl
set_option maxHeartbeats 1000000 in
theorem sslow_lead_241 (s : ByteArray) (xa : UInt8) (w : World) (T : Tabs w) (hn : s.size ≤ 2147483648) (g0 : 0 < s.size) (k0 : s[0]'g0 = xa) (ha : 128 ≤ xa.toNat ∧ (xa.toNat < 194 ∨ 244 < xa.toNat)) :
    Calls Tryd.prog 58 #[.string s] w fun e w' => e = .returned (.tuple #[.int .i32 65533, .int .i64 1]) ∧ Below w.heap.size w w' := by
  have ra := xa.toNat_lt
  have hft : Lib.firstT xa.toNat = 241 := by
    unfold Lib.firstT
    repeat' split
    all_goals first | rfl | omega
  have hc0 := T.2.1 xa.toNat (by omega)
  rw [hft] at hc0
  have hz : ¬ (s.size : Int) < 1 := by omega
  have hz0 : (0 : Int) < (s.size : Int) := by omega
  clear hft T ha
  go_enter Tryd.func58, Tryd.ntmps58
  go_wp2
  rw [mask241, drop_fin ⟨xa.toNat, ra⟩]
  go_ret2
  exact ⟨rfl, Below.refl _ _⟩
set_option maxHeartbeats 1000000 in
theorem sslow_lead_240 (s : ByteArray) (xa : UInt8) (w : World) (T : Tabs w) (hn : s.size ≤ 2147483648) (g0 : 0 < s.size) (k0 : s[0]'g0 = xa) (ha : xa.toNat < 128) :
    Calls Tryd.prog 58 #[.string s] w fun e w' => e = .returned (.tuple #[.int .i32 (xa.toNat : Int), .int .i64 1]) ∧ Below w.heap.size w w' := by
  have ra := xa.toNat_lt
  have hft : Lib.firstT xa.toNat = 240 := by
    unfold Lib.firstT
    repeat' split
    all_goals first | rfl | omega
  have hc0 := T.2.1 xa.toNat (by omega)
  rw [hft] at hc0
  have hz : ¬ (s.size : Int) < 1 := by omega
  have hz0 : (0 : Int) < (s.size : Int) := by omega
  clear hft T ha
  go_enter Tryd.func58, Tryd.ntmps58
  go_wp2
  rw [mask240, keep_fin ⟨xa.toNat, ra⟩]
  go_ret2
  exact ⟨rfl, Below.refl _ _⟩

end Go.Proofs.YtincmkjffohekaaDoor
