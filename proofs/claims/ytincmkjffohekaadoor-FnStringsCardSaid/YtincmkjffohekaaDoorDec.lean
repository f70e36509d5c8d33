/-
  Proved here: the contract of goutf8.decodeRuneSlow, class by class of the first byte, the tables lying as their initialisers lay them. No other conditions.
-/
import Derived.Test.YtincmkjffohekaaDoorDpl
import Derived.Deep.RegionHeld
namespace Go.Proofs.YtincmkjffohekaaDoor
open Go.RowKit

set_option maxHeartbeats 1000000 in
theorem slow_short_2 (bl off n cc : Nat) (a : Nat) (w : World) (T : Tabs w) (hn : n ≤ 2147483648) (k0 : w.cell? ⟨bl, off, none⟩ = some (.int .u8 (a : Int))) (ra : a < 256) (ha : 194 ≤ a ∧ a ≤ 223) (h1 : 1 ≤ n) (hs : n < 2) :
    Calls Tryd.prog 56 #[.slice (some ⟨bl, off, none⟩) n cc] w fun e w' => e = .returned (.tuple #[.int .i32 65533, .int .i64 1]) ∧ Below w.heap.size w w' := by
  have hft : Lib.firstT a = 2 := by
    unfold Lib.firstT
    repeat' split
    all_goals first | rfl | omega
  have hc0 := T.2.1 a (by omega)
  rw [hft] at hc0
  have ha0 := (T.2.2 0 (by omega)).1
  have ha1 := (T.2.2 0 (by omega)).2
  simp only [Lib.accLo, Lib.accHi, Nat.reduceMul, Nat.reduceAdd, Nat.reduceEqDiff, if_true, if_false] at ha0 ha1
  have hz : ¬ (n : Int) < 1 := by omega
  have hz0 : (0 : Int) < (n : Int) := by omega
  have hsz : (n : Int) < 2 := by omega
  clear hft T ha
  go_enter Tryd.func56, Tryd.ntmps56
  go_wp2
  go_ret2
  exact ⟨rfl, (Below.refl _ _).alloc (Nat.le_refl _) _⟩
set_option maxHeartbeats 4000000 in
theorem slow_long_2 (bl off n cc : Nat) (a b : Nat) (w : World) (T : Tabs w) (hn : n ≤ 2147483648) (k0 : w.cell? ⟨bl, off, none⟩ = some (.int .u8 (a : Int))) (k1 : w.cell? ⟨bl, off + 1, none⟩ = some (.int .u8 (b : Int))) (ra : a < 256) (rb : b < 256) (ha : 194 ≤ a ∧ a ≤ 223) (h1 : 2 ≤ n) :
    Calls Tryd.prog 56 #[.slice (some ⟨bl, off, none⟩) n cc] w fun e w' => e = .returned (.tuple #[.int .i32 (d2 (a : Int) (b : Int)).1, .int .i64 ((d2 (a : Int) (b : Int)).2 : Int)]) ∧ Below w.heap.size w w' := by
  have hft : Lib.firstT a = 2 := by
    unfold Lib.firstT
    repeat' split
    all_goals first | rfl | omega
  have hc0 := T.2.1 a (by omega)
  rw [hft] at hc0
  have ha0 := (T.2.2 0 (by omega)).1
  have ha1 := (T.2.2 0 (by omega)).2
  simp only [Lib.accLo, Lib.accHi, Nat.reduceMul, Nat.reduceAdd, Nat.reduceEqDiff, if_true, if_false] at ha0 ha1
  have hz : ¬ (n : Int) < 1 := by omega
  have hz0 : (0 : Int) < (n : Int) := by omega
  have hsz : ¬ (n : Int) < 2 := by omega
  have q1 := (World.cell?_alloc_some w _ (Obj.cells #[.int .u8 128, .int .u8 191] 49) (by rw [k1]; rfl)).trans k1
  have hy1 : (1 : Int) < (n : Int) := by omega
  have ea := u8_and31 (x := (a : Int)) (by omega) (by omega)
  have eb := u8_and63 (x := (b : Int)) (by omega) (by omega)
  have ob := i32_or6 (x := (a : Int) % 32 * 64) (y := (b : Int) % 64) (by omega) (by omega) (by omega) (by omega) (by omega)
  have HA := Lib.hid ha
  clear hft T ha
  go_enter Tryd.func56, Tryd.ntmps56
  go_wp2
  all_goals
    go_ret2
    refine ⟨?_, (Below.refl _ _).alloc (Nat.le_refl _) _⟩
    have ha := HA.out
    first
      | exact ret_pair (k := 2) (d2_yes (by omega)) rfl
      | exact ret_pair (k := 1) (d2_no (by omega)) rfl
set_option maxHeartbeats 1000000 in
theorem slow_short_19 (bl off n cc : Nat) (a : Nat) (w : World) (T : Tabs w) (hn : n ≤ 2147483648) (k0 : w.cell? ⟨bl, off, none⟩ = some (.int .u8 (a : Int))) (ra : a < 256) (ha : a = 224) (h1 : 1 ≤ n) (hs : n < 3) :
    Calls Tryd.prog 56 #[.slice (some ⟨bl, off, none⟩) n cc] w fun e w' => e = .returned (.tuple #[.int .i32 65533, .int .i64 1]) ∧ Below w.heap.size w w' := by
  have hft : Lib.firstT a = 19 := by
    unfold Lib.firstT
    repeat' split
    all_goals first | rfl | omega
  have hc0 := T.2.1 a (by omega)
  rw [hft] at hc0
  have ha0 := (T.2.2 1 (by omega)).1
  have ha1 := (T.2.2 1 (by omega)).2
  simp only [Lib.accLo, Lib.accHi, Nat.reduceMul, Nat.reduceAdd, Nat.reduceEqDiff, if_true, if_false] at ha0 ha1
  have hz : ¬ (n : Int) < 1 := by omega
  have hz0 : (0 : Int) < (n : Int) := by omega
  have hsz : (n : Int) < 3 := by omega
  clear hft T ha
  go_enter Tryd.func56, Tryd.ntmps56
  go_wp2
  go_ret2
  exact ⟨rfl, (Below.refl _ _).alloc (Nat.le_refl _) _⟩
set_option maxHeartbeats 4000000 in
theorem slow_long_19 (bl off n cc : Nat) (a b c : Nat) (w : World) (T : Tabs w) (hn : n ≤ 2147483648) (k0 : w.cell? ⟨bl, off, none⟩ = some (.int .u8 (a : Int))) (k1 : w.cell? ⟨bl, off + 1, none⟩ = some (.int .u8 (b : Int))) (k2 : w.cell? ⟨bl, off + 2, none⟩ = some (.int .u8 (c : Int))) (ra : a < 256) (rb : b < 256) (rc : c < 256) (ha : a = 224) (h1 : 3 ≤ n) :
    Calls Tryd.prog 56 #[.slice (some ⟨bl, off, none⟩) n cc] w fun e w' => e = .returned (.tuple #[.int .i32 (d3 (a : Int) (b : Int) (c : Int)).1, .int .i64 ((d3 (a : Int) (b : Int) (c : Int)).2 : Int)]) ∧ Below w.heap.size w w' := by
  have hft : Lib.firstT a = 19 := by
    unfold Lib.firstT
    repeat' split
    all_goals first | rfl | omega
  have hc0 := T.2.1 a (by omega)
  rw [hft] at hc0
  have ha0 := (T.2.2 1 (by omega)).1
  have ha1 := (T.2.2 1 (by omega)).2
  simp only [Lib.accLo, Lib.accHi, Nat.reduceMul, Nat.reduceAdd, Nat.reduceEqDiff, if_true, if_false] at ha0 ha1
  have hz : ¬ (n : Int) < 1 := by omega
  have hz0 : (0 : Int) < (n : Int) := by omega
  have hsz : ¬ (n : Int) < 3 := by omega
  have q1 := (World.cell?_alloc_some w _ (Obj.cells #[.int .u8 160, .int .u8 191] 49) (by rw [k1]; rfl)).trans k1
  have q2 := (World.cell?_alloc_some w _ (Obj.cells #[.int .u8 160, .int .u8 191] 49) (by rw [k2]; rfl)).trans k2
  have hy1 : (1 : Int) < (n : Int) := by omega
  have hy2 : (2 : Int) < (n : Int) := by omega
  have ea := u8_and15 (x := (a : Int)) (by omega) (by omega)
  have eb := u8_and63 (x := (b : Int)) (by omega) (by omega)
  have ec := u8_and63 (x := (c : Int)) (by omega) (by omega)
  have ob := i32_or12 (x := (a : Int) % 16 * 4096) (y := (b : Int) % 64 * 64) (by omega) (by omega) (by omega) (by omega) (by omega)
  have oc := i32_or6 (x := (a : Int) % 16 * 4096 + (b : Int) % 64 * 64) (y := (c : Int) % 64) (by omega) (by omega) (by omega) (by omega) (by omega)
  have HA := Lib.hid ha
  clear hft T ha
  go_enter Tryd.func56, Tryd.ntmps56
  go_wp2
  all_goals
    go_ret2
    refine ⟨?_, (Below.refl _ _).alloc (Nat.le_refl _) _⟩
    have ha := HA.out
    first
      | exact ret_pair (k := 3) (d3_yes (by omega)) rfl
      | exact ret_pair (k := 1) (d3_no (by omega)) rfl
set_option maxHeartbeats 1000000 in
theorem slow_short_3 (bl off n cc : Nat) (a : Nat) (w : World) (T : Tabs w) (hn : n ≤ 2147483648) (k0 : w.cell? ⟨bl, off, none⟩ = some (.int .u8 (a : Int))) (ra : a < 256) (ha : (225 ≤ a ∧ a ≤ 236) ∨ (238 ≤ a ∧ a ≤ 239)) (h1 : 1 ≤ n) (hs : n < 3) :
    Calls Tryd.prog 56 #[.slice (some ⟨bl, off, none⟩) n cc] w fun e w' => e = .returned (.tuple #[.int .i32 65533, .int .i64 1]) ∧ Below w.heap.size w w' := by
  have hft : Lib.firstT a = 3 := by
    unfold Lib.firstT
    repeat' split
    all_goals first | rfl | omega
  have hc0 := T.2.1 a (by omega)
  rw [hft] at hc0
  have ha0 := (T.2.2 0 (by omega)).1
  have ha1 := (T.2.2 0 (by omega)).2
  simp only [Lib.accLo, Lib.accHi, Nat.reduceMul, Nat.reduceAdd, Nat.reduceEqDiff, if_true, if_false] at ha0 ha1
  have hz : ¬ (n : Int) < 1 := by omega
  have hz0 : (0 : Int) < (n : Int) := by omega
  have hsz : (n : Int) < 3 := by omega
  clear hft T ha
  go_enter Tryd.func56, Tryd.ntmps56
  go_wp2
  go_ret2
  exact ⟨rfl, (Below.refl _ _).alloc (Nat.le_refl _) _⟩
set_option maxHeartbeats 4000000 in
theorem slow_long_3 (bl off n cc : Nat) (a b c : Nat) (w : World) (T : Tabs w) (hn : n ≤ 2147483648) (k0 : w.cell? ⟨bl, off, none⟩ = some (.int .u8 (a : Int))) (k1 : w.cell? ⟨bl, off + 1, none⟩ = some (.int .u8 (b : Int))) (k2 : w.cell? ⟨bl, off + 2, none⟩ = some (.int .u8 (c : Int))) (ra : a < 256) (rb : b < 256) (rc : c < 256) (ha : (225 ≤ a ∧ a ≤ 236) ∨ (238 ≤ a ∧ a ≤ 239)) (h1 : 3 ≤ n) :
    Calls Tryd.prog 56 #[.slice (some ⟨bl, off, none⟩) n cc] w fun e w' => e = .returned (.tuple #[.int .i32 (d3 (a : Int) (b : Int) (c : Int)).1, .int .i64 ((d3 (a : Int) (b : Int) (c : Int)).2 : Int)]) ∧ Below w.heap.size w w' := by
  have hft : Lib.firstT a = 3 := by
    unfold Lib.firstT
    repeat' split
    all_goals first | rfl | omega
  have hc0 := T.2.1 a (by omega)
  rw [hft] at hc0
  have ha0 := (T.2.2 0 (by omega)).1
  have ha1 := (T.2.2 0 (by omega)).2
  simp only [Lib.accLo, Lib.accHi, Nat.reduceMul, Nat.reduceAdd, Nat.reduceEqDiff, if_true, if_false] at ha0 ha1
  have hz : ¬ (n : Int) < 1 := by omega
  have hz0 : (0 : Int) < (n : Int) := by omega
  have hsz : ¬ (n : Int) < 3 := by omega
  have q1 := (World.cell?_alloc_some w _ (Obj.cells #[.int .u8 128, .int .u8 191] 49) (by rw [k1]; rfl)).trans k1
  have q2 := (World.cell?_alloc_some w _ (Obj.cells #[.int .u8 128, .int .u8 191] 49) (by rw [k2]; rfl)).trans k2
  have hy1 : (1 : Int) < (n : Int) := by omega
  have hy2 : (2 : Int) < (n : Int) := by omega
  have ea := u8_and15 (x := (a : Int)) (by omega) (by omega)
  have eb := u8_and63 (x := (b : Int)) (by omega) (by omega)
  have ec := u8_and63 (x := (c : Int)) (by omega) (by omega)
  have ob := i32_or12 (x := (a : Int) % 16 * 4096) (y := (b : Int) % 64 * 64) (by omega) (by omega) (by omega) (by omega) (by omega)
  have oc := i32_or6 (x := (a : Int) % 16 * 4096 + (b : Int) % 64 * 64) (y := (c : Int) % 64) (by omega) (by omega) (by omega) (by omega) (by omega)
  have HA := Lib.hid ha
  clear hft T ha
  go_enter Tryd.func56, Tryd.ntmps56
  go_wp2
  all_goals
    go_ret2
    refine ⟨?_, (Below.refl _ _).alloc (Nat.le_refl _) _⟩
    have ha := HA.out
    first
      | exact ret_pair (k := 3) (d3_yes (by omega)) rfl
      | exact ret_pair (k := 1) (d3_no (by omega)) rfl
set_option maxHeartbeats 1000000 in
theorem slow_short_35 (bl off n cc : Nat) (a : Nat) (w : World) (T : Tabs w) (hn : n ≤ 2147483648) (k0 : w.cell? ⟨bl, off, none⟩ = some (.int .u8 (a : Int))) (ra : a < 256) (ha : a = 237) (h1 : 1 ≤ n) (hs : n < 3) :
    Calls Tryd.prog 56 #[.slice (some ⟨bl, off, none⟩) n cc] w fun e w' => e = .returned (.tuple #[.int .i32 65533, .int .i64 1]) ∧ Below w.heap.size w w' := by
  have hft : Lib.firstT a = 35 := by
    unfold Lib.firstT
    repeat' split
    all_goals first | rfl | omega
  have hc0 := T.2.1 a (by omega)
  rw [hft] at hc0
  have ha0 := (T.2.2 2 (by omega)).1
  have ha1 := (T.2.2 2 (by omega)).2
  simp only [Lib.accLo, Lib.accHi, Nat.reduceMul, Nat.reduceAdd, Nat.reduceEqDiff, if_true, if_false] at ha0 ha1
  have hz : ¬ (n : Int) < 1 := by omega
  have hz0 : (0 : Int) < (n : Int) := by omega
  have hsz : (n : Int) < 3 := by omega
  clear hft T ha
  go_enter Tryd.func56, Tryd.ntmps56
  go_wp2
  go_ret2
  exact ⟨rfl, (Below.refl _ _).alloc (Nat.le_refl _) _⟩
set_option maxHeartbeats 4000000 in
theorem slow_long_35 (bl off n cc : Nat) (a b c : Nat) (w : World) (T : Tabs w) (hn : n ≤ 2147483648) (k0 : w.cell? ⟨bl, off, none⟩ = some (.int .u8 (a : Int))) (k1 : w.cell? ⟨bl, off + 1, none⟩ = some (.int .u8 (b : Int))) (k2 : w.cell? ⟨bl, off + 2, none⟩ = some (.int .u8 (c : Int))) (ra : a < 256) (rb : b < 256) (rc : c < 256) (ha : a = 237) (h1 : 3 ≤ n) :
    Calls Tryd.prog 56 #[.slice (some ⟨bl, off, none⟩) n cc] w fun e w' => e = .returned (.tuple #[.int .i32 (d3 (a : Int) (b : Int) (c : Int)).1, .int .i64 ((d3 (a : Int) (b : Int) (c : Int)).2 : Int)]) ∧ Below w.heap.size w w' := by
  have hft : Lib.firstT a = 35 := by
    unfold Lib.firstT
    repeat' split
    all_goals first | rfl | omega
  have hc0 := T.2.1 a (by omega)
  rw [hft] at hc0
  have ha0 := (T.2.2 2 (by omega)).1
  have ha1 := (T.2.2 2 (by omega)).2
  simp only [Lib.accLo, Lib.accHi, Nat.reduceMul, Nat.reduceAdd, Nat.reduceEqDiff, if_true, if_false] at ha0 ha1
  have hz : ¬ (n : Int) < 1 := by omega
  have hz0 : (0 : Int) < (n : Int) := by omega
  have hsz : ¬ (n : Int) < 3 := by omega
  have q1 := (World.cell?_alloc_some w _ (Obj.cells #[.int .u8 128, .int .u8 159] 49) (by rw [k1]; rfl)).trans k1
  have q2 := (World.cell?_alloc_some w _ (Obj.cells #[.int .u8 128, .int .u8 159] 49) (by rw [k2]; rfl)).trans k2
  have hy1 : (1 : Int) < (n : Int) := by omega
  have hy2 : (2 : Int) < (n : Int) := by omega
  have ea := u8_and15 (x := (a : Int)) (by omega) (by omega)
  have eb := u8_and63 (x := (b : Int)) (by omega) (by omega)
  have ec := u8_and63 (x := (c : Int)) (by omega) (by omega)
  have ob := i32_or12 (x := (a : Int) % 16 * 4096) (y := (b : Int) % 64 * 64) (by omega) (by omega) (by omega) (by omega) (by omega)
  have oc := i32_or6 (x := (a : Int) % 16 * 4096 + (b : Int) % 64 * 64) (y := (c : Int) % 64) (by omega) (by omega) (by omega) (by omega) (by omega)
  have HA := Lib.hid ha
  clear hft T ha
  go_enter Tryd.func56, Tryd.ntmps56
  go_wp2
  all_goals
    go_ret2
    refine ⟨?_, (Below.refl _ _).alloc (Nat.le_refl _) _⟩
    have ha := HA.out
    first
      | exact ret_pair (k := 3) (d3_yes (by omega)) rfl
      | exact ret_pair (k := 1) (d3_no (by omega)) rfl
set_option maxHeartbeats 1000000 in
theorem slow_short_52 (bl off n cc : Nat) (a : Nat) (w : World) (T : Tabs w) (hn : n ≤ 2147483648) (k0 : w.cell? ⟨bl, off, none⟩ = some (.int .u8 (a : Int))) (ra : a < 256) (ha : a = 240) (h1 : 1 ≤ n) (hs : n < 4) :
    Calls Tryd.prog 56 #[.slice (some ⟨bl, off, none⟩) n cc] w fun e w' => e = .returned (.tuple #[.int .i32 65533, .int .i64 1]) ∧ Below w.heap.size w w' := by
  have hft : Lib.firstT a = 52 := by
    unfold Lib.firstT
    repeat' split
    all_goals first | rfl | omega
  have hc0 := T.2.1 a (by omega)
  rw [hft] at hc0
  have ha0 := (T.2.2 3 (by omega)).1
  have ha1 := (T.2.2 3 (by omega)).2
  simp only [Lib.accLo, Lib.accHi, Nat.reduceMul, Nat.reduceAdd, Nat.reduceEqDiff, if_true, if_false] at ha0 ha1
  have hz : ¬ (n : Int) < 1 := by omega
  have hz0 : (0 : Int) < (n : Int) := by omega
  have hsz : (n : Int) < 4 := by omega
  clear hft T ha
  go_enter Tryd.func56, Tryd.ntmps56
  go_wp2
  go_ret2
  exact ⟨rfl, (Below.refl _ _).alloc (Nat.le_refl _) _⟩
set_option maxHeartbeats 4000000 in
theorem slow_long_52 (bl off n cc : Nat) (a b c d : Nat) (w : World) (T : Tabs w) (hn : n ≤ 2147483648) (k0 : w.cell? ⟨bl, off, none⟩ = some (.int .u8 (a : Int))) (k1 : w.cell? ⟨bl, off + 1, none⟩ = some (.int .u8 (b : Int))) (k2 : w.cell? ⟨bl, off + 2, none⟩ = some (.int .u8 (c : Int))) (k3 : w.cell? ⟨bl, off + 3, none⟩ = some (.int .u8 (d : Int))) (ra : a < 256) (rb : b < 256) (rc : c < 256) (rd : d < 256) (ha : a = 240) (h1 : 4 ≤ n) :
    Calls Tryd.prog 56 #[.slice (some ⟨bl, off, none⟩) n cc] w fun e w' => e = .returned (.tuple #[.int .i32 (d4 (a : Int) (b : Int) (c : Int) (d : Int)).1, .int .i64 ((d4 (a : Int) (b : Int) (c : Int) (d : Int)).2 : Int)]) ∧ Below w.heap.size w w' := by
  have hft : Lib.firstT a = 52 := by
    unfold Lib.firstT
    repeat' split
    all_goals first | rfl | omega
  have hc0 := T.2.1 a (by omega)
  rw [hft] at hc0
  have ha0 := (T.2.2 3 (by omega)).1
  have ha1 := (T.2.2 3 (by omega)).2
  simp only [Lib.accLo, Lib.accHi, Nat.reduceMul, Nat.reduceAdd, Nat.reduceEqDiff, if_true, if_false] at ha0 ha1
  have hz : ¬ (n : Int) < 1 := by omega
  have hz0 : (0 : Int) < (n : Int) := by omega
  have hsz : ¬ (n : Int) < 4 := by omega
  have q1 := (World.cell?_alloc_some w _ (Obj.cells #[.int .u8 144, .int .u8 191] 49) (by rw [k1]; rfl)).trans k1
  have q2 := (World.cell?_alloc_some w _ (Obj.cells #[.int .u8 144, .int .u8 191] 49) (by rw [k2]; rfl)).trans k2
  have q3 := (World.cell?_alloc_some w _ (Obj.cells #[.int .u8 144, .int .u8 191] 49) (by rw [k3]; rfl)).trans k3
  have hy1 : (1 : Int) < (n : Int) := by omega
  have hy2 : (2 : Int) < (n : Int) := by omega
  have hy3 : (3 : Int) < (n : Int) := by omega
  have ea := u8_and7 (x := (a : Int)) (by omega) (by omega)
  have eb := u8_and63 (x := (b : Int)) (by omega) (by omega)
  have ec := u8_and63 (x := (c : Int)) (by omega) (by omega)
  have ed := u8_and63 (x := (d : Int)) (by omega) (by omega)
  have ob := i32_or18 (x := (a : Int) % 8 * 262144) (y := (b : Int) % 64 * 4096) (by omega) (by omega) (by omega) (by omega) (by omega)
  have oc := i32_or12 (x := (a : Int) % 8 * 262144 + (b : Int) % 64 * 4096) (y := (c : Int) % 64 * 64) (by omega) (by omega) (by omega) (by omega) (by omega)
  have od := i32_or6 (x := (a : Int) % 8 * 262144 + (b : Int) % 64 * 4096 + (c : Int) % 64 * 64) (y := (d : Int) % 64) (by omega) (by omega) (by omega) (by omega) (by omega)
  have HA := Lib.hid ha
  clear hft T ha
  go_enter Tryd.func56, Tryd.ntmps56
  go_wp2
  all_goals
    go_ret2
    refine ⟨?_, (Below.refl _ _).alloc (Nat.le_refl _) _⟩
    have ha := HA.out
    first
      | exact ret_pair (k := 4) (d4_yes (by omega)) rfl
      | exact ret_pair (k := 1) (d4_no (by omega)) rfl
set_option maxHeartbeats 1000000 in
theorem slow_short_4 (bl off n cc : Nat) (a : Nat) (w : World) (T : Tabs w) (hn : n ≤ 2147483648) (k0 : w.cell? ⟨bl, off, none⟩ = some (.int .u8 (a : Int))) (ra : a < 256) (ha : 241 ≤ a ∧ a ≤ 243) (h1 : 1 ≤ n) (hs : n < 4) :
    Calls Tryd.prog 56 #[.slice (some ⟨bl, off, none⟩) n cc] w fun e w' => e = .returned (.tuple #[.int .i32 65533, .int .i64 1]) ∧ Below w.heap.size w w' := by
  have hft : Lib.firstT a = 4 := by
    unfold Lib.firstT
    repeat' split
    all_goals first | rfl | omega
  have hc0 := T.2.1 a (by omega)
  rw [hft] at hc0
  have ha0 := (T.2.2 0 (by omega)).1
  have ha1 := (T.2.2 0 (by omega)).2
  simp only [Lib.accLo, Lib.accHi, Nat.reduceMul, Nat.reduceAdd, Nat.reduceEqDiff, if_true, if_false] at ha0 ha1
  have hz : ¬ (n : Int) < 1 := by omega
  have hz0 : (0 : Int) < (n : Int) := by omega
  have hsz : (n : Int) < 4 := by omega
  clear hft T ha
  go_enter Tryd.func56, Tryd.ntmps56
  go_wp2
  go_ret2
  exact ⟨rfl, (Below.refl _ _).alloc (Nat.le_refl _) _⟩
set_option maxHeartbeats 4000000 in
theorem slow_long_4 (bl off n cc : Nat) (a b c d : Nat) (w : World) (T : Tabs w) (hn : n ≤ 2147483648) (k0 : w.cell? ⟨bl, off, none⟩ = some (.int .u8 (a : Int))) (k1 : w.cell? ⟨bl, off + 1, none⟩ = some (.int .u8 (b : Int))) (k2 : w.cell? ⟨bl, off + 2, none⟩ = some (.int .u8 (c : Int))) (k3 : w.cell? ⟨bl, off + 3, none⟩ = some (.int .u8 (d : Int))) (ra : a < 256) (rb : b < 256) (rc : c < 256) (rd : d < 256) (ha : 241 ≤ a ∧ a ≤ 243) (h1 : 4 ≤ n) :
    Calls Tryd.prog 56 #[.slice (some ⟨bl, off, none⟩) n cc] w fun e w' => e = .returned (.tuple #[.int .i32 (d4 (a : Int) (b : Int) (c : Int) (d : Int)).1, .int .i64 ((d4 (a : Int) (b : Int) (c : Int) (d : Int)).2 : Int)]) ∧ Below w.heap.size w w' := by
  have hft : Lib.firstT a = 4 := by
    unfold Lib.firstT
    repeat' split
    all_goals first | rfl | omega
  have hc0 := T.2.1 a (by omega)
  rw [hft] at hc0
  have ha0 := (T.2.2 0 (by omega)).1
  have ha1 := (T.2.2 0 (by omega)).2
  simp only [Lib.accLo, Lib.accHi, Nat.reduceMul, Nat.reduceAdd, Nat.reduceEqDiff, if_true, if_false] at ha0 ha1
  have hz : ¬ (n : Int) < 1 := by omega
  have hz0 : (0 : Int) < (n : Int) := by omega
  have hsz : ¬ (n : Int) < 4 := by omega
  have q1 := (World.cell?_alloc_some w _ (Obj.cells #[.int .u8 128, .int .u8 191] 49) (by rw [k1]; rfl)).trans k1
  have q2 := (World.cell?_alloc_some w _ (Obj.cells #[.int .u8 128, .int .u8 191] 49) (by rw [k2]; rfl)).trans k2
  have q3 := (World.cell?_alloc_some w _ (Obj.cells #[.int .u8 128, .int .u8 191] 49) (by rw [k3]; rfl)).trans k3
  have hy1 : (1 : Int) < (n : Int) := by omega
  have hy2 : (2 : Int) < (n : Int) := by omega
  have hy3 : (3 : Int) < (n : Int) := by omega
  have ea := u8_and7 (x := (a : Int)) (by omega) (by omega)
  have eb := u8_and63 (x := (b : Int)) (by omega) (by omega)
  have ec := u8_and63 (x := (c : Int)) (by omega) (by omega)
  have ed := u8_and63 (x := (d : Int)) (by omega) (by omega)
  have ob := i32_or18 (x := (a : Int) % 8 * 262144) (y := (b : Int) % 64 * 4096) (by omega) (by omega) (by omega) (by omega) (by omega)
  have oc := i32_or12 (x := (a : Int) % 8 * 262144 + (b : Int) % 64 * 4096) (y := (c : Int) % 64 * 64) (by omega) (by omega) (by omega) (by omega) (by omega)
  have od := i32_or6 (x := (a : Int) % 8 * 262144 + (b : Int) % 64 * 4096 + (c : Int) % 64 * 64) (y := (d : Int) % 64) (by omega) (by omega) (by omega) (by omega) (by omega)
  have HA := Lib.hid ha
  clear hft T ha
  go_enter Tryd.func56, Tryd.ntmps56
  go_wp2
  all_goals
    go_ret2
    refine ⟨?_, (Below.refl _ _).alloc (Nat.le_refl _) _⟩
    have ha := HA.out
    first
      | exact ret_pair (k := 4) (d4_yes (by omega)) rfl
      | exact ret_pair (k := 1) (d4_no (by omega)) rfl
set_option maxHeartbeats 1000000 in
theorem slow_short_68 (bl off n cc : Nat) (a : Nat) (w : World) (T : Tabs w) (hn : n ≤ 2147483648) (k0 : w.cell? ⟨bl, off, none⟩ = some (.int .u8 (a : Int))) (ra : a < 256) (ha : a = 244) (h1 : 1 ≤ n) (hs : n < 4) :
    Calls Tryd.prog 56 #[.slice (some ⟨bl, off, none⟩) n cc] w fun e w' => e = .returned (.tuple #[.int .i32 65533, .int .i64 1]) ∧ Below w.heap.size w w' := by
  have hft : Lib.firstT a = 68 := by
    unfold Lib.firstT
    repeat' split
    all_goals first | rfl | omega
  have hc0 := T.2.1 a (by omega)
  rw [hft] at hc0
  have ha0 := (T.2.2 4 (by omega)).1
  have ha1 := (T.2.2 4 (by omega)).2
  simp only [Lib.accLo, Lib.accHi, Nat.reduceMul, Nat.reduceAdd, Nat.reduceEqDiff, if_true, if_false] at ha0 ha1
  have hz : ¬ (n : Int) < 1 := by omega
  have hz0 : (0 : Int) < (n : Int) := by omega
  have hsz : (n : Int) < 4 := by omega
  clear hft T ha
  go_enter Tryd.func56, Tryd.ntmps56
  go_wp2
  go_ret2
  exact ⟨rfl, (Below.refl _ _).alloc (Nat.le_refl _) _⟩
set_option maxHeartbeats 4000000 in
theorem slow_long_68 (bl off n cc : Nat) (a b c d : Nat) (w : World) (T : Tabs w) (hn : n ≤ 2147483648) (k0 : w.cell? ⟨bl, off, none⟩ = some (.int .u8 (a : Int))) (k1 : w.cell? ⟨bl, off + 1, none⟩ = some (.int .u8 (b : Int))) (k2 : w.cell? ⟨bl, off + 2, none⟩ = some (.int .u8 (c : Int))) (k3 : w.cell? ⟨bl, off + 3, none⟩ = some (.int .u8 (d : Int))) (ra : a < 256) (rb : b < 256) (rc : c < 256) (rd : d < 256) (ha : a = 244) (h1 : 4 ≤ n) :
    Calls Tryd.prog 56 #[.slice (some ⟨bl, off, none⟩) n cc] w fun e w' => e = .returned (.tuple #[.int .i32 (d4 (a : Int) (b : Int) (c : Int) (d : Int)).1, .int .i64 ((d4 (a : Int) (b : Int) (c : Int) (d : Int)).2 : Int)]) ∧ Below w.heap.size w w' := by
  have hft : Lib.firstT a = 68 := by
    unfold Lib.firstT
    repeat' split
    all_goals first | rfl | omega
  have hc0 := T.2.1 a (by omega)
  rw [hft] at hc0
  have ha0 := (T.2.2 4 (by omega)).1
  have ha1 := (T.2.2 4 (by omega)).2
  simp only [Lib.accLo, Lib.accHi, Nat.reduceMul, Nat.reduceAdd, Nat.reduceEqDiff, if_true, if_false] at ha0 ha1
  have hz : ¬ (n : Int) < 1 := by omega
  have hz0 : (0 : Int) < (n : Int) := by omega
  have hsz : ¬ (n : Int) < 4 := by omega
  have q1 := (World.cell?_alloc_some w _ (Obj.cells #[.int .u8 128, .int .u8 143] 49) (by rw [k1]; rfl)).trans k1
  have q2 := (World.cell?_alloc_some w _ (Obj.cells #[.int .u8 128, .int .u8 143] 49) (by rw [k2]; rfl)).trans k2
  have q3 := (World.cell?_alloc_some w _ (Obj.cells #[.int .u8 128, .int .u8 143] 49) (by rw [k3]; rfl)).trans k3
  have hy1 : (1 : Int) < (n : Int) := by omega
  have hy2 : (2 : Int) < (n : Int) := by omega
  have hy3 : (3 : Int) < (n : Int) := by omega
  have ea := u8_and7 (x := (a : Int)) (by omega) (by omega)
  have eb := u8_and63 (x := (b : Int)) (by omega) (by omega)
  have ec := u8_and63 (x := (c : Int)) (by omega) (by omega)
  have ed := u8_and63 (x := (d : Int)) (by omega) (by omega)
  have ob := i32_or18 (x := (a : Int) % 8 * 262144) (y := (b : Int) % 64 * 4096) (by omega) (by omega) (by omega) (by omega) (by omega)
  have oc := i32_or12 (x := (a : Int) % 8 * 262144 + (b : Int) % 64 * 4096) (y := (c : Int) % 64 * 64) (by omega) (by omega) (by omega) (by omega) (by omega)
  have od := i32_or6 (x := (a : Int) % 8 * 262144 + (b : Int) % 64 * 4096 + (c : Int) % 64 * 64) (y := (d : Int) % 64) (by omega) (by omega) (by omega) (by omega) (by omega)
  have HA := Lib.hid ha
  clear hft T ha
  go_enter Tryd.func56, Tryd.ntmps56
  go_wp2
  all_goals
    go_ret2
    refine ⟨?_, (Below.refl _ _).alloc (Nat.le_refl _) _⟩
    have ha := HA.out
    first
      | exact ret_pair (k := 4) (d4_yes (by omega)) rfl
      | exact ret_pair (k := 1) (d4_no (by omega)) rfl
set_option maxHeartbeats 1000000 in
theorem slow_lead_241 (bl off n cc : Nat) (a : Nat) (w : World) (T : Tabs w) (hn : n ≤ 2147483648) (k0 : w.cell? ⟨bl, off, none⟩ = some (.int .u8 (a : Int))) (ra : a < 256) (ha : 128 ≤ a ∧ (a < 194 ∨ 244 < a)) (h1 : 1 ≤ n) :
    Calls Tryd.prog 56 #[.slice (some ⟨bl, off, none⟩) n cc] w fun e w' => e = .returned (.tuple #[.int .i32 65533, .int .i64 1]) ∧ Below w.heap.size w w' := by
  have hft : Lib.firstT a = 241 := by
    unfold Lib.firstT
    repeat' split
    all_goals first | rfl | omega
  have hc0 := T.2.1 a (by omega)
  rw [hft] at hc0
  have hz : ¬ (n : Int) < 1 := by omega
  have hz0 : (0 : Int) < (n : Int) := by omega
  clear hft T ha
  go_enter Tryd.func56, Tryd.ntmps56
  go_wp2
  rw [mask241, drop_fin ⟨a, ra⟩]
  go_ret2
  exact ⟨rfl, Below.refl _ _⟩
set_option maxHeartbeats 1000000 in
theorem slow_lead_240 (bl off n cc : Nat) (a : Nat) (w : World) (T : Tabs w) (hn : n ≤ 2147483648) (k0 : w.cell? ⟨bl, off, none⟩ = some (.int .u8 (a : Int))) (ra : a < 256) (ha : a < 128) (h1 : 1 ≤ n) :
    Calls Tryd.prog 56 #[.slice (some ⟨bl, off, none⟩) n cc] w fun e w' => e = .returned (.tuple #[.int .i32 (a : Int), .int .i64 1]) ∧ Below w.heap.size w w' := by
  have hft : Lib.firstT a = 240 := by
    unfold Lib.firstT
    repeat' split
    all_goals first | rfl | omega
  have hc0 := T.2.1 a (by omega)
  rw [hft] at hc0
  have hz : ¬ (n : Int) < 1 := by omega
  have hz0 : (0 : Int) < (n : Int) := by omega
  clear hft T ha
  go_enter Tryd.func56, Tryd.ntmps56
  go_wp2
  rw [mask240, keep_fin ⟨a, ra⟩]
  go_ret2
  exact ⟨rfl, Below.refl _ _⟩

end Go.Proofs.YtincmkjffohekaaDoor
