/-
  Proved here: contracts of goutf8.DecodeRuneInString and of impl's: what they return is the first number of the string's bytes. Condition: the tables lie as their initialisers lay them; at most 2^31 bytes.
-/
import Derived.Test.YtincmkjffohekaaDoorDcn
namespace Go.Proofs.YtincmkjffohekaaDoor
open Go.RowKit

theorem str_ne {s : ByteArray} (h : 0 < s.size) : ¬ s.toList = [] := by
  rw [ByteArray.toList_eq]
  intro e
  have h1 := congrArg List.length e
  rw [Array.length_toList] at h1
  have h2 : s.size = s.data.size := rfl
  rw [List.length_nil] at h1
  omega
theorem str_empty {s : ByteArray} (h : s.size = 0) : s = ByteArray.empty := by
  cases s with
  | mk d =>
    have : d = #[] := Array.eq_empty_of_size_eq_zero h
    rw [this]; rfl

set_option maxRecDepth 100000 in
theorem decodeString_any (s : ByteArray) (w : World) (T : Tabs w) (hn : s.size ≤ 2147483648) :
    Calls Tryd.prog 47 #[.string s] w fun e w' => e = .returned (.tuple #[.int .i32 (firstL (bsL s)).1, .int .i64 ((firstL (bsL s)).2 : Int)]) ∧ Below w.heap.size w w' := by
  have HC := Lib.hid (sslow_any s w T hn)
  rcases Nat.eq_zero_or_pos s.size with h0 | h0
  · obtain rfl := str_empty h0
    generalize (firstL (bsL ByteArray.empty)).1 = q1 at *
    generalize (firstL (bsL ByteArray.empty)).2 = q2 at *
    clear T hn
    go_enter Tryd.func47, Tryd.ntmps47
    go_wp2_with fail
    refine HC.out.mono ?_
    rintro e w1 ⟨rfl, b1⟩
    go_wp2
    go_ret2
    exact ⟨rfl, b1⟩
  · have hne : ¬ s.toList = [] := str_ne h0
    have hem : s.toList.isEmpty = false := by simpa using hne
    by_cases c1 : (s[0]'h0).toNat < 128
    · have HF := Lib.hid (show firstL (bsL s) = (((s[0]'h0).toNat : Int), 1) by rw [head_at (bsL_at s 0 h0), first_ascii (by omega)])
      clear T HC hn
      go_enter Tryd.func47, Tryd.ntmps47
      go_wp2
      go_ret2
      exact ⟨(ret_same HF.out).symm, Below.refl _ _⟩
    · generalize (firstL (bsL s)).1 = q1 at *
      generalize (firstL (bsL s)).2 = q2 at *
      clear T hn
      go_enter Tryd.func47, Tryd.ntmps47
      go_wp2_with fail
      refine HC.out.mono ?_
      rintro e w1 ⟨rfl, b1⟩
      go_wp2
      go_ret2
      exact ⟨rfl, b1⟩

theorem implDecodeString_any (s : ByteArray) (w : World) (T : Tabs w) (hn : s.size ≤ 2147483648) :
    Calls Tryd.prog 29 #[.string s] w fun e w' => e = .returned (.tuple #[.int .i32 (firstL (bsL s)).1, .int .i64 ((firstL (bsL s)).2 : Int)]) ∧ Below w.heap.size w w' := by
  have HC := Lib.hid (decodeString_any s w T hn)
  generalize (firstL (bsL s)).1 = q1 at *
  generalize (firstL (bsL s)).2 = q2 at *
  clear T hn
  go_enter Tryd.func29, Tryd.ntmps29
  go_wp2_with fail
  refine HC.out.mono ?_
  rintro e w1 ⟨rfl, b1⟩
  go_wp2
  go_ret2
  exact ⟨rfl, b1⟩

end Go.Proofs.YtincmkjffohekaaDoor
