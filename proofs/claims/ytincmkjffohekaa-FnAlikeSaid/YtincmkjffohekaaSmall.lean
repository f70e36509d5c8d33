/-
  Proved here: the walks of four laws of utf8 whose arguments are numbers (FnRuneStart, FnValidRune, FnRuneLen, FnAlike): each returns true for every input. No conditions.
-/
import Derived.Test.YtincmkjffohekaaRows
import Derived.Test.YtincmkjffohekaaBase
import Derived.WalkKit
import Derived.Below
import Derived.Handy
namespace Go.Proofs.Ytincmkjffohekaa
open Go.RowKit

theorem rune_range {r : Int} (h : (Lit.int .i32 r).wf = true) : -2147483648 ≤ r ∧ r ≤ 2147483647 := by
  simp [Lit.wf, IntKind.min, IntKind.max, IntKind.bits, IntKind.signed] at h
  omega
theorem byte_range {r : Int} (h : (Lit.int .u8 r).wf = true) : 0 ≤ r ∧ r ≤ 255 := by
  simp [Lit.wf, IntKind.min, IntKind.max, IntKind.bits, IntKind.signed] at h
  omega

set_option maxRecDepth 100000 in
theorem start_fin : ∀ b : Fin 256, (bits .and .u8 ((b.val : Nat) : Int) 192 != 128) = (decide (((b.val : Nat) : Int) < 128) || decide ((191 : Int) < ((b.val : Nat) : Int))) := by decide
theorem start_byte (b : Int) (h0 : 0 ≤ b) (h1 : b ≤ 255) : (bits .and .u8 b 192 != 128) = (decide (b < 128) || decide ((191 : Int) < b)) := by
  obtain ⟨n, rfl⟩ := Int.eq_ofNat_of_zero_le h0
  exact start_fin ⟨n, by omega⟩

theorem fnRuneStart_walk (b : Int) (w : World) (w0 : (Lit.int .u8 b).wf = true) :
    Calls Try.prog 3 #[.int .u8 b] w fun e w' => e = .returned (.bool true) ∧ Below w.heap.size w w' := by
  have r0 := byte_range w0
  clear w0
  have hs := start_byte b r0.1 r0.2
  go_enter Try.func3, Try.ntmps3
  go_wp2
  all_goals go_ret
  all_goals refine ⟨ret_bool ?_, Below.refl _ _⟩
  all_goals rfl

theorem fnValidRune_walk (r : Int) (w : World) (w0 : (Lit.int .i32 r).wf = true) :
    Calls Try.prog 5 #[.int .i32 r] w fun e w' => e = .returned (.bool true) ∧ Below w.heap.size w w' := by
  have r0 := rune_range w0
  clear w0
  go_enter Try.func5, Try.ntmps5
  go_wp2
  all_goals go_ret
  all_goals refine ⟨ret_bool ?_, Below.refl _ _⟩
  all_goals first | rfl | (simp; omega) | (exfalso; omega)

theorem fnRuneLen_walk (r : Int) (w : World) (w0 : (Lit.int .i32 r).wf = true) :
    Calls Try.prog 6 #[.int .i32 r] w fun e w' => e = .returned (.bool true) ∧ Below w.heap.size w w' := by
  have r0 := rune_range w0
  clear w0
  go_enter Try.func6, Try.ntmps6
  go_wp2
  all_goals go_ret
  all_goals refine ⟨ret_bool ?_, Below.refl _ _⟩
  all_goals first | rfl | (exfalso; simp_all; done) | (exfalso; simp_all; omega)

theorem fnAlike_walk (r : Int) (w : World) (w0 : (Lit.int .i32 r).wf = true) :
    Calls Try.prog 11 #[.int .i32 r] w fun e w' => e = .returned (.bool true) ∧ Below w.heap.size w w' := by
  have r0 := rune_range w0
  clear w0
  go_enter Try.func11, Try.ntmps11
  go_wp2
  all_goals go_ret
  all_goals refine ⟨ret_bool ?_, Below.refl _ _⟩
  all_goals rfl

end Go.Proofs.Ytincmkjffohekaa
