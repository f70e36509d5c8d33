/-
  Proved here: the walks of five laws of utf16 whose arguments are numbers (FnIsSurrogate, FnJoined, FnPair, FnLen16, FnPairBack): each returns true for every input. No conditions.
-/
import Derived.Test.YtkpehilgjckekaaRows
import Derived.Test.YtkpehilgjckekaaBase
import Derived.WalkKit
import Derived.Below
import Derived.Handy
namespace Go.Proofs.Ytkpehilgjckekaa
open Go.RowKit

theorem rune_range {r : Int} (h : (Lit.int .i32 r).wf = true) : -2147483648 ≤ r ∧ r ≤ 2147483647 := by
  simp [Lit.wf, IntKind.min, IntKind.max, IntKind.bits, IntKind.signed] at h
  omega

theorem fnIsSurrogate_walk (a0 : Int) (w : World) (_w0 : (Lit.int .i32 a0).wf = true) :
    Calls Try.prog 3 #[.int .i32 a0] w fun e w' => e = .returned (.bool true) ∧ Below w.heap.size w w' := by
  go_enter Try.func3, Try.ntmps3
  go_wp2
  all_goals go_ret
  all_goals refine ⟨ret_bool ?_, Below.refl _ _⟩
  all_goals (first | rfl | (simp; omega))

theorem or_join (a b : Int) (h1 : 55296 ≤ a) (h2 : a < 56320) (h3 : 56320 ≤ b) (h4 : b < 57344) : bits .or .i32 ((a - 55296) * 1024) (b - 56320) = (a - 55296) * 1024 + (b - 56320) :=
  bits_join .i32 31 (by decide) wraps_i32 10 _ _ (by omega) (by omega) (by omega) (by omega) (by omega) (by omega)

theorem fnJoined_walk (a b : Int) (w : World) (w0 : (Lit.int .i32 a).wf = true) (w1 : (Lit.int .i32 b).wf = true) :
    Calls Try.prog 4 #[.int .i32 a, .int .i32 b] w fun e w' => e = .returned (.bool true) ∧ Below w.heap.size w w' := by
  have r0 := rune_range w0
  have r1 := rune_range w1
  clear w0 w1
  go_enter Try.func4, Try.ntmps4
  go_wp2
  all_goals go_ret
  all_goals refine ⟨ret_bool ?_, Below.refl _ _⟩
  all_goals first | rfl | (rw [or_join a b (by omega) (by omega) (by omega) (by omega)]; simp [wrap32]; omega)

theorem and_hi (r : Int) (h1 : 65536 ≤ r) (h2 : r ≤ 1114111) : bits .and .i32 ((r - 65536) / 1024) 1023 = (r - 65536) / 1024 :=
  (bits_mask .i32 31 (by decide) wraps_i32 10 (by decide) _ (by omega) (by omega)).trans (by omega)
theorem and_lo (r : Int) (h1 : 65536 ≤ r) (h2 : r ≤ 1114111) : bits .and .i32 (r - 65536) 1023 = (r - 65536) % 1024 :=
  bits_mask .i32 31 (by decide) wraps_i32 10 (by decide) _ (by omega) (by omega)
theorem or_back (r : Int) (h1 : 65536 ≤ r) (h2 : r ≤ 1114111) : bits .or .i32 ((55296 + (r - 65536) / 1024 - 55296) * 1024) (56320 + (r - 65536) % 1024 - 56320) = r - 65536 :=
  (bits_join .i32 31 (by decide) wraps_i32 10 _ _ (by omega) (by omega) (by omega) (by omega) (by omega) (by omega)).trans (by omega)

theorem fnPair_walk (r : Int) (w : World) (w0 : (Lit.int .i32 r).wf = true) :
    Calls Try.prog 5 #[.int .i32 r] w fun e w' => e = .returned (.bool true) ∧ Below w.heap.size w w' := by
  have r0 := rune_range w0
  clear w0
  by_cases h : 65536 ≤ r ∧ r ≤ 1114111
  · obtain ⟨h1, h2⟩ := h
    have b1 := and_hi r h1 h2
    have b2 := and_lo r h1 h2
    go_enter Try.func5, Try.ntmps5
    go_wp2
    all_goals go_ret
    all_goals refine ⟨ret_bool ?_, by go_grown⟩
    all_goals first | rfl | (simp [b2, wrap32]; omega) | (exfalso; simp_all [wrap32]; done) | (exfalso; simp_all [wrap32]; omega)
  · go_enter Try.func5, Try.ntmps5
    go_wp2
    all_goals go_ret
    all_goals refine ⟨ret_bool ?_, by go_grown⟩
    all_goals first | rfl | (exfalso; omega) | (exfalso; simp_all; done) | (exfalso; simp_all; omega)

theorem fnLen16_walk (r : Int) (w : World) (w0 : (Lit.int .i32 r).wf = true) :
    Calls Try.prog 6 #[.int .i32 r] w fun e w' => e = .returned (.bool true) ∧ Below w.heap.size w w' := by
  have r0 := rune_range w0
  clear w0
  go_enter Try.func6, Try.ntmps6
  go_wp2
  all_goals go_ret
  all_goals refine ⟨ret_bool ?_, by go_grown⟩
  all_goals first | rfl | (exfalso; simp_all; done) | (exfalso; simp_all; omega)

theorem fnPairBack_walk (r : Int) (w : World) (w0 : (Lit.int .i32 r).wf = true) :
    Calls Try.prog 7 #[.int .i32 r] w fun e w' => e = .returned (.bool true) ∧ Below w.heap.size w w' := by
  have r0 := rune_range w0
  clear w0
  by_cases h : 65536 ≤ r ∧ r ≤ 1114111
  · obtain ⟨h1, h2⟩ := h
    have b1 := and_hi r h1 h2
    have b2 := and_lo r h1 h2
    have b3 := or_back r h1 h2
    go_enter Try.func7, Try.ntmps7
    go_wp2
    all_goals go_ret
    all_goals refine ⟨ret_bool ?_, by go_grown⟩
    all_goals first | rfl | (exfalso; simp_all [wrap32]; done) | (exfalso; simp_all [wrap32]; omega)
  · go_enter Try.func7, Try.ntmps7
    go_wp2
    all_goals go_ret
    all_goals refine ⟨ret_bool ?_, by go_grown⟩
    all_goals first | rfl | (exfalso; omega) | (exfalso; simp_all; done) | (exfalso; simp_all; omega)

end Go.Proofs.Ytkpehilgjckekaa
