/-
  Proved here: the walks of the laws FnEncodeLens, FnEncodeRune: each returns true for every input. No conditions.
-/
import Derived.Test.YtincmkjffohekaaWr
import Derived.Test.YtincmkjffohekaaStr
import Derived.Deep.RegionHeld3
import Derived.Deep.RegionWith
import Derived.BigRegion
import Derived.BigQuiet
namespace Go.Proofs.Ytincmkjffohekaa
open Go.RowKit

theorem runeLen_any (r : Int) (w : World) : Calls Try.prog 18 #[.int .i32 r] w fun e w' => e = .returned (.int .i64 (if isRune r = true then ((enc r).length : Int) else -1)) ∧ w = w' := by
  rcases enc_cases r with h | h | h | h | h
  · rw [if_pos (isRune_iff.2 (by omega)), enc_1 h]
    obtain ⟨p, q⟩ := h
    go_enter Try.func18, Try.ntmps18
    go_wp2
    go_ret
    exact ⟨rfl, rfl⟩
  · rw [if_pos (isRune_iff.2 (by omega)), enc_2 h]
    obtain ⟨p, q⟩ := h
    go_enter Try.func18, Try.ntmps18
    go_wp2
    go_ret
    exact ⟨rfl, rfl⟩
  · rw [if_pos (isRune_iff.2 (by omega)), enc_3 h]
    rcases h with ⟨p, q⟩ | ⟨p, q⟩
    all_goals
      have p1 : r ≤ 65535 := by omega
      go_enter Try.func18, Try.ntmps18
      go_wp2
      go_ret
      exact ⟨rfl, rfl⟩
  · rw [if_pos (isRune_iff.2 (by omega)), enc_4 h]
    obtain ⟨p, q⟩ := h
    go_enter Try.func18, Try.ntmps18
    go_wp2
    go_ret
    exact ⟨rfl, rfl⟩
  · rw [if_neg (by rw [isRune_iff]; exact h)]
    go_enter Try.func18, Try.ntmps18
    go_wp2
    all_goals first | (exfalso; omega) | skip
    all_goals go_ret
    all_goals exact ⟨rfl, rfl⟩

theorem fnEncodeLens_walk (r : Int) (w : World) (w0 : (Lit.int .i32 r).wf = true) :
    Calls Try.prog 12 #[.int .i32 r] w fun e w' => e = .returned (.bool true) ∧ Below w.heap.size w w' := by
  have hr := rune_range w0
  clear w0
  have HE := Lib.hid (implEncode_any r w hr)
  have HR := Lib.hid (runeLen_any r)
  have hl := enc_len r
  by_cases h : isRune r = true
  · rw [if_pos h] at HR
    clear h
    generalize enc r = ys at *
    have hp : (0 : Int) < (ys.length : Int) := by omega
    go_enter Try.func12, Try.ntmps12
    go_wp2_with fail
    refine HE.out.mono ?_
    rintro e w1 ⟨A1, c1, rfl, o1, b1⟩
    clear o1
    go_wp2_with fail
    refine (HR.out w1).mono ?_
    rintro e w2 ⟨rfl, rfl⟩
    go_wp2
    go_ret
    exact ⟨ret_bool (by simp; omega), b1⟩
  · rw [if_neg h] at HR
    have h3 : enc r = [239, 191, 189] := enc_bad (by rw [← isRune_iff]; exact h)
    rw [h3] at HE
    clear h h3 hl
    go_enter Try.func12, Try.ntmps12
    go_wp2_with fail
    refine HE.out.mono ?_
    rintro e w1 ⟨A1, c1, rfl, o1, b1⟩
    clear o1
    go_wp2_with fail
    refine (HR.out w1).mono ?_
    rintro e w2 ⟨rfl, rfl⟩
    go_wp2
    go_ret
    exact ⟨rfl, b1⟩

set_option maxHeartbeats 1000000 in
theorem fnEncodeRune_walk (r : Int) (w : World) (w0 : (Lit.int .i32 r).wf = true) :
    Calls Try.prog 10 #[.int .i32 r] w fun e w' => e = .returned (.bool true) ∧ Below w.heap.size w w' := by
  have hr := rune_range w0
  clear w0
  have HE := Lib.hid (implEncode_any r w hr)
  have HB := Lib.hid (fun w2 => bytes_any r w2)
  have hf : FitL .u8 (enc r) := enc_wf r
  generalize enc r = ys at *
  go_enter Try.func10, Try.ntmps10
  go_wp2_with fail
  refine HE.out.mono ?_
  rintro e w1 ⟨A1, c1, rfl, o1, b1⟩
  have i1 := o1.isL hf
  have I1 := Lib.hid i1
  clear o1 i1
  have hconv : (convert 27 9 (.slice A1 ys.length c1)).run Try.prog w1.drew = .ok (.string (strOf ys)) w1.drew := run_string_L w1.drew 27 9 5 (B := w1.heap.size) (I1.out) c1 Try.underlying27 Try.underlying5 Try.underlying9
  have hlen : ((ys.length : Int) == (ys.length : Int)) = true := by simp
  go_wp2_with fail
  go_region_with (go_at_call 22; refine (HB.out _).mono ?_; rintro e w2 ⟨A2, c2, rfl, o2, b2⟩; have i2 := OwnsL.isL (e := 5) (k := .u8) o2 hf; have hc2 := run_string_L w2 27 9 5 i2 c2 Try.underlying27 Try.underlying5 Try.underlying9; have hc1 := run_string_L w2 27 9 5 (IsL.upto (w := w1.drew) I1.out b2) c1 Try.underlying27 Try.underlying5 Try.underlying9; clear i2 o2)
  all_goals
    go_wp2
    go_ret
    exact ⟨ret_bool (by simp), b1.drew.trans (b2.mono b1.size)⟩

end Go.Proofs.Ytincmkjffohekaa
