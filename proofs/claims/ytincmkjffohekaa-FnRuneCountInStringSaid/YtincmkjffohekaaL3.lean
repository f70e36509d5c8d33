/-
  Proved here: the walks of the laws FnRuneCount and FnRuneCountInString: each returns true for every input. No conditions.
-/
import Derived.Test.YtincmkjffohekaaCn2
import Derived.Test.YtincmkjffohekaaSb
namespace Go.Proofs.Ytincmkjffohekaa
open Go.RowKit

theorem fnRuneCount_walk (A : Option Addr) (n c : Nat) (xs : List Int) (w : World) (h : IsL w w.heap.size .u8 A n xs) (hcap : n ≤ c) :
    Calls Try.prog 7 #[.slice A n c] w fun e w' => e = .returned (.bool true) ∧ Below w.heap.size w w' := by
  have H := Lib.hid h
  clear h
  by_cases h1 : (2147483647 : Int) < (n : Int)
  · go_enter Try.func7, Try.ntmps7
    go_wp2
    go_ret
    exact ⟨rfl, Below.refl _ _⟩
  by_cases h2 : (2000 : Int) < (n : Int)
  · go_enter Try.func7, Try.ntmps7
    go_wp2
    go_ret
    exact ⟨rfl, Below.refl _ _⟩
  have HN := Lib.hid (numbers_any A n c xs w H.out hcap (by omega))
  have HC := Lib.hid (fun w2 h => implCount_any A n c xs w2 h (by omega))
  generalize numbers xs = ys at *
  go_enter Try.func7, Try.ntmps7
  go_wp2_with fail
  refine HN.out.mono ?_
  rintro e w1 ⟨A1, c1, v2, rfl, o1, b1⟩
  clear o1
  go_wp2_with fail
  refine (HC.out w1 (H.out.upto b1)).mono ?_
  rintro e w2 ⟨rfl, b2⟩
  go_wp2
  go_ret
  exact ⟨ret_bool (by simp), b1.trans (b2.mono b1.size)⟩

theorem fnRuneCountInString_walk (s : ByteArray) (w : World) (_h : s.size ≤ maxLen) :
    Calls Try.prog 4 #[.string s] w fun e w' => e = .returned (.bool true) ∧ Below w.heap.size w w' := by
  by_cases h1 : (2147483647 : Int) < (s.size : Int)
  · go_enter Try.func4, Try.ntmps4
    go_wp2
    go_ret
    exact ⟨rfl, Below.refl _ _⟩
  by_cases h2 : (2000 : Int) < (s.size : Int)
  · go_enter Try.func4, Try.ntmps4
    go_wp2
    go_ret
    exact ⟨rfl, Below.refl _ _⟩
  have hcv := Lib.run_convert_string_bytes (P := Try.prog) w 9 27 5 s Try.underlying9 Try.underlying27 Try.underlying5
  have hge := grownCap_ge w s.size 0 5
  have HI := Lib.hid (bytes_isL w 5 s)
  have HB := Lib.hid (bytes_below w 5 s)
  have HN := Lib.hid (fun h => numbers_any (some ⟨w.heap.size, 0, none⟩) s.size (grownCap w s.size 0 5) (bsL s) (Lib.bytesWorld w 5 s) h hge (by omega))
  have HC := Lib.hid (fun w2 => implCountString_any s w2 (by omega))
  generalize numbers (bsL s) = ys at *
  generalize grownCap w s.size 0 5 = cp at *
  generalize Lib.bytesWorld w 5 s = w0 at *
  go_enter Try.func4, Try.ntmps4
  go_wp2_with fail
  refine (HN.out HI.out).mono ?_
  rintro e w1 ⟨A1, c1, v2, rfl, o1, b1⟩
  have hb := HB.out.trans (b1.mono HB.out.size)
  clear o1
  go_wp2_with fail
  refine (HC.out w1).mono ?_
  rintro e w2 ⟨rfl, b2⟩
  go_wp2
  go_ret
  exact ⟨ret_bool (by simp), hb.trans (b2.mono hb.size)⟩

end Go.Proofs.Ytincmkjffohekaa
