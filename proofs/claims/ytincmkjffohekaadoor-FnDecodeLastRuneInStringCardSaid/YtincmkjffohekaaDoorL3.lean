/-
  Proved here: the walks of the laws FnDecodeLastRune and FnDecodeLastRuneInString: each returns true for every input. Condition: the tables lie as their initialisers lay them.
-/
import Derived.Test.YtincmkjffohekaaDoorLss
import Derived.Test.YtincmkjffohekaaDoorSb
namespace Go.Proofs.YtincmkjffohekaaDoor
open Go.RowKit

theorem fnDecodeLastRune_walk (A : Option Addr) (n c : Nat) (xs : List Int) (w : World) (T : Tabs w) (h : IsL w w.heap.size .u8 A n xs) (hcap : n ≤ c) :
    Calls Tryd.prog 14 #[.slice A n c] w fun e w' => e = .returned (.bool true) ∧ Below w.heap.size w w' := by
  have H := Lib.hid h
  have HT := Lib.hid T
  clear h T
  by_cases h1 : (2147483647 : Int) < (n : Int)
  · go_enter Tryd.func14, Tryd.ntmps14
    go_wp2
    go_ret
    exact ⟨rfl, Below.refl _ _⟩
  have HN := Lib.hid (implLast_any A n c xs w HT.out H.out (by omega))
  have HC := Lib.hid (fun w2 h => specLast_any A n c xs w2 h hcap (by omega))
  generalize (lastL xs).1 = q1 at *
  generalize (lastL xs).2 = q2 at *
  go_enter Tryd.func14, Tryd.ntmps14
  go_wp2_with fail
  refine HN.out.mono ?_
  rintro e w1 ⟨rfl, b1⟩
  go_wp2_with fail
  refine (HC.out w1 (H.out.upto b1)).mono ?_
  rintro e w2 ⟨rfl, b2⟩
  go_wp2
  go_ret
  exact ⟨ret_bool (by simp), b1.trans (b2.mono b1.size)⟩

theorem fnDecodeLastRuneInString_walk (s : ByteArray) (w : World) (T : Tabs w) (_h : s.size ≤ maxLen) :
    Calls Tryd.prog 12 #[.string s] w fun e w' => e = .returned (.bool true) ∧ Below w.heap.size w w' := by
  have HT := Lib.hid T
  clear T
  by_cases h1 : (2147483647 : Int) < (s.size : Int)
  · go_enter Tryd.func12, Tryd.ntmps12
    go_wp2
    go_ret
    exact ⟨rfl, Below.refl _ _⟩
  have HD := Lib.hid (implSlast_any s w HT.out (by omega))
  have hcv := fun w1 => Lib.run_convert_string_bytes (P := Tryd.prog) w1 9 22 5 s Tryd.underlying9 Tryd.underlying22 Tryd.underlying5
  have hge := Lib.hid (fun w1 => grownCap_ge w1 s.size 0 5)
  have HI := Lib.hid (fun w1 => bytes_isL w1 5 s)
  have HB := Lib.hid (fun w1 => bytes_below w1 5 s)
  have HN := Lib.hid (fun w1 h => specLast_any (some ⟨w1.heap.size, 0, none⟩) s.size (grownCap w1 s.size 0 5) (bsL s) (Lib.bytesWorld w1 5 s) h (hge.out w1) (by omega))
  generalize (lastL (bsL s)).1 = q1 at *
  generalize (lastL (bsL s)).2 = q2 at *
  go_enter Tryd.func12, Tryd.ntmps12
  go_wp2_with fail
  refine HD.out.mono ?_
  rintro e w1 ⟨rfl, b1⟩
  have hcv1 := hcv w1
  clear hcv
  have HN1 := Lib.hid (HN.out w1 (HI.out w1))
  have HB1 := Lib.hid (HB.out w1)
  clear HN HB HI hge
  generalize grownCap w1 s.size 0 5 = cp at *
  generalize Lib.bytesWorld w1 5 s = w0 at *
  go_wp2_with fail
  refine HN1.out.mono ?_
  rintro e w2 ⟨rfl, b2⟩
  have hb := b1.trans ((HB1.out.mono b1.size).trans (b2.mono (Nat.le_trans b1.size HB1.out.size)))
  go_wp2
  go_ret
  exact ⟨ret_bool (by simp), hb⟩

end Go.Proofs.YtincmkjffohekaaDoor
