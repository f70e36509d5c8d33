/-
  Proved here: the walks of the laws FnFullRune and FnFullRuneInString: each returns true for every input. Condition: the tables lie as their initialisers lay them.
-/
import Derived.Test.YtincmkjffohekaaDoorFul
import Derived.Test.YtincmkjffohekaaDoorCut
import Derived.Test.YtincmkjffohekaaDoorSb
namespace Go.Proofs.YtincmkjffohekaaDoor
open Go.RowKit

theorem fnFullRune_walk (A : Option Addr) (n c : Nat) (xs : List Int) (w : World) (T : Tabs w) (h : IsL w w.heap.size .u8 A n xs) (_hcap : n ≤ c) :
    Calls Tryd.prog 7 #[.slice A n c] w fun e w' => e = .returned (.bool true) ∧ Below w.heap.size w w' := by
  have H := Lib.hid h
  have HT := Lib.hid T
  clear h T
  by_cases h1 : (2147483647 : Int) < (n : Int)
  · go_enter Tryd.func7, Tryd.ntmps7
    go_wp2
    go_ret
    exact ⟨rfl, Below.refl _ _⟩
  have HF := Lib.hid (implFull_any A n c xs w HT.out H.out (by omega))
  have HC := Lib.hid (fun w2 h => cut_any A n c xs w2 h (by omega))
  have hq : fullL xs = (decide (0 < n) && !cutL xs) := by unfold fullL; rw [H.out.len]
  by_cases h0 : 0 < n
  · have h0z : (0 : Int) < (n : Int) := by omega
    rw [decide_eq_true h0, Bool.true_and] at hq
    have HQ := Lib.hid hq
    clear hq
    generalize fullL xs = q1 at *
    generalize cutL xs = q2 at *
    go_enter Tryd.func7, Tryd.ntmps7
    go_wp2_with fail
    refine HF.out.mono ?_
    rintro e w1 ⟨rfl, b1⟩
    go_wp2_with fail
    refine (HC.out w1 (H.out.upto b1)).mono ?_
    rintro e w2 ⟨rfl, b2⟩
    go_wp2
    go_ret
    exact ⟨ret_bool (by rw [HQ.out]; simp), b1.trans (b2.mono b1.size)⟩
  · have h0z : decide ((0 : Int) < (n : Int)) = false := by simp; omega
    rw [decide_eq_false h0, Bool.false_and] at hq
    rw [hq] at HF
    clear hq HC
    go_enter Tryd.func7, Tryd.ntmps7
    go_wp2_with fail
    refine HF.out.mono ?_
    rintro e w1 ⟨rfl, b1⟩
    go_wp2
    go_ret
    exact ⟨rfl, b1⟩

theorem fnFullRuneInString_walk (s : ByteArray) (w : World) (T : Tabs w) (_h : s.size ≤ maxLen) :
    Calls Tryd.prog 5 #[.string s] w fun e w' => e = .returned (.bool true) ∧ Below w.heap.size w w' := by
  have HT := Lib.hid T
  clear T
  by_cases h1 : (2147483647 : Int) < (s.size : Int)
  · go_enter Tryd.func5, Tryd.ntmps5
    go_wp2
    go_ret
    exact ⟨rfl, Below.refl _ _⟩
  have HF := Lib.hid (implSfull_any s w HT.out)
  have hq : fullL (bsL s) = (decide (0 < s.size) && !cutL (bsL s)) := by unfold fullL; rw [bsL_len]
  by_cases h0 : 0 < s.size
  · have h0z : (0 : Int) < (s.size : Int) := by omega
    have hcv := fun w1 => Lib.run_convert_string_bytes (P := Tryd.prog) w1 9 22 5 s Tryd.underlying9 Tryd.underlying22 Tryd.underlying5
    have HI := Lib.hid (fun w1 => bytes_isL w1 5 s)
    have HB := Lib.hid (fun w1 => bytes_below w1 5 s)
    have HC := Lib.hid (fun w1 h => cut_any (some ⟨w1.heap.size, 0, none⟩) s.size (grownCap w1 s.size 0 5) (bsL s) (Lib.bytesWorld w1 5 s) h (by omega))
    rw [decide_eq_true h0, Bool.true_and] at hq
    have HQ := Lib.hid hq
    clear hq
    generalize fullL (bsL s) = q1 at *
    generalize cutL (bsL s) = q2 at *
    go_enter Tryd.func5, Tryd.ntmps5
    go_wp2_with fail
    refine HF.out.mono ?_
    rintro e w1 ⟨rfl, b1⟩
    have hcv1 := hcv w1
    clear hcv
    have HC1 := Lib.hid (HC.out w1 (HI.out w1))
    have HB1 := Lib.hid (HB.out w1)
    clear HC HB HI
    generalize grownCap w1 s.size 0 5 = cp at *
    generalize Lib.bytesWorld w1 5 s = w0 at *
    go_wp2_with fail
    refine HC1.out.mono ?_
    rintro e w2 ⟨rfl, b2⟩
    have hb := b1.trans ((HB1.out.mono b1.size).trans (b2.mono (Nat.le_trans b1.size HB1.out.size)))
    go_wp2
    go_ret
    exact ⟨ret_bool (by rw [HQ.out]; simp), hb⟩
  · have h0z : decide ((0 : Int) < (s.size : Int)) = false := decide_eq_false (by omega)
    rw [decide_eq_false h0, Bool.false_and] at hq
    rw [hq] at HF
    clear hq
    go_enter Tryd.func5, Tryd.ntmps5
    go_wp2_with fail
    refine HF.out.mono ?_
    rintro e w1 ⟨rfl, b1⟩
    go_wp2
    go_ret
    exact ⟨rfl, b1⟩

end Go.Proofs.YtincmkjffohekaaDoor
