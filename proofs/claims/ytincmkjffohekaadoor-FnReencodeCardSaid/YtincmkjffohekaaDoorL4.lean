/-
  Proved here: the walk of the law FnReencode: it returns true for every input. Condition: the tables lie as their initialisers lay them.
-/
import Derived.Test.YtincmkjffohekaaDoorFul
import Derived.Test.YtincmkjffohekaaDoorDsn
import Derived.Test.YtincmkjffohekaaDoorWpl
import Derived.Test.YtincmkjffohekaaDoorWr
import Derived.BigQuiet
namespace Go.Proofs.YtincmkjffohekaaDoor
open Go.RowKit

theorem wrong_nil {l : List Int} (h : l.length = 0) : firstL l = (65533, 0) := by
  rw [List.eq_nil_of_length_eq_zero h]; exact firstL_nil
set_option maxHeartbeats 4000000 in
theorem fnReencode_walk (A : Option Addr) (n c : Nat) (xs : List Int) (w : World) (T : Tabs w) (h : IsL w w.heap.size .u8 A n xs) (hcap : n ≤ c) :
    Calls Tryd.prog 15 #[.slice A n c] w fun e w' => e = .returned (.bool true) ∧ Below w.heap.size w w' := by
  have H := Lib.hid h
  have HT := Lib.hid T
  have HL := Lib.hid h.len
  have HF := Lib.hid h.fit
  clear h T
  by_cases h1 : (2147483647 : Int) < (n : Int)
  · go_enter Tryd.func15, Tryd.ntmps15
    go_wp2
    go_ret
    exact ⟨rfl, Below.refl _ _⟩
  have HN := Lib.hid (implDecode_any A n c xs w HT.out H.out (by omega))
  have HR := Lib.hid (firstL_range xs HF.out.bytes)
  by_cases h0 : n = 0
  · have e := wrong_nil (l := xs) (by rw [HL.out]; exact h0)
    rw [e] at HN
    subst h0
    clear e HR
    go_enter Tryd.func15, Tryd.ntmps15
    go_wp2_with fail
    refine HN.out.mono ?_
    rintro e w1 ⟨rfl, b1⟩
    go_wp2
    go_ret
    exact ⟨rfl, b1⟩
  have h0z : (0 : Int) < (n : Int) := by omega
  by_cases hb : (firstL xs).1 = 65533 ∧ (firstL xs).2 = 1
  · rw [hb.1, hb.2] at HN
    clear hb HR
    go_enter Tryd.func15, Tryd.ntmps15
    go_wp2_with fail
    refine HN.out.mono ?_
    rintro e w1 ⟨rfl, b1⟩
    go_wp2
    go_ret
    exact ⟨rfl, b1⟩
  obtain ⟨hi, he, hle⟩ := first_right HF.out.bytes (by have := HL.out; omega) hb
  have hsz := firstL_size (l := xs) (by have := HL.out; omega)
  have HE := Lib.hid he
  have hlen : (enc (firstL xs).1).length = (firstL xs).2 := by rw [he, List.length_take]; omega
  have HM := Lib.hid (fun w2 => implEncode_any (firstL xs).1 w2 (by have := HR.out; omega))
  have hzn : (firstL xs).2 ≤ n := by have := HL.out; omega
  obtain ⟨bl, off, rfl, _, _⟩ := H.out.2.2 (by omega)
  have HI := Lib.hid (H.out.take hzn)
  rw [← HE.out] at HI
  have hfe : FitL .u8 (enc (firstL xs).1) := enc_wf _
  have HFE := Lib.hid hfe
  have HLN := Lib.hid hlen
  have hz1 := hsz.1
  have hz4 := hsz.2.2
  clear hlen he hi hle hsz HE hfe
  generalize (firstL xs).1 = r at *
  generalize (firstL xs).2 = z at *
  generalize enc r = ys at *
  have hlz := HLN.out
  subst hlz
  have hcz : (ys.length : Int) ≤ (c : Int) := by omega
  have hnz : (ys.length : Int) ≤ (n : Int) := by omega
  have hne : ¬ (n : Int) = 0 := by omega
  have hne2 : ((n : Int) == 0) = false := by simp; omega
  by_cases hr : r = 65533
  · have hz : ¬ (ys.length : Int) = 1 := fun h => hb ⟨hr, by omega⟩
    subst hr
    clear hb
    go_enter Tryd.func15, Tryd.ntmps15
    go_wp2_with fail
    refine HN.out.mono ?_
    rintro e w1 ⟨rfl, b1⟩
    go_wp2_with fail
    refine (HM.out w1).mono ?_
    rintro e w2 ⟨A1, c1, rfl, o1, b2⟩
    have I1 := Lib.hid (o1.isL HFE.out)
    have hb2 := b1.trans (b2.mono b1.size)
    have hc1 : ∀ q, (convert 22 9 (.slice A1 ys.length c1)).run Tryd.prog (w2.drewN q) = .ok (.string (strOf ys)) (w2.drewN q) := fun q => run_string_L (w2.drewN q) 22 9 5 (I1.out.below (below_drewN (Below.refl _ _) q)) c1 Tryd.underlying22 Tryd.underlying5 Tryd.underlying9
    have hc2 : ∀ q, (convert 22 9 (.slice (some ⟨bl, off, none⟩) ys.length c)).run Tryd.prog (w2.drewN q) = .ok (.string (strOf ys)) (w2.drewN q) := fun q => run_string_L (w2.drewN q) 22 9 5 (HI.out.below (below_drewN hb2 q)) c Tryd.underlying22 Tryd.underlying5 Tryd.underlying9
    clear o1
    go_wp2_with fail
    go_big_quiet (fail)
    go_wp2
    go_ret
    exact ⟨ret_bool (by simp), below_drewN hb2 _⟩
  · clear hb
    go_enter Tryd.func15, Tryd.ntmps15
    go_wp2_with fail
    refine HN.out.mono ?_
    rintro e w1 ⟨rfl, b1⟩
    go_wp2_with fail
    refine (HM.out w1).mono ?_
    rintro e w2 ⟨A1, c1, rfl, o1, b2⟩
    have I1 := Lib.hid (o1.isL HFE.out)
    have hb2 := b1.trans (b2.mono b1.size)
    have hc1 : ∀ q, (convert 22 9 (.slice A1 ys.length c1)).run Tryd.prog (w2.drewN q) = .ok (.string (strOf ys)) (w2.drewN q) := fun q => run_string_L (w2.drewN q) 22 9 5 (I1.out.below (below_drewN (Below.refl _ _) q)) c1 Tryd.underlying22 Tryd.underlying5 Tryd.underlying9
    have hc2 : ∀ q, (convert 22 9 (.slice (some ⟨bl, off, none⟩) ys.length c)).run Tryd.prog (w2.drewN q) = .ok (.string (strOf ys)) (w2.drewN q) := fun q => run_string_L (w2.drewN q) 22 9 5 (HI.out.below (below_drewN hb2 q)) c Tryd.underlying22 Tryd.underlying5 Tryd.underlying9
    clear o1
    go_wp2_with fail
    go_big_quiet (fail)
    go_wp2
    go_ret
    exact ⟨ret_bool (by simp), below_drewN hb2 _⟩

end Go.Proofs.YtincmkjffohekaaDoor
