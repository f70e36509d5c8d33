/-
  Proved here: the walk of the law FnStrings: it returns true for every input. Condition: the tables lie as their initialisers lay them.
-/
import Derived.Test.YtincmkjffohekaaDoorVal
import Derived.Test.YtincmkjffohekaaDoorVas
import Derived.Test.YtincmkjffohekaaDoorLss
import Derived.Test.YtincmkjffohekaaDoorCn2
namespace Go.Proofs.YtincmkjffohekaaDoor
open Go.RowKit

set_option maxHeartbeats 4000000 in
theorem fnStrings_walk (A : Option Addr) (n c : Nat) (xs : List Int) (w : World) (T : Tabs w) (h : IsL w w.heap.size .u8 A n xs) (_hcap : n ≤ c) :
    Calls Tryd.prog 6 #[.slice A n c] w fun e w' => e = .returned (.bool true) ∧ Below w.heap.size w w' := by
  have H := Lib.hid h
  have HT := Lib.hid T
  have hl := h.len
  have hf := h.fit.bytes
  clear h T
  by_cases h1 : (2147483647 : Int) < (n : Int)
  · go_enter Tryd.func6, Tryd.ntmps6
    go_wp2
    go_ret
    exact ⟨rfl, Below.refl _ _⟩
  by_cases h2 : (2000 : Int) < (n : Int)
  · go_enter Tryd.func6, Tryd.ntmps6
    go_wp2
    go_ret
    exact ⟨rfl, Below.refl _ _⟩
  have hsz : (strOf xs).size ≤ 1000000 := by rw [strOf_size]; omega
  have hbs := bsL_str xs hf
  have hcv : (convert 22 9 (.slice A n c)).run Tryd.prog w = .ok (.string (strOf xs)) w := run_string_L w 22 9 5 H.out c Tryd.underlying22 Tryd.underlying5 Tryd.underlying9
  have K1 := Lib.hid (fun w1 T1 h => implDecode_any A n c xs w1 T1 h (by omega))
  have K2 := Lib.hid (fun w1 T1 => implDecodeString_any (strOf xs) w1 T1 (by omega))
  have K3 := Lib.hid (fun w1 T1 h => implLast_any A n c xs w1 T1 h (by omega))
  have K4 := Lib.hid (fun w1 T1 => implSlast_any (strOf xs) w1 T1 (by omega))
  have K5 := Lib.hid (fun w1 h => implCount_any A n c xs w1 h (by omega))
  have K6 := Lib.hid (fun w1 => implCountString_any (strOf xs) w1 (by omega))
  have K7 := Lib.hid (fun w1 T1 h => implValid_any A n c xs w1 T1 h (by omega))
  have K8 := Lib.hid (fun w1 T1 => implSvalid_any (strOf xs) w1 T1)
  have K9 := Lib.hid (fun w1 T1 h => implFull_any A n c xs w1 T1 h (by omega))
  have K10 := Lib.hid (fun w1 T1 => implSfull_any (strOf xs) w1 T1)
  have K11 := Lib.hid (fun w1 T1 => implValid_any none 0 0 [] w1 T1 (IsL.nil_ _ _ _ _) (by omega))
  rw [valid_nil] at K11
  rw [hbs] at K2 K4 K6 K8 K10
  have hz0 : n = 0 → (firstL xs).2 = 0 := fun h => by
    rw [List.eq_nil_of_length_eq_zero (l := xs) (by omega), firstL_nil]
  have hz1 : ¬ n = 0 → 1 ≤ (firstL xs).2 := fun h => (firstL_size (l := xs) (by omega)).1
  clear hbs hsz hf hl
  generalize strOf xs = s at *
  generalize (firstL xs).1 = p1 at *
  generalize (firstL xs).2 = p2 at *
  generalize (lastL xs).1 = p3 at *
  generalize (lastL xs).2 = p4 at *
  generalize (numbers xs).length = p5 at *
  generalize valid xs = p6 at *
  generalize fullL xs = p7 at *
  by_cases h0 : n = 0
  · have e0 := hz0 h0
    subst h0
    subst e0
    clear hz0 hz1
    go_enter Tryd.func6, Tryd.ntmps6
    have hb0 := Below.refl w.heap.size w
    go_wp2_with fail
    refine (K1.out w (HT.out.keep hb0) (H.out.upto hb0)).mono ?_
    rintro e w1 ⟨rfl, b1⟩
    have hb1 := hb0.trans (b1.mono hb0.size)
    clear b1
    go_wp2_with fail
    refine (K2.out w1 (HT.out.keep hb1)).mono ?_
    rintro e w2 ⟨rfl, b2⟩
    have hb2 := hb1.trans (b2.mono hb1.size)
    clear b2
    go_wp2_with fail
    refine (K3.out w2 (HT.out.keep hb2) (H.out.upto hb2)).mono ?_
    rintro e w3 ⟨rfl, b3⟩
    have hb3 := hb2.trans (b3.mono hb2.size)
    clear b3
    go_wp2_with fail
    refine (K4.out w3 (HT.out.keep hb3)).mono ?_
    rintro e w4 ⟨rfl, b4⟩
    have hb4 := hb3.trans (b4.mono hb3.size)
    clear b4
    go_wp2_with fail
    refine (K5.out w4 (H.out.upto hb4)).mono ?_
    rintro e w5 ⟨rfl, b5⟩
    have hb5 := hb4.trans (b5.mono hb4.size)
    clear b5
    go_wp2_with fail
    refine (K6.out w5).mono ?_
    rintro e w6 ⟨rfl, b6⟩
    have hb6 := hb5.trans (b6.mono hb5.size)
    clear b6
    go_wp2_with fail
    refine (K7.out w6 (HT.out.keep hb6) (H.out.upto hb6)).mono ?_
    rintro e w7 ⟨rfl, b7⟩
    have hb7 := hb6.trans (b7.mono hb6.size)
    clear b7
    go_wp2_with fail
    refine (K8.out w7 (HT.out.keep hb7)).mono ?_
    rintro e w8 ⟨rfl, b8⟩
    have hb8 := hb7.trans (b8.mono hb7.size)
    clear b8
    go_wp2_with fail
    refine (K9.out w8 (HT.out.keep hb8) (H.out.upto hb8)).mono ?_
    rintro e w9 ⟨rfl, b9⟩
    have hb9 := hb8.trans (b9.mono hb8.size)
    clear b9
    go_wp2_with fail
    refine (K10.out w9 (HT.out.keep hb9)).mono ?_
    rintro e w10 ⟨rfl, b10⟩
    have hb10 := hb9.trans (b10.mono hb9.size)
    clear b10
    go_wp2_with fail
    refine (K11.out w10 (HT.out.keep hb10)).mono ?_
    rintro e w11 ⟨rfl, b11⟩
    have hb11 := hb10.trans (b11.mono hb10.size)
    clear b11
    go_wp2
    go_ret
    exact ⟨ret_bool (by simp), hb11⟩
  · have e1 := hz1 h0
    have f1 : ((n : Int) == 0) = false := by simp; omega
    have f2 : ((p2 : Int) == 0) = false := by simp; omega
    clear hz0 hz1
    go_enter Tryd.func6, Tryd.ntmps6
    have hb0 := Below.refl w.heap.size w
    go_wp2_with fail
    refine (K1.out w (HT.out.keep hb0) (H.out.upto hb0)).mono ?_
    rintro e w1 ⟨rfl, b1⟩
    have hb1 := hb0.trans (b1.mono hb0.size)
    clear b1
    go_wp2_with fail
    refine (K2.out w1 (HT.out.keep hb1)).mono ?_
    rintro e w2 ⟨rfl, b2⟩
    have hb2 := hb1.trans (b2.mono hb1.size)
    clear b2
    go_wp2_with fail
    refine (K3.out w2 (HT.out.keep hb2) (H.out.upto hb2)).mono ?_
    rintro e w3 ⟨rfl, b3⟩
    have hb3 := hb2.trans (b3.mono hb2.size)
    clear b3
    go_wp2_with fail
    refine (K4.out w3 (HT.out.keep hb3)).mono ?_
    rintro e w4 ⟨rfl, b4⟩
    have hb4 := hb3.trans (b4.mono hb3.size)
    clear b4
    go_wp2_with fail
    refine (K5.out w4 (H.out.upto hb4)).mono ?_
    rintro e w5 ⟨rfl, b5⟩
    have hb5 := hb4.trans (b5.mono hb4.size)
    clear b5
    go_wp2_with fail
    refine (K6.out w5).mono ?_
    rintro e w6 ⟨rfl, b6⟩
    have hb6 := hb5.trans (b6.mono hb5.size)
    clear b6
    go_wp2_with fail
    refine (K7.out w6 (HT.out.keep hb6) (H.out.upto hb6)).mono ?_
    rintro e w7 ⟨rfl, b7⟩
    have hb7 := hb6.trans (b7.mono hb6.size)
    clear b7
    go_wp2_with fail
    refine (K8.out w7 (HT.out.keep hb7)).mono ?_
    rintro e w8 ⟨rfl, b8⟩
    have hb8 := hb7.trans (b8.mono hb7.size)
    clear b8
    go_wp2_with fail
    refine (K9.out w8 (HT.out.keep hb8) (H.out.upto hb8)).mono ?_
    rintro e w9 ⟨rfl, b9⟩
    have hb9 := hb8.trans (b9.mono hb8.size)
    clear b9
    go_wp2_with fail
    refine (K10.out w9 (HT.out.keep hb9)).mono ?_
    rintro e w10 ⟨rfl, b10⟩
    have hb10 := hb9.trans (b10.mono hb9.size)
    clear b10
    go_wp2_with fail
    refine (K11.out w10 (HT.out.keep hb10)).mono ?_
    rintro e w11 ⟨rfl, b11⟩
    have hb11 := hb10.trans (b11.mono hb10.size)
    clear b11
    go_wp2
    go_ret
    exact ⟨ret_bool (by simp), hb11⟩

end Go.Proofs.YtincmkjffohekaaDoor
