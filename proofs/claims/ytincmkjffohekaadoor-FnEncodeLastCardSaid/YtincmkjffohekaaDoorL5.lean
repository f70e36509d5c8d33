/-
  Proved here: the walks of the laws FnValid, FnValidString, FnEncodeBack, FnCutShort, FnEncodeLast: each returns true for every input. Condition: the tables lie as their initialisers lay them.
-/
import Derived.Test.YtincmkjffohekaaDoorVal
import Derived.Test.YtincmkjffohekaaDoorVas
import Derived.Test.YtincmkjffohekaaDoorLst
import Derived.Test.YtincmkjffohekaaDoorWpl
import Derived.Test.YtincmkjffohekaaDoorWr
import Derived.Test.YtincmkjffohekaaDoorSb
namespace Go.Proofs.YtincmkjffohekaaDoor
open Go.RowKit

theorem fnValid_walk (A : Option Addr) (n c : Nat) (xs : List Int) (w : World) (T : Tabs w) (h : IsL w w.heap.size .u8 A n xs) (hcap : n ≤ c) :
    Calls Tryd.prog 11 #[.slice A n c] w fun e w' => e = .returned (.bool true) ∧ Below w.heap.size w w' := by
  have H := Lib.hid h
  have HT := Lib.hid T
  clear h T
  by_cases h1 : (2147483647 : Int) < (n : Int)
  · go_enter Tryd.func11, Tryd.ntmps11
    go_wp2
    go_ret
    exact ⟨rfl, Below.refl _ _⟩
  by_cases h2 : (2000 : Int) < (n : Int)
  · go_enter Tryd.func11, Tryd.ntmps11
    go_wp2
    go_ret
    exact ⟨rfl, Below.refl _ _⟩
  have HN := Lib.hid (implValid_any A n c xs w HT.out H.out (by omega))
  have HC := Lib.hid (fun w2 h => specValid_any A n c xs w2 h hcap (by omega))
  generalize valid xs = q1 at *
  go_enter Tryd.func11, Tryd.ntmps11
  go_wp2_with fail
  refine HN.out.mono ?_
  rintro e w1 ⟨rfl, b1⟩
  go_wp2_with fail
  refine (HC.out w1 (H.out.upto b1)).mono ?_
  rintro e w2 ⟨rfl, b2⟩
  go_wp2
  go_ret
  exact ⟨ret_bool (by simp), b1.trans (b2.mono b1.size)⟩

theorem fnValidString_walk (s : ByteArray) (w : World) (T : Tabs w) (_h : s.size ≤ maxLen) :
    Calls Tryd.prog 9 #[.string s] w fun e w' => e = .returned (.bool true) ∧ Below w.heap.size w w' := by
  have HT := Lib.hid T
  clear T
  by_cases h1 : (2147483647 : Int) < (s.size : Int)
  · go_enter Tryd.func9, Tryd.ntmps9
    go_wp2
    go_ret
    exact ⟨rfl, Below.refl _ _⟩
  by_cases h2 : (2000 : Int) < (s.size : Int)
  · go_enter Tryd.func9, Tryd.ntmps9
    go_wp2
    go_ret
    exact ⟨rfl, Below.refl _ _⟩
  have HD := Lib.hid (implSvalid_any s w HT.out)
  have hcv := fun w1 => Lib.run_convert_string_bytes (P := Tryd.prog) w1 9 22 5 s Tryd.underlying9 Tryd.underlying22 Tryd.underlying5
  have hge := Lib.hid (fun w1 => grownCap_ge w1 s.size 0 5)
  have HI := Lib.hid (fun w1 => bytes_isL w1 5 s)
  have HB := Lib.hid (fun w1 => bytes_below w1 5 s)
  have HN := Lib.hid (fun w1 h => specValid_any (some ⟨w1.heap.size, 0, none⟩) s.size (grownCap w1 s.size 0 5) (bsL s) (Lib.bytesWorld w1 5 s) h (hge.out w1) (by omega))
  generalize valid (bsL s) = q1 at *
  go_enter Tryd.func9, Tryd.ntmps9
  go_wp2_with fail
  refine HD.out.mono ?_
  rintro e w1 ⟨rfl, b1⟩
  have hcv1 := hcv w1
  clear hcv
  have HN1 := Lib.hid (HN.out w1 (HI.out w1))
  have HB1 := Lib.hid (HB.out w1)
  clear HN HB HI hge
  generalize grownCap w1 s.size 0 5 = cp at *
  generalize Lib.bytesWorld w1 5 s = w0 at *
  go_wp2_with fail
  refine HN1.out.mono ?_
  rintro e w2 ⟨rfl, b2⟩
  have hb := b1.trans ((HB1.out.mono b1.size).trans (b2.mono (Nat.le_trans b1.size HB1.out.size)))
  go_wp2
  go_ret
  exact ⟨ret_bool (by simp), hb⟩

theorem validRune_any (r : Int) (w : World) : Calls Tryd.prog 43 #[.int .i32 r] w fun e w' => e = .returned (.bool (isRune r)) ∧ w' = w := by
  have hc : r < 0 ∨ (0 ≤ r ∧ r < 55296) ∨ (55296 ≤ r ∧ r ≤ 57343) ∨ (57343 < r ∧ r ≤ 1114111) ∨ 1114111 < r := by omega
  rcases hc with h | h | h | h | h
  · rw [isRune_not.2 (by omega)]
    have h2 : ¬ 0 ≤ r := by omega
    have h3 : ¬ 57343 < r := by omega
    clear h
    go_enter Tryd.func43, Tryd.ntmps43
    go_wp2
    all_goals go_ret
    all_goals exact ⟨rfl, rfl⟩
  · rw [isRune_iff.2 (by omega)]
    obtain ⟨p, q⟩ := h
    go_enter Tryd.func43, Tryd.ntmps43
    go_wp2
    all_goals go_ret
    all_goals exact ⟨rfl, rfl⟩
  · rw [isRune_not.2 (by omega)]
    have h1 : 0 ≤ r := by omega
    have h2 : ¬ r < 55296 := by omega
    have h3 : ¬ 57343 < r := by omega
    clear h
    go_enter Tryd.func43, Tryd.ntmps43
    go_wp2
    all_goals go_ret
    all_goals exact ⟨rfl, rfl⟩
  · rw [isRune_iff.2 (by omega)]
    have h1 : 0 ≤ r := by omega
    have h2 : ¬ r < 55296 := by omega
    obtain ⟨p, q⟩ := h
    go_enter Tryd.func43, Tryd.ntmps43
    go_wp2
    all_goals go_ret
    all_goals exact ⟨rfl, rfl⟩
  · rw [isRune_not.2 (by omega)]
    have h1 : 0 ≤ r := by omega
    have h2 : ¬ r < 55296 := by omega
    have h3 : 57343 < r := by omega
    have h4 : ¬ r ≤ 1114111 := by omega
    clear h
    go_enter Tryd.func43, Tryd.ntmps43
    go_wp2
    all_goals go_ret
    all_goals exact ⟨rfl, rfl⟩
theorem implValidRune_any (r : Int) (w : World) : Calls Tryd.prog 25 #[.int .i32 r] w fun e w' => e = .returned (.bool (isRune r)) ∧ w' = w := by
  have HC := Lib.hid (validRune_any r w)
  generalize isRune r = q at *
  go_enter Tryd.func25, Tryd.ntmps25
  go_wp2_with fail
  refine HC.out.mono ?_
  rintro e w1 ⟨rfl, rfl⟩
  go_wp2
  go_ret
  exact ⟨rfl, rfl⟩

set_option maxHeartbeats 1000000 in
theorem fnEncodeBack_walk (r : Int) (w : World) (T : Tabs w) (w0 : (Lit.int .i32 r).wf = true) :
    Calls Tryd.prog 4 #[.int .i32 r] w fun e w' => e = .returned (.bool true) ∧ Below w.heap.size w w' := by
  have hr := rune_range w0
  clear w0
  have HT := Lib.hid T
  have HE := Lib.hid (implEncode_any r w hr)
  have HV := Lib.hid (fun w1 => implValidRune_any r w1)
  have hl := enc_len r
  have HFT : Hid (FitL .u8 (enc r)) := enc_wf r
  have e1 : firstL (enc r) = (rune r, (enc r).length) := by have := first_enc0 (rune_is r); rwa [enc_rune] at this
  have e2 : fullL (enc r) = true := by have := full_enc (rune_is r); rwa [enc_rune] at this
  have e3 : valid (enc r) = true := by have := valid_enc0 (rune_is r); rwa [enc_rune] at this
  have HD := Lib.hid (fun w1 T1 A c h => implDecode_any A (enc r).length c (enc r) w1 T1 h (by omega))
  have HF := Lib.hid (fun w1 T1 A c h => implFull_any A (enc r).length c (enc r) w1 T1 h (by omega))
  have HA := Lib.hid (fun w1 T1 A c h => implValid_any A (enc r).length c (enc r) w1 T1 h (by omega))
  rw [e1] at HD
  rw [e2] at HF
  rw [e3] at HA
  have hp : (0 : Int) < ((enc r).length : Int) := by omega
  have hq1 : isRune r = true → rune r = r := fun h => by unfold rune; rw [if_pos h]
  have hq2 : isRune r = false → rune r = 65533 := fun h => by unfold rune; rw [h]; rfl
  clear T e1 e2 e3 hl
  cases hi : isRune r with
  | true =>
    rw [hi] at HV
    rw [hq1 hi] at HD
    clear hq1 hq2 hi
    generalize enc r = ys at *
    go_enter Tryd.func4, Tryd.ntmps4
    go_wp2_with fail
    refine HE.out.mono ?_
    rintro e w1 ⟨A1, c1, rfl, o1, b1⟩
    have I1 := Lib.hid (o1.isL HFT.out)
    clear o1
    go_wp2_with fail
    refine (HD.out w1 (HT.out.keep b1) A1 c1 I1.out).mono ?_
    rintro e w2 ⟨rfl, b2⟩
    have hb2 := b1.trans (b2.mono b1.size)
    go_wp2_with fail
    refine (HV.out w2).mono ?_
    rintro e w3 ⟨rfl, rfl⟩
    go_wp2_with fail
    refine (HF.out _ (HT.out.keep hb2) A1 c1 (I1.out.upto b2)).mono ?_
    rintro e w4 ⟨rfl, b4⟩
    have hb4 := hb2.trans (b4.mono hb2.size)
    go_wp2_with fail
    refine (HA.out w4 (HT.out.keep hb4) A1 c1 ((I1.out.upto b2).upto b4)).mono ?_
    rintro e w5 ⟨rfl, b5⟩
    go_wp2
    go_ret
    exact ⟨rfl, hb4.trans (b5.mono hb4.size)⟩
  | false =>
    rw [hi] at HV
    rw [hq2 hi] at HD
    clear hq1 hq2 hi
    generalize enc r = ys at *
    go_enter Tryd.func4, Tryd.ntmps4
    go_wp2_with fail
    refine HE.out.mono ?_
    rintro e w1 ⟨A1, c1, rfl, o1, b1⟩
    have I1 := Lib.hid (o1.isL HFT.out)
    clear o1
    go_wp2_with fail
    refine (HD.out w1 (HT.out.keep b1) A1 c1 I1.out).mono ?_
    rintro e w2 ⟨rfl, b2⟩
    have hb2 := b1.trans (b2.mono b1.size)
    go_wp2_with fail
    refine (HV.out w2).mono ?_
    rintro e w3 ⟨rfl, rfl⟩
    go_wp2_with fail
    refine (HF.out _ (HT.out.keep hb2) A1 c1 (I1.out.upto b2)).mono ?_
    rintro e w4 ⟨rfl, b4⟩
    have hb4 := hb2.trans (b4.mono hb2.size)
    go_wp2_with fail
    refine (HA.out w4 (HT.out.keep hb4) A1 c1 ((I1.out.upto b2).upto b4)).mono ?_
    rintro e w5 ⟨rfl, b5⟩
    go_wp2
    go_ret
    exact ⟨rfl, hb4.trans (b5.mono hb4.size)⟩

set_option maxHeartbeats 1000000 in
theorem fnCutShort_walk (r k0 : Int) (w : World) (T : Tabs w) (w0 : (Lit.int .i32 r).wf = true) (w1 : (Lit.int .u8 k0).wf = true) :
    Calls Tryd.prog 16 #[.int .i32 r, .int .u8 k0] w fun e w' => e = .returned (.bool true) ∧ Below w.heap.size w w' := by
  have hr := rune_range w0
  have hk0 := byte_range w1
  clear w0 w1
  obtain ⟨k, rfl⟩ := Int.eq_ofNat_of_zero_le hk0.1
  have HT := Lib.hid T
  have HI := Lib.hid (isRune_any r w)
  have HE := Lib.hid (implEncode_any r w hr)
  have hl := enc_len r
  have HFT : Hid (FitL .u8 (enc r)) := enc_wf r
  clear T
  cases hi : isRune r with
  | false =>
    rw [hi] at HI
    clear HE HFT hl hi
    go_enter Tryd.func16, Tryd.ntmps16
    go_wp2_with fail
    refine HI.out.mono ?_
    rintro e w3 ⟨rfl, rfl⟩
    go_wp2
    go_ret
    exact ⟨rfl, Below.refl _ _⟩
  | true =>
    rw [hi] at HI
    have hkl : k % (enc r).length < (enc r).length := Nat.mod_lt _ (by omega)
    have HF := Lib.hid (fun w1 T1 A c h => implFull_any A (enc r).length c (enc r) w1 T1 h (by omega))
    have HF1 := Lib.hid (fun w1 T1 A c h => implFull_any A (k % (enc r).length) c ((enc r).take (k % (enc r).length)) w1 T1 h (by omega))
    have HA1 := Lib.hid (fun w1 T1 A c h => implValid_any A (k % (enc r).length) c ((enc r).take (k % (enc r).length)) w1 T1 h (by omega))
    rw [full_enc hi] at HF
    rw [short_full hi hkl] at HF1
    rw [short_valid hi hkl] at HA1
    have hmod : ((k : Int)).tmod ((enc r).length : Int) = ((k % (enc r).length : Nat) : Int) := by
      rw [Int.tmod_eq_emod_of_nonneg (by omega)]
      omega
    have hz : ¬ (((enc r).length : Int) = 0) := by omega
    have hp : ¬ (((enc r).length : Int) < 1) := by omega
    clear hi
    generalize enc r = ys at *
    generalize k % ys.length = m at *
    have hm : (m : Int) ≤ (ys.length : Int) := by omega
    have hdec : (decide (m = 0) == ((m : Int) == 0)) = true := by
      by_cases h : m = 0
      · subst h; rfl
      · have : ¬ (m : Int) = 0 := by omega
        simp [h]
    go_enter Tryd.func16, Tryd.ntmps16
    go_wp2_with fail
    refine HI.out.mono ?_
    rintro e w3 ⟨rfl, rfl⟩
    go_wp2_with fail
    refine HE.out.mono ?_
    rintro e w1 ⟨A1, c1, rfl, o1, b1⟩
    have I1 := Lib.hid (o1.isL HFT.out)
    have hcap := o1.cap
    have hmc : (m : Int) ≤ (c1 : Int) := by omega
    clear o1
    go_wp2_with fail
    refine (HF1.out w1 (HT.out.keep b1) A1 c1 (I1.out.take (by omega))).mono ?_
    rintro e w2 ⟨rfl, b2⟩
    have hb2 := b1.trans (b2.mono b1.size)
    go_wp2_with fail
    refine (HA1.out w2 (HT.out.keep hb2) A1 c1 ((I1.out.upto b2).take (by omega))).mono ?_
    rintro e w4 ⟨rfl, b4⟩
    have hb4 := hb2.trans (b4.mono hb2.size)
    go_wp2_with fail
    refine (HF.out w4 (HT.out.keep hb4) A1 c1 ((I1.out.upto b2).upto b4)).mono ?_
    rintro e w5 ⟨rfl, b5⟩
    go_wp2
    go_ret
    exact ⟨rfl, hb4.trans (b5.mono hb4.size)⟩

set_option maxHeartbeats 1000000 in
theorem fnEncodeLast_walk (a b : Int) (w : World) (T : Tabs w) (w0 : (Lit.int .i32 a).wf = true) (w1 : (Lit.int .i32 b).wf = true) :
    Calls Tryd.prog 17 #[.int .i32 a, .int .i32 b] w fun e w' => e = .returned (.bool true) ∧ Below w.heap.size w w' := by
  have hra := rune_range w0
  have hrb := rune_range w1
  clear w0 w1
  have HT := Lib.hid T
  have HIa := Lib.hid (isRune_any a w)
  have HIb := Lib.hid (isRune_any b w)
  clear T
  cases ha : isRune a with
  | false =>
    rw [ha] at HIa
    clear ha HIb
    go_enter Tryd.func17, Tryd.ntmps17
    go_wp2_with fail
    refine HIa.out.mono ?_
    rintro e w3 ⟨rfl, rfl⟩
    go_wp2
    go_ret
    exact ⟨rfl, Below.refl _ _⟩
  | true =>
  cases hb : isRune b with
  | false =>
    rw [ha] at HIa
    rw [hb] at HIb
    clear ha hb
    go_enter Tryd.func17, Tryd.ntmps17
    go_wp2_with fail
    refine HIa.out.mono ?_
    rintro e w3 ⟨rfl, rfl⟩
    go_wp2_with fail
    refine HIb.out.mono ?_
    rintro e w3 ⟨rfl, rfl⟩
    go_wp2
    go_ret
    exact ⟨rfl, Below.refl _ _⟩
  | true =>
    rw [ha] at HIa
    rw [hb] at HIb
    have hla := enc_len a
    have hlb := enc_len b
    have hfa : FitL .u8 (enc a) := enc_wf a
    have HFA := Lib.hid hfa
    have HFB : Hid (FitL .u8 (enc a ++ enc b)) := hfa.app (enc_wf b)
    have hlen : (enc a ++ enc b).length = (enc a).length + (enc b).length := List.length_append
    have H1 := Lib.hid (implAppend_any none 0 0 [] a w (IsL.nil_ _ _ _ _) (by omega) hra)
    rw [List.nil_append] at H1
    have H2 := Lib.hid (fun w1 A c h => implAppend_any A (enc a).length c (enc a) b w1 h (by omega) hrb)
    have HD := Lib.hid (fun w1 T1 A c h => implDecode_any A (enc a ++ enc b).length c (enc a ++ enc b) w1 T1 h (by omega))
    have HL := Lib.hid (fun w1 T1 A c h => implLast_any A (enc a ++ enc b).length c (enc a ++ enc b) w1 T1 h (by omega))
    have HC := Lib.hid (fun w1 A c h => implCount_any A (enc a ++ enc b).length c (enc a ++ enc b) w1 h (by omega))
    rw [first_enc ha] at HD
    rw [last_enc hb] at HL
    have hcnt : (numbers (enc a ++ enc b)).length = 2 := by
      rw [numbers_enc ha]
      have := numbers_enc hb []
      rw [List.append_nil] at this
      rw [this, numbers_nil]
      rfl
    rw [hcnt] at HC
    clear ha hb hcnt hfa
    generalize enc a ++ enc b = zs at *
    generalize enc a = xs at *
    generalize enc b = ys at *
    have hsum : (xs.length : Int) + (ys.length : Int) = (zs.length : Int) := by omega
    clear hlen
    go_enter Tryd.func17, Tryd.ntmps17
    go_wp2_with fail
    refine HIa.out.mono ?_
    rintro e w3 ⟨rfl, rfl⟩
    go_wp2_with fail
    refine HIb.out.mono ?_
    rintro e w3 ⟨rfl, rfl⟩
    go_wp2_with fail
    refine H1.out.mono ?_
    rintro e w1 ⟨A1, c1, rfl, o1, b1⟩
    have I1 := Lib.hid (OwnsL.isL (e := 5) (k := .u8) o1 HFA.out)
    clear o1
    go_wp2_with fail
    refine (H2.out w1 A1 c1 I1.out).mono ?_
    rintro e w2 ⟨A2, c2, rfl, o2, b2⟩
    have I2 := Lib.hid (OwnsL.isL (e := 5) (k := .u8) o2 HFB.out)
    have hb2 := b1.trans (b2.mono b1.size)
    clear o2
    go_wp2_with fail
    refine (HD.out w2 (HT.out.keep hb2) A2 c2 I2.out).mono ?_
    rintro e w4 ⟨rfl, b4⟩
    have hb4 := hb2.trans (b4.mono hb2.size)
    go_wp2_with fail
    refine (HL.out w4 (HT.out.keep hb4) A2 c2 (I2.out.upto b4)).mono ?_
    rintro e w5 ⟨rfl, b5⟩
    have hb5 := hb4.trans (b5.mono hb4.size)
    go_wp2_with fail
    refine (HC.out w5 A2 c2 ((I2.out.upto b4).upto b5)).mono ?_
    rintro e w6 ⟨rfl, b6⟩
    go_wp2
    go_ret
    exact ⟨rfl, hb5.trans (b6.mono hb5.size)⟩

end Go.Proofs.YtincmkjffohekaaDoor
