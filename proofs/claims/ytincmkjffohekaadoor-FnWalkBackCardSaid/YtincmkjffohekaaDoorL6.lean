/-
  Proved here: the walks of the laws FnJoin, FnWalk and FnWalkBack: each returns true for every input. Condition: the tables lie as their initialisers lay them.
-/
import Derived.Test.YtincmkjffohekaaDoorVal
import Derived.Test.YtincmkjffohekaaDoorLst
import Derived.Test.YtincmkjffohekaaDoorWpl
import Derived.Test.YtincmkjffohekaaDoorCn2
import Derived.BigQuiet
namespace Go.Proofs.YtincmkjffohekaaDoor
open Go.RowKit

set_option maxHeartbeats 2000000 in
theorem fnJoin_walk (A : Option Addr) (n c : Nat) (xs : List Int) (B : Option Addr) (m d : Nat) (ys : List Int) (w : World) (T : Tabs w) (h : IsL w w.heap.size .u8 A n xs) (hcap : n ≤ c) (h' : IsL w w.heap.size .u8 B m ys) (hcap' : m ≤ d) :
    Calls Tryd.prog 13 #[.slice A n c, .slice B m d] w fun e w' => e = .returned (.bool true) ∧ Below w.heap.size w w' := by
  obtain ⟨i0, hi, hz0, hz1, hz2⟩ := info_parts info8
  have HX := Lib.hid h
  have HY := Lib.hid h'
  have HT := Lib.hid T
  clear h h' T
  by_cases h1 : (2147483647 : Int) < (n : Int)
  · go_enter Tryd.func13, Tryd.ntmps13
    go_wp2
    go_ret
    exact ⟨rfl, Below.refl _ _⟩
  by_cases h2 : (2147483647 : Int) < (m : Int)
  · go_enter Tryd.func13, Tryd.ntmps13
    go_wp2
    go_ret
    exact ⟨rfl, Below.refl _ _⟩
  by_cases h3 : (500 : Int) < (n : Int) + (m : Int)
  · go_enter Tryd.func13, Tryd.ntmps13
    go_wp2
    go_ret
    exact ⟨rfl, Below.refl _ _⟩
  have h3b : decide ((500 : Int) < (n : Int) + (m : Int)) = false := decide_eq_false h3
  have HV := Lib.hid (specValid_any A n c xs w HX.out hcap (by omega))
  have HW := Lib.hid (fun w2 h => specValid_any B m d ys w2 h hcap' (by omega))
  cases hvx : valid xs with
  | false =>
    rw [hvx] at HV
    clear hvx HW
    go_enter Tryd.func13, Tryd.ntmps13
    go_wp2_with fail
    refine HV.out.mono ?_
    rintro e w1 ⟨rfl, b1⟩
    go_wp2
    go_ret
    exact ⟨rfl, b1⟩
  | true =>
  cases hvy : valid ys with
  | false =>
    rw [hvx] at HV
    rw [hvy] at HW
    clear hvx hvy
    go_enter Tryd.func13, Tryd.ntmps13
    go_wp2_with fail
    refine HV.out.mono ?_
    rintro e w1 ⟨rfl, b1⟩
    go_wp2_with fail
    refine (HW.out w1 (HY.out.upto b1)).mono ?_
    rintro e w2 ⟨rfl, b2⟩
    go_wp2
    go_ret
    exact ⟨rfl, b1.trans (b2.mono b1.size)⟩
  | true =>
    rw [hvx] at HV
    rw [hvy] at HW
    have hj := joined xs.length xs ys (Nat.le_refl _) HX.out.fit.bytes hvx
    rw [hvy] at hj
    have hcnt : (numbers (xs ++ ys)).length = (numbers xs).length + (numbers ys).length := by rw [hj.2, List.length_append]
    have hlx := HX.out.len
    have hly := HY.out.len
    have hlen : (xs ++ ys).length = n + m := by rw [List.length_append, hlx, hly]
    have hnx := numbers_len xs.length xs (Nat.le_refl _)
    have hny := numbers_len ys.length ys (Nat.le_refl _)
    have HFZ : Hid (FitL .u8 (xs ++ ys)) := HX.out.fit.app HY.out.fit
    have HLZ := Lib.hid hlen
    have HA := Lib.hid (fun w1 T1 A c h => implValid_any A (n + m) c (xs ++ ys) w1 T1 h (by omega))
    rw [hj.1] at HA
    have HC := Lib.hid (fun w1 A c h => implCount_any A (n + m) c (xs ++ ys) w1 h (by omega))
    have HC1 := Lib.hid (fun w1 h => implCount_any A n c xs w1 h (by omega))
    have HC2 := Lib.hid (fun w1 h => implCount_any B m d ys w1 h (by omega))
    have hq1 : (numbers xs).length ≤ 500 := by omega
    have hq2 : (numbers ys).length ≤ 500 := by omega
    have hqq : ((numbers xs).length : Int) + ((numbers ys).length : Int) = ((numbers (xs ++ ys)).length : Int) := by omega
    clear hvx hvy hj hcnt hlen hnx hny
    generalize (numbers (xs ++ ys)).length = q0 at *
    generalize (numbers xs).length = q1 at *
    generalize (numbers ys).length = q2 at *
    go_enter Tryd.func13, Tryd.ntmps13
    go_wp2_with fail
    refine HV.out.mono ?_
    rintro e w1 ⟨rfl, b1⟩
    go_wp2_with fail
    refine (HW.out w1 (HY.out.upto b1)).mono ?_
    rintro e w2 ⟨rfl, b2⟩
    have hb2 := b1.trans (b2.mono b1.size)
    have hs2 := hb2.size
    have IX := (HX.out.upto hb2).below (w' := w2.alloc (.cells #[] 5)) ((Below.refl _ _).alloc (Nat.le_refl _) _)
    go_wp2_with (at_builtin; refine wpList_append_O _ rfl (.tmp 30) (.tmp 31) 22 rfl w2.heap.size 5 i0 (.int .u8 0) 1 Tryd.underlying22 hi hz0 hz1 hz2 rfl .u8 _ [] rfl (OwnsL.lit0 w2 5 .u8) w2.heap.size A n c xs rfl IX (by unfold maxLen; simp; omega) (by simp; omega) (by simp) ?_)
    intro v1 w3 g1
    have ho3 : OwnsL w3 w2.heap.size 5 .u8 v1 xs := g1.own
    have b23 := ((Below.refl w2.heap.size w2).alloc (Nat.le_refl _) (.cells #[] 5)).trans (g1.below (OwnsL.lit0 w2 5 .u8) (Nat.le_refl _) (by simp))
    have hs23 := b23.size
    have IY := (HY.out.upto hb2).upto b23
    clear g1 IX
    go_wp2_with (at_builtin; refine wpList_append_O _ rfl (.tmp 32) (.tmp 33) 22 rfl w2.heap.size 5 i0 (.int .u8 0) 1 Tryd.underlying22 hi hz0 hz1 hz2 rfl .u8 _ xs rfl ho3 w3.heap.size B m d ys rfl IY (by unfold maxLen; omega) (by omega) (by omega) ?_)
    intro v2 w4 g2
    have ho4 : OwnsL w4 w2.heap.size 5 .u8 v2 (xs ++ ys) := g2.own
    have b24 := b23.trans (g2.below ho3 (Nat.le_refl _) hs23)
    have hb4 := hb2.trans (b24.mono hs2)
    clear g2 ho3 IY b23
    obtain ⟨A2, c2, hx2⟩ := ho4.form
    subst hx2
    have I2 := Lib.hid (OwnsL.isL ho4 HFZ.out)
    rw [HLZ.out] at I2 ⊢
    have IX4 := Lib.hid (HX.out.upto hb4)
    have IY4 := Lib.hid (HY.out.upto hb4)
    clear ho4
    generalize xs ++ ys = zs at *
    go_wp2_with fail
    refine (HA.out w4 (HT.out.keep hb4) A2 c2 I2.out).mono ?_
    rintro e w5 ⟨rfl, b5⟩
    have hb5 := hb4.trans (b5.mono hb4.size)
    go_wp2_with fail
    refine (HC.out w5 A2 c2 (I2.out.upto b5)).mono ?_
    rintro e w6 ⟨rfl, b6⟩
    have hb6 := hb5.trans (b6.mono hb5.size)
    go_wp2_with fail
    refine (HC1.out w6 (HX.out.upto hb6)).mono ?_
    rintro e w7 ⟨rfl, b7⟩
    have hb7 := hb6.trans (b7.mono hb6.size)
    go_wp2_with fail
    refine (HC2.out w7 (HY.out.upto hb7)).mono ?_
    rintro e w8 ⟨rfl, b8⟩
    go_wp2
    go_ret
    exact ⟨ret_bool (by simp), hb7.trans (b8.mono hb7.size)⟩

theorem valid_drop_end {l : List Int} {k : Nat} (h : l.length ≤ k) : valid (l.drop k) = true := by rw [List.drop_eq_nil_of_le h]; rfl

set_option maxHeartbeats 2000000 in
theorem fnWalk_walk (A : Option Addr) (n c : Nat) (xs : List Int) (w : World) (T : Tabs w) (h : IsL w w.heap.size .u8 A n xs) (hcap : n ≤ c) :
    Calls Tryd.prog 18 #[.slice A n c] w fun e w' => e = .returned (.bool true) ∧ Below w.heap.size w w' := by
  have H := Lib.hid h
  have HT := Lib.hid T
  have HL := Lib.hid h.len
  clear h T
  by_cases h1 : (2147483647 : Int) < (n : Int)
  · go_enter Tryd.func18, Tryd.ntmps18
    go_wp2
    go_ret
    exact ⟨rfl, Below.refl _ _⟩
  by_cases h2 : (500 : Int) < (n : Int)
  · go_enter Tryd.func18, Tryd.ntmps18
    go_wp2
    go_ret
    exact ⟨rfl, Below.refl _ _⟩
  have HC := Lib.hid (fun w1 h => implCount_any A n c xs w1 h (by omega))
  have HA := Lib.hid (fun w1 T1 h => implValid_any A n c xs w1 T1 h (by omega))
  go_enter Tryd.func18, Tryd.ntmps18
  go_wp2
  go_loopw [3, 4, 5] (fun x y b wr => ∃ (k m cnt : Nat) (v : Bool) (A' : Option Addr) (c' : Nat), k + m = n ∧ x = .int .i64 cnt ∧ y = .bool v ∧ b = .slice A' m c' ∧ m ≤ c' ∧ cnt ≤ k ∧ Hid (IsL w w.heap.size .u8 A' m (xs.drop k)) ∧
      Hid (cnt + (numbers (xs.drop k)).length = (numbers xs).length) ∧ Hid ((v && valid (xs.drop k)) = valid xs) ∧ Below w.heap.size w wr)
    (fun _ _ b _ => match b with | .slice _ m _ => m | _ => 0)
  case atStart => exact ⟨0, n, 0, true, A, c, by omega, rfl, rfl, rfl, hcap, by omega, (by have := H.out; rw [List.drop_zero]; exact this), by simp [Hid], by simp [Hid], Below.refl _ _⟩
  case round =>
    obtain ⟨k, m, cnt, v, A', c', hkm, rfl, rfl, rfl, hmc, hck, HI, hinv, hval, hb⟩ := hrel
    have hsz := hb.size
    by_cases hm : 0 < m
    · obtain ⟨b, off, hA, hbb, _⟩ := HI.out.2.2 hm
      subst hA
      have hdl := HI.out.len
      have hfs := firstL_size (l := xs.drop k) (by omega)
      have HF := Lib.hid (implDecode_any (some ⟨b, off, none⟩) m c' (xs.drop k) wr (HT.out.keep hb) ((HI.out.below hb).more hb.size) (by omega))
      have hkl : k < xs.length := by have := HL.out; omega
      have HN : Hid (cnt + 1 + (numbers (xs.drop (k + (firstL (xs.drop k)).2))).length = (numbers xs).length) := by
        have h := hinv.out
        rw [numbers_cons (l := xs.drop k) (by omega), List.drop_drop, List.length_cons] at h
        show cnt + 1 + (numbers (xs.drop (k + (firstL (xs.drop k)).2))).length = (numbers xs).length
        omega
      have HY := Lib.hid (fun hv => valid_next (l := xs) hkl hv)
      have HS := Lib.hid (fun hv => valid_stop (l := xs) hkl hv)
      have HD := Lib.hid (fun z => @IsL.drop w w.heap.size .u8 m (xs.drop k) b off z HI.out)
      clear hinv hkl
      generalize hq : (firstL (xs.drop k)).1 = r at *
      generalize hz : (firstL (xs.drop k)).2 = z at *
      have hzm : z ≤ m := by omega
      have hz1' : 1 ≤ z := hfs.1
      have hz4 : z ≤ 4 := hfs.2.2
      have hz1z : ¬ (z : Int) < 1 := by omega
      have hzmz : ¬ (m : Int) < (z : Int) := by omega
      have HI2 := Lib.hid (HD.out z hzm)
      have HNO := Lib.hid (fun A => IsL.none_ w w.heap.size .u8 A (n := m - z) (xs := (xs.drop k).drop z) HI2.out.len)
      clear hq hz hfs hdl HD HI
      have hpos : (0 : Int) < (m : Int) := by omega
      cases v with
      | false =>
        have HV2 : Hid ((false && valid (xs.drop (k + z))) = valid xs) := by
          have h := hval.out
          rw [Bool.false_and] at h ⊢
          exact h
        clear hval HY HS
        by_cases hcz : c' = z
        · obtain rfl : m = z := by omega
          subst hcz
          go_wp2_with fail
          refine HF.out.mono ?_
          rintro e w1 ⟨rfl, b1⟩
          have hb1 := hb.trans (b1.mono hsz)
          go_wp2
          go_roundw
          case rel => exact ⟨k + c', c' - c', cnt + 1, false, _, 0, by omega, by go_num, rfl, by rw [Nat.sub_self], by omega, by omega, (by rw [← List.drop_drop]; exact HNO.out _ (Nat.sub_self _)), HN.out, HV2.out, hb1⟩
          case measure => simp; omega
        · have hzc : z ≤ c' := by omega
          go_wp2_with fail
          refine HF.out.mono ?_
          rintro e w1 ⟨rfl, b1⟩
          have hb1 := hb.trans (b1.mono hsz)
          go_wp2
          go_roundw
          case rel => exact ⟨k + z, m - z, cnt + 1, false, _, c' - z, by omega, by go_num, rfl, rfl, by omega, by omega, (by rw [← List.drop_drop]; exact HI2.out), HN.out, HV2.out, hb1⟩
          case measure => simp; omega
      | true =>
        have hval' : valid (xs.drop k) = valid xs := by have h := hval.out; rwa [Bool.true_and] at h
        by_cases hr : r = 65533
        · by_cases hz1 : z = 1
          · have HV2 : Hid ((false && valid (xs.drop (k + z))) = valid xs) := by
              show (false && valid (xs.drop (k + z))) = valid xs
              rw [Bool.false_and]; exact (HS.out hval' ⟨hr, hz1⟩).symm
            have hz2 : ¬ (1 : Int) < (z : Int) := by omega
            have hz2b : decide ((1 : Int) < (z : Int)) = false := decide_eq_false hz2
            clear hval hval' HY HS hz1
            subst hr
            by_cases hcz : c' = z
            · obtain rfl : m = z := by omega
              subst hcz
              go_wp2_with fail
              refine HF.out.mono ?_
              rintro e w1 ⟨rfl, b1⟩
              have hb1 := hb.trans (b1.mono hsz)
              go_wp2
              go_roundw
              case rel => exact ⟨k + c', c' - c', cnt + 1, false, _, 0, by omega, by go_num, rfl, by rw [Nat.sub_self], by omega, by omega, (by rw [← List.drop_drop]; exact HNO.out _ (Nat.sub_self _)), HN.out, HV2.out, hb1⟩
              case measure => simp; omega
            · have hzc : z ≤ c' := by omega
              go_wp2_with fail
              refine HF.out.mono ?_
              rintro e w1 ⟨rfl, b1⟩
              have hb1 := hb.trans (b1.mono hsz)
              go_wp2
              go_roundw
              case rel => exact ⟨k + z, m - z, cnt + 1, false, _, c' - z, by omega, by go_num, rfl, rfl, by omega, by omega, (by rw [← List.drop_drop]; exact HI2.out), HN.out, HV2.out, hb1⟩
              case measure => simp; omega
          · have HV2 : Hid ((true && valid (xs.drop (k + z))) = valid xs) := by
              show (true && valid (xs.drop (k + z))) = valid xs
              rw [Bool.true_and]; exact HY.out hval' (fun h => hz1 h.2)
            have hz2 : (1 : Int) < (z : Int) := by omega
            clear hval hval' HY HS hz1
            subst hr
            by_cases hcz : c' = z
            · obtain rfl : m = z := by omega
              subst hcz
              go_wp2_with fail
              refine HF.out.mono ?_
              rintro e w1 ⟨rfl, b1⟩
              have hb1 := hb.trans (b1.mono hsz)
              go_wp2
              go_roundw
              case rel => exact ⟨k + c', c' - c', cnt + 1, true, _, 0, by omega, by go_num, rfl, by rw [Nat.sub_self], by omega, by omega, (by rw [← List.drop_drop]; exact HNO.out _ (Nat.sub_self _)), HN.out, HV2.out, hb1⟩
              case measure => simp; omega
            · have hzc : z ≤ c' := by omega
              go_wp2_with fail
              refine HF.out.mono ?_
              rintro e w1 ⟨rfl, b1⟩
              have hb1 := hb.trans (b1.mono hsz)
              go_wp2
              go_roundw
              case rel => exact ⟨k + z, m - z, cnt + 1, true, _, c' - z, by omega, by go_num, rfl, rfl, by omega, by omega, (by rw [← List.drop_drop]; exact HI2.out), HN.out, HV2.out, hb1⟩
              case measure => simp; omega
        · have HV2 : Hid ((true && valid (xs.drop (k + z))) = valid xs) := by
            show (true && valid (xs.drop (k + z))) = valid xs
            rw [Bool.true_and]; exact HY.out hval' (fun h => hr h.1)
          clear hval hval' HY HS
          by_cases hcz : c' = z
          · obtain rfl : m = z := by omega
            subst hcz
            go_wp2_with fail
            refine HF.out.mono ?_
            rintro e w1 ⟨rfl, b1⟩
            have hb1 := hb.trans (b1.mono hsz)
            go_wp2
            go_roundw
            case rel => exact ⟨k + c', c' - c', cnt + 1, true, _, 0, by omega, by go_num, rfl, by rw [Nat.sub_self], by omega, by omega, (by rw [← List.drop_drop]; exact HNO.out _ (Nat.sub_self _)), HN.out, HV2.out, hb1⟩
            case measure => simp; omega
          · have hzc : z ≤ c' := by omega
            go_wp2_with fail
            refine HF.out.mono ?_
            rintro e w1 ⟨rfl, b1⟩
            have hb1 := hb.trans (b1.mono hsz)
            go_wp2
            go_roundw
            case rel => exact ⟨k + z, m - z, cnt + 1, true, _, c' - z, by omega, by go_num, rfl, rfl, by omega, by omega, (by rw [← List.drop_drop]; exact HI2.out), HN.out, HV2.out, hb1⟩
            case measure => simp; omega
    · obtain rfl : m = 0 := by omega
      have hN : cnt = (numbers xs).length := by
        have h := hinv.out
        rw [List.drop_eq_nil_of_le (by have := HL.out; omega)] at h
        exact h
      have hV : v = valid xs := by
        have h := hval.out
        rw [valid_drop_end (by have := HL.out; omega), Bool.and_true] at h
        exact h
      rw [← hN] at HC
      rw [← hV] at HA
      clear hN hV hinv hval HI
      go_wp2_with fail
      refine (HC.out wr (H.out.upto hb)).mono ?_
      rintro e w1 ⟨rfl, b1⟩
      have hb1 := hb.trans (b1.mono hsz)
      go_wp2_with fail
      refine (HA.out w1 (HT.out.keep hb1) (H.out.upto hb1)).mono ?_
      rintro e w2 ⟨rfl, b2⟩
      go_wp2
      go_ret
      exact ⟨ret_bool (by simp), hb1.trans (b2.mono hb1.size)⟩

set_option maxHeartbeats 2000000 in
theorem fnWalkBack_walk (A : Option Addr) (n c : Nat) (xs : List Int) (w : World) (T : Tabs w) (h : IsL w w.heap.size .u8 A n xs) (hcap : n ≤ c) :
    Calls Tryd.prog 3 #[.slice A n c] w fun e w' => e = .returned (.bool true) ∧ Below w.heap.size w w' := by
  have H := Lib.hid h
  have HT := Lib.hid T
  have HL := Lib.hid h.len
  have HB := Lib.hid h.fit.bytes
  clear h T
  by_cases h1 : (2147483647 : Int) < (n : Int)
  · go_enter Tryd.func3, Tryd.ntmps3
    go_wp2
    go_ret
    exact ⟨rfl, Below.refl _ _⟩
  by_cases h2 : (500 : Int) < (n : Int)
  · go_enter Tryd.func3, Tryd.ntmps3
    go_wp2
    go_ret
    exact ⟨rfl, Below.refl _ _⟩
  have HV := Lib.hid (specValid_any A n c xs w H.out hcap (by omega))
  cases hvx : valid xs with
  | false =>
    rw [hvx] at HV
    clear hvx
    go_enter Tryd.func3, Tryd.ntmps3
    go_wp2_with fail
    refine HV.out.mono ?_
    rintro e w1 ⟨rfl, b1⟩
    go_wp2
    go_ret
    exact ⟨rfl, b1⟩
  | true =>
    rw [hvx] at HV
    have HVX := Lib.hid hvx
    have HN := Lib.hid (fun w1 h => numbers_any A n c xs w1 h hcap (by omega))
    have HA := Lib.hid (fun w1 T1 h => implValid_any A n c xs w1 T1 h (by omega))
    rw [hvx] at HA
    have HFN : Hid (FitL .i32 (numbers xs)) := numbers_fit xs.length xs (Nat.le_refl _) HB.out
    have hnl := numbers_len xs.length xs (Nat.le_refl _)
    rw [HL.out] at hnl
    clear hvx
    go_enter Tryd.func3, Tryd.ntmps3
    go_wp2_with fail
    refine HV.out.mono ?_
    rintro e w1 ⟨rfl, b1⟩
    go_wp2_with fail
    refine (HN.out w1 (H.out.upto b1)).mono ?_
    rintro e w2 ⟨A1, c1, v2, rfl, o1, b2⟩
    have hb2 := b1.trans (b2.mono b1.size)
    have IN := Lib.hid (o1.isL HFN.out)
    have hcap1 := o1.cap
    have hs2 := hb2.size
    clear o1
    go_wp2
    go_loopw [3, 5] (fun x b wr => ∃ (cnt m : Nat), x = .slice A1 cnt c1 ∧ b = .slice A m c ∧ cnt ≤ (numbers xs).length ∧ m ≤ n ∧ Hid (numbers (xs.take m) = (numbers xs).take cnt) ∧ Hid (valid (xs.take m) = true) ∧ Below w2.heap.size w2 wr)
      (fun _ b _ => match b with | .slice _ m _ => m | _ => 0)
    case atStart => exact ⟨(numbers xs).length, n, rfl, rfl, Nat.le_refl _, Nat.le_refl _, (by show numbers (xs.take n) = (numbers xs).take (numbers xs).length; rw [List.take_length, List.take_of_length_le (by have := HL.out; omega)]), (by show valid (xs.take n) = true; rw [List.take_of_length_le (by have := HL.out; omega)]; exact HVX.out), Below.refl _ _⟩
    case round =>
      obtain ⟨cnt, m, rfl, rfl, hcn, hmn, hnum, hval, hb⟩ := hrel
      have hbw := hb2.trans (hb.mono hs2)
      have hsz := hbw.size
      by_cases hm : 0 < m
      · obtain ⟨b, off, hA, hbb, _⟩ := H.out.2.2 (by omega)
        subst hA
        obtain ⟨r, z, elast, z1, z4, zm, hv2, hn2⟩ := back_round HB.out (by have := HL.out; omega) hm hval.out
        have hnn := hnum.out
        rw [hn2] at hnn
        have hlt : (numbers (xs.take (m - z))).length + 1 = cnt := by
          have := congrArg List.length hnn
          rw [List.length_append, List.length_take] at this
          simp only [List.length_cons, List.length_nil] at this
          omega
        obtain ⟨t, rfl⟩ : ∃ t, cnt = t + 1 := ⟨(numbers (xs.take (m - z))).length, hlt.symm⟩
        have HN2 : Hid (numbers (xs.take (m - z)) = (numbers xs).take t) := by
          have e1 : (numbers (xs.take (m - z)) ++ [r]).take t = numbers (xs.take (m - z)) := List.take_left' (by omega)
          rw [hnn, List.take_take, Nat.min_eq_left (by omega)] at e1
          exact e1.symm
        have er : (numbers xs)[t]? = some r := by
          have e1 : (numbers (xs.take (m - z)) ++ [r])[t]? = some r := by
            rw [List.getElem?_append_right (by omega), show t - (numbers (xs.take (m - z))).length = 0 by omega]; rfl
          rw [hnn, List.getElem?_take_of_lt (by omega)] at e1
          exact e1
        obtain ⟨g3, off3, x3, hA3, hg3, hx3, _, hcell⟩ := ((IN.out.below hb).more hb.size).at_ (j := t) (by omega)
        rw [er] at hx3
        obtain rfl := Option.some.inj hx3
        subst hA3
        have HF := Lib.hid (implLast_any (some ⟨b, off, none⟩) m c (xs.take m) wr (HT.out.keep hbw) (((H.out.below hbw).more hsz).take hmn) (by omega))
        rw [elast] at HF
        have HV2 := Lib.hid hv2
        obtain ⟨u, rfl⟩ : ∃ u, m = u + z := ⟨m - z, by omega⟩
        rw [Nat.add_sub_cancel] at HN2 HV2
        clear hnn hn2 hv2 hlt er hx3 elast hnum hval
        have hz1z : ¬ (z : Int) < 1 := by omega
        have hpos : (0 : Int) < ((u + z : Nat) : Int) := by omega
        have hzmz : ¬ ((u + z : Nat) : Int) < (z : Int) := by omega
        have hczz : (u : Int) ≤ (c : Int) := by omega
        have htc : (t : Int) ≤ (c1 : Int) := by omega
        have ht0 : ¬ ((t + 1 : Nat) : Int) = 0 := by omega
        have ht1 : (t : Int) < ((t + 1 : Nat) : Int) := by omega
        have fA : decide ((z : Int) < 1) = false := decide_eq_false hz1z
        have fB : decide ((u : Int) + (z : Int) < (z : Int)) = false := decide_eq_false (by omega)
        have fC : ((t : Int) + 1 == 0) = false := by simp; omega
        go_wp2_with fail
        refine HF.out.mono ?_
        rintro e w3 ⟨rfl, b3⟩
        have hb3 := hb.trans (b3.mono hb.size)
        have hcell3 := (b3.cell (p := ⟨g3, off3 + t, none⟩) hg3).trans hcell
        clear hcell
        go_wp2
        go_big_quiet (fail)
        go_wp2
        go_roundw
        case rel => exact ⟨t, u, rfl, rfl, by omega, by omega, HN2.out, HV2.out, below_drewN hb3 _⟩
        case measure => simp; omega
      · obtain rfl : m = 0 := by omega
        have hc0 : cnt = 0 := by
          have h := hnum.out
          rw [List.take_zero, numbers_nil] at h
          have := congrArg List.length h
          rw [List.length_take, List.length_nil] at this
          omega
        subst hc0
        clear hnum hval
        go_wp2_with fail
        refine (HA.out wr (HT.out.keep hbw) (H.out.upto hbw)).mono ?_
        rintro e w3 ⟨rfl, b3⟩
        go_wp2
        go_ret
        exact ⟨rfl, hbw.trans (b3.mono hsz)⟩

end Go.Proofs.YtincmkjffohekaaDoor
