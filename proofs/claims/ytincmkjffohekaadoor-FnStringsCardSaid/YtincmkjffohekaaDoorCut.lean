/-
  Proved here: contracts of spec.Cut and of spec.Valid. Condition: the length is at most the capacity and at most 2^31.
-/
import Derived.Test.YtincmkjffohekaaDoorVpl
import Derived.Test.YtincmkjffohekaaDoorNum
namespace Go.Proofs.YtincmkjffohekaaDoor
open Go.RowKit

theorem cut_zero (A : Option Addr) (c : Nat) (w : World) :
    Calls Tryd.prog 28 #[.slice A 0 c] w fun e w' => e = .returned (.bool false) ∧ Below w.heap.size w w' := by
  go_enter Tryd.func28, Tryd.ntmps28
  go_wp2
  go_ret
  exact ⟨rfl, Below.refl _ _⟩
theorem cut_great (A : Option Addr) (n c : Nat) (w : World) (h : 4 ≤ n) (hn : n ≤ 2147483648) :
    Calls Tryd.prog 28 #[.slice A n c] w fun e w' => e = .returned (.bool false) ∧ Below w.heap.size w w' := by
  have h0 : ¬ (n : Int) = 0 := by omega
  have h4 : ¬ (n : Int) + 1 ≤ 4 := by omega
  go_enter Tryd.func28, Tryd.ntmps28
  go_wp2
  go_loop [3] (fun i => i = .int .i64 ((n : Int) + 1)) (fun _ => 0)
  case atStart => go_num
  case round =>
    subst hrel
    go_wp2
    go_ret
    exact ⟨rfl, Below.refl _ _⟩
theorem fit_more {xs : List Int} (h : FitL .u8 xs) (v : Int) (hv : 0 ≤ v ∧ v ≤ 255) (j : Nat) : FitL .u8 (xs ++ v :: List.replicate j 128) := by
  refine h.app fun x hx => ?_
  rcases List.mem_cons.1 hx with rfl | hx
  · exact wf_u8 hv
  · rw [(List.mem_replicate.1 hx).2]; exact wf_u8 (by omega)
theorem rep_more (xs : List Int) (v : Int) (j : Nat) : (xs ++ v :: List.replicate j 128) ++ [128] = xs ++ v :: List.replicate (j + 1) 128 := by
  rw [List.append_assoc, List.cons_append, List.replicate_succ']

set_option maxHeartbeats 4000000 in
theorem cut_short (bl off n c : Nat) (xs : List Int) (w : World) (h : IsL w w.heap.size .u8 (some ⟨bl, off, none⟩) n xs) (h1 : 1 ≤ n) (h3 : n ≤ 3) :
    Calls Tryd.prog 28 #[.slice (some ⟨bl, off, none⟩) n c] w fun e w' => e = .returned (.bool (cutL xs)) ∧ Below w.heap.size w w' := by
  obtain ⟨i0, hi, hz0, hz1, hz2⟩ := info_parts info8
  have H := Lib.hid h
  have HL := Lib.hid h.len
  have HF := Lib.hid h.fit
  have hn0 : ((n : Int) == 0) = false := by simp; omega
  clear h
  go_enter Tryd.func28, Tryd.ntmps28
  go_wp2
  go_loopw [3] (fun i wr => ∃ k : Nat, n + 1 ≤ k ∧ k ≤ 5 ∧ i = .int .i64 k ∧ Hid (∀ (m : Nat) (v : Int), n + 1 ≤ m → m < k → 128 ≤ v → v ≤ 191 → tell (xs ++ v :: List.replicate (m - n - 1) 128) = none) ∧ Below w.heap.size w wr) (fun i _ => 5 - (intOf i).toNat)
  case atStart => exact ⟨n + 1, by omega, by omega, by go_num, (fun m v a b => by omega), Below.refl _ _⟩
  case round =>
    obtain ⟨k, hk1, hk5, rfl, hno, hb⟩ := hrel
    by_cases h4 : k ≤ 4
    · have hk4 : decide ((k : Int) ≤ 4) = true := by simp; omega
      go_wp2
      rename World => w1
      go_loopw [4] (fun i wr => ∃ v : Nat, 128 ≤ v ∧ v ≤ 192 ∧ i = .int .i64 v ∧ Hid (∀ u : Int, 128 ≤ u → u < v → tell (xs ++ u :: List.replicate (k - n - 1) 128) = none) ∧ Below w.heap.size w wr) (fun i _ => 192 - (intOf i).toNat)
      case atStart => exact ⟨128, by omega, by omega, rfl, (fun u a b => by omega), hb⟩
      case round =>
        obtain ⟨v, hv1, hv2, rfl, hvo, hb2⟩ := hrel
        rename World => w2
        have hsz := hb2.size
        by_cases hv : v ≤ 191
        · have hwr : IntKind.u8.wrap (v : Int) = v := by rw [IntKind.wrap_u8]; omega
          have hl0 := HL.out
          have hI := ((H.out.below hb2).more hsz).below (w' := w2.alloc (.cells #[] 5)) ((Below.refl _ _).alloc (Nat.le_refl _) _)
          go_wp2_with (at_builtin; refine wpList_append_O _ rfl (.tmp 22) (.tmp 23) 22 rfl w2.heap.size 5 i0 (.int .u8 0) 1 Tryd.underlying22 hi hz0 hz1 hz2 rfl .u8 _ [] rfl (OwnsL.lit0 w2 5 .u8) w2.heap.size (some ⟨bl, off, none⟩) n c xs rfl hI (by unfold maxLen; simp; omega) (by simp; omega) (by simp) ?_)
          intro v1 w3 g1
          have ho3 : OwnsL w3 w2.heap.size 5 .u8 v1 xs := g1.own
          have b23 := ((Below.refl w2.heap.size w2).alloc (Nat.le_refl _) (.cells #[] 5)).trans (g1.below (OwnsL.lit0 w2 5 .u8) (Nat.le_refl _) (by simp))
          have hs23 := b23.size
          have hb3 := hb2.trans (b23.mono hsz)
          have hsz3 := hb3.size
          clear g1 hI
          go_wp2_with (at_builtin; refine wpList_append_O _ rfl (.tmp 24) (.tmp 27) 22 rfl w2.heap.size 5 i0 (.int .u8 0) 1 Tryd.underlying22 hi hz0 hz1 hz2 rfl .u8 _ xs rfl (ho3.alloc _) (w3.heap.size + 1) _ 1 1 [(v : Int)] rfl (IsL.new1 w3 5 (v : Int) (wf_u8 (by omega))) (by unfold maxLen; omega) (by omega) (by simp; omega) ?_)
          intro v2 w4 g2
          have ho4 : OwnsL w4 w2.heap.size 5 .u8 v2 (xs ++ (v : Int) :: List.replicate 0 128) := g2.own
          have b24 := b23.trans (g2.alloc_left.below ho3 (Nat.le_refl _) hs23)
          have hs24 := b24.size
          clear g2 ho3 b23 hb3 hsz3 hs23
          go_wp2
          go_loopw [5] (fun x wr => ∃ j : Nat, n + 1 + j ≤ k ∧ OwnsL wr w2.heap.size 5 .u8 x (xs ++ (v : Int) :: List.replicate j 128) ∧ Below w2.heap.size w2 wr) (fun x _ => match x with | .slice _ m _ => k - m | _ => 0)
          case atStart => exact ⟨0, by omega, ho4, b24⟩
          case round =>
            obtain ⟨j, hj, ho, hbj⟩ := hrel
            rename World => w5
            have hlen : (xs ++ (v : Int) :: List.replicate j 128).length = n + 1 + j := by rw [List.length_append, List.length_cons, List.length_replicate]; omega
            have hfit := fit_more HF.out (v : Int) (by omega) j
            have hs5 := hbj.size
            obtain ⟨A1, c1, hx⟩ := ho.form
            rw [hlen] at hx
            subst hx
            have hI : IsL w5 w5.heap.size .u8 A1 (n + 1 + j) (xs ++ (v : Int) :: List.replicate j 128) := by rw [← hlen]; exact OwnsL.isL (e := 5) (base := w2.heap.size) (by rw [hlen]; exact ho) hfit
            by_cases hk : n + 1 + j < k
            · have hkz : ((n + 1 + j : Nat) : Int) < (k : Int) := by omega
              have HM := Lib.hid (rep_more xs v j)
              clear hI hfit hvo hno
              generalize xs ++ (v : Int) :: List.replicate j 128 = ys at *
              go_wp2_with (at_builtin; refine wpList_append_O _ rfl (.tmp 33) (.tmp 34) 22 rfl w2.heap.size 5 i0 (.int .u8 0) 1 Tryd.underlying22 hi hz0 hz1 hz2 rfl .u8 _ ys rfl (ho.alloc _) (w5.heap.size + 1) _ 1 1 [(128 : Int)] rfl (IsL.new1 w5 5 (128 : Int) (wf_u8 (by omega))) (by unfold maxLen; omega) (by omega) (by simp; omega) ?_)
              intro v3 w6 g3
              have ho6 : OwnsL w6 w2.heap.size 5 .u8 v3 (xs ++ (v : Int) :: List.replicate (j + 1) 128) := by rw [← HM.out]; exact g3.own
              have hb6 := hbj.trans (g3.alloc_left.below ho (Nat.le_refl _) hs5)
              clear g3 ho
              obtain ⟨A3, c3, hx3⟩ := ho6.form
              rw [show (xs ++ (v : Int) :: List.replicate (j + 1) 128).length = n + 1 + (j + 1) by rw [List.length_append, List.length_cons, List.length_replicate]; omega] at hx3
              subst hx3
              go_wp2
              go_roundw
              case rel => exact ⟨j + 1, by omega, ho6, hb6⟩
              case measure => simp; omega
            · have hkz : ¬ ((n + 1 + j : Nat) : Int) < (k : Int) := by omega
              have HT := Lib.hid (tells_any A1 (n + 1 + j) c1 _ w5 hI (by omega) (by omega))
              have HJ : Hid (j = k - n - 1) := by show j = k - n - 1; omega
              have hb5 := hb2.trans (hbj.mono hsz)
              have hsz5 := hb5.size
              clear hI hfit ho ho4 b24 hs24 hbj hb2 hb hlen
              by_cases hs : (tell (xs ++ (v : Int) :: List.replicate j 128)).isSome = true
              · have HR : Hid (cutL xs = true) := cut_of (n := k) (v := v) (by omega) (by omega) h4 (by rw [hl0, ← HJ.out]; exact hs)
                generalize xs ++ (v : Int) :: List.replicate j 128 = ys at *
                clear hvo hno
                go_wp2_with fail
                refine HT.out.mono ?_
                rintro e w6 ⟨rfl, b6⟩
                rw [hs]
                have hb6 := hb5.trans (b6.mono hsz5)
                clear hs HT
                generalize raw ys = q at *
                go_wp2
                go_ret
                exact ⟨ret_bool HR.out.symm, hb6⟩
              · have HN : Hid (∀ u : Int, 128 ≤ u → u < ((v + 1 : Nat) : Int) → tell (xs ++ u :: List.replicate (k - n - 1) 128) = none) := by
                  intro u h1 h2
                  by_cases hu : u = v
                  · rw [hu, ← HJ.out]; exact none_of hs
                  · exact hvo.out u h1 (by omega)
                have hs' : (tell (xs ++ (v : Int) :: List.replicate j 128)).isSome = false := by simpa using hs
                generalize xs ++ (v : Int) :: List.replicate j 128 = ys at *
                clear hvo hno hs
                go_wp2_with fail
                refine HT.out.mono ?_
                rintro e w6 ⟨rfl, b6⟩
                rw [hs']
                have hb6 := hb5.trans (b6.mono hsz5)
                clear hs' HT
                generalize raw ys = q at *
                go_wp2
                go_roundw
                case rel => exact ⟨v + 1, by omega, by omega, by go_num, HN.out, hb6⟩
                case measure => simp [intOf]; omega
        · obtain rfl : v = 192 := by omega
          have HN : Hid (∀ (m : Nat) (v : Int), n + 1 ≤ m → m < k + 1 → 128 ≤ v → v ≤ 191 → tell (xs ++ v :: List.replicate (m - n - 1) 128) = none) := by
            intro m u a1 a2 a3 a4
            by_cases hm : m = k
            · subst hm; exact hvo.out u a3 (by omega)
            · exact hno.out m u a1 (by omega) a3 a4
          clear hno hvo
          go_wp2
          go_roundw
          case rel => exact ⟨k + 1, by omega, by omega, by go_num, HN.out, hb2⟩
          case measure => simp [intOf]; omega
    · have HR : Hid (cutL xs = false) := cut_none fun m v a b c d => by
        rw [HL.out] at a ⊢
        exact hno.out m v a (by omega) c d
      clear hno
      go_wp2
      go_ret
      exact ⟨ret_bool HR.out.symm, hb⟩

theorem cut_any (A : Option Addr) (n c : Nat) (xs : List Int) (w : World) (h : IsL w w.heap.size .u8 A n xs) (hn : n ≤ 2147483648) :
    Calls Tryd.prog 28 #[.slice A n c] w fun e w' => e = .returned (.bool (cutL xs)) ∧ Below w.heap.size w w' := by
  have hl := h.len
  by_cases h0 : n = 0
  · subst h0
    obtain rfl : xs = [] := List.eq_nil_of_length_eq_zero hl
    exact cut_zero A c w
  · by_cases h4 : 4 ≤ n
    · rw [cut_long (by omega)]
      exact cut_great A n c w h4 hn
    · obtain ⟨bl, off, rfl, _, _⟩ := h.2.2 (by omega)
      exact cut_short bl off n c xs w h (by omega) (by omega)

theorem valid_next {l : List Int} {k : Nat} (hk : k < l.length) (hv : valid (l.drop k) = valid l) (h : ¬ ((firstL (l.drop k)).1 = 65533 ∧ (firstL (l.drop k)).2 = 1)) : valid (l.drop (k + (firstL (l.drop k)).2)) = valid l := by
  rw [← hv, valid_cons (l := l.drop k) (by rw [List.length_drop]; omega), if_neg h, List.drop_drop]
theorem valid_stop {l : List Int} {k : Nat} (hk : k < l.length) (hv : valid (l.drop k) = valid l) (h : (firstL (l.drop k)).1 = 65533 ∧ (firstL (l.drop k)).2 = 1) : valid l = false := by
  rw [← hv, valid_cons (l := l.drop k) (by rw [List.length_drop]; omega), if_pos h]

set_option maxHeartbeats 1000000 in
theorem specValid_any (A : Option Addr) (n c : Nat) (xs : List Int) (w : World) (h : IsL w w.heap.size .u8 A n xs) (hcap : n ≤ c) (hn : n ≤ 2147483648) :
    Calls Tryd.prog 19 #[.slice A n c] w fun e w' => e = .returned (.bool (valid xs)) ∧ Below w.heap.size w w' := by
  have HL := Lib.hid h.len
  go_enter Tryd.func19, Tryd.ntmps19
  go_wp2
  go_loopw [0] (fun b wr => ∃ (k m : Nat) (A' : Option Addr) (c' : Nat), k + m = n ∧ b = .slice A' m c' ∧ m ≤ c' ∧ IsL w w.heap.size .u8 A' m (xs.drop k) ∧ Hid (valid (xs.drop k) = valid xs) ∧ Below w.heap.size w wr)
    (fun b _ => match b with | .slice _ m _ => m | _ => 0)
  case atStart => exact ⟨0, n, A, c, by omega, rfl, hcap, by simpa using h, by simp [Hid], Below.refl _ _⟩
  case round =>
    obtain ⟨k, m, A', c', hkm, rfl, hmc, hI, hinv, hb⟩ := hrel
    have HI := Lib.hid hI
    have hsz := hb.size
    by_cases hm : 0 < m
    · obtain ⟨b, off, hA, hbb, _⟩ := hI.2.2 hm
      subst hA
      have hdl := hI.len
      have hfs := firstL_size (l := xs.drop k) (by omega)
      have hkl : k < xs.length := by have := HL.out; omega
      have HF := Lib.hid (first_any (some ⟨b, off, none⟩) m c' (xs.drop k) wr ((HI.out.below hb).more hb.size) hmc (by omega))
      have HY := Lib.hid (valid_next hkl hinv.out)
      have HS := Lib.hid (valid_stop hkl hinv.out)
      have HD := Lib.hid (fun z => @IsL.drop w w.heap.size .u8 m (xs.drop k) b off z hI)
      clear hinv hI hkl
      generalize hq : (firstL (xs.drop k)).1 = r at *
      generalize hz : (firstL (xs.drop k)).2 = z at *
      have hzm : z ≤ m := by omega
      have hz1' : 1 ≤ z := hfs.1
      have hz4 : z ≤ 4 := hfs.2.2
      clear hq hz hfs hdl HI
      have hpos : (0 : Int) < (m : Int) := by omega
      by_cases hbad : r = 65533 ∧ z = 1
      · have HR := Lib.hid (HS.out hbad)
        obtain ⟨rfl, rfl⟩ := hbad
        clear HY HS HD
        go_wp2_with fail
        refine HF.out.mono ?_
        rintro e w1 ⟨rfl, b1⟩
        go_wp2
        go_ret
        exact ⟨ret_bool HR.out.symm, hb.trans (b1.mono hsz)⟩
      · have HR := Lib.hid (HY.out hbad)
        have HK : Hid (k + z + (m - z) = n) := by show k + z + (m - z) = n; omega
        have hbad2 : r = 65533 → ¬ (z : Int) = 1 := fun h h2 => hbad ⟨h, by omega⟩
        have HI2 := Lib.hid (HD.out z hzm)
        have HN := Lib.hid (IsL.none_ w w.heap.size .u8 (some ⟨b, off, none⟩) (n := m - z) (xs := (xs.drop k).drop z) HI2.out.len)
        clear HY HS HD hkm
        by_cases hr : r = 65533
        · have hz2 := hbad2 hr
          subst hr
          clear hbad hbad2
          by_cases hcz : c' = z
          · obtain rfl : m = z := by omega
            subst hcz
            go_wp2_with fail
            refine HF.out.mono ?_
            rintro e w1 ⟨rfl, b1⟩
            have hb1 := hb.trans (b1.mono hsz)
            go_wp2
            go_roundw
            case rel => exact ⟨k + c', c' - c', _, 0, HK.out, by rw [Nat.sub_self], by omega, by rw [← List.drop_drop]; exact HN.out (Nat.sub_self _), HR.out, hb1⟩
            case measure => simp; omega
          · have hzc : z ≤ c' := by omega
            go_wp2_with fail
            refine HF.out.mono ?_
            rintro e w1 ⟨rfl, b1⟩
            have hb1 := hb.trans (b1.mono hsz)
            go_wp2
            go_roundw
            case rel => exact ⟨k + z, m - z, _, c' - z, HK.out, rfl, by omega, by rw [← List.drop_drop]; exact HI2.out, HR.out, hb1⟩
            case measure => simp; omega
        · clear hbad hbad2
          by_cases hcz : c' = z
          · obtain rfl : m = z := by omega
            subst hcz
            go_wp2_with fail
            refine HF.out.mono ?_
            rintro e w1 ⟨rfl, b1⟩
            have hb1 := hb.trans (b1.mono hsz)
            go_wp2
            go_roundw
            case rel => exact ⟨k + c', c' - c', _, 0, HK.out, by rw [Nat.sub_self], by omega, by rw [← List.drop_drop]; exact HN.out (Nat.sub_self _), HR.out, hb1⟩
            case measure => simp; omega
          · have hzc : z ≤ c' := by omega
            go_wp2_with fail
            refine HF.out.mono ?_
            rintro e w1 ⟨rfl, b1⟩
            have hb1 := hb.trans (b1.mono hsz)
            go_wp2
            go_roundw
            case rel => exact ⟨k + z, m - z, _, c' - z, HK.out, rfl, by omega, by rw [← List.drop_drop]; exact HI2.out, HR.out, hb1⟩
            case measure => simp; omega
    · obtain rfl : m = 0 := by omega
      have HR : Hid (valid xs = true) := by
        show valid xs = true
        rw [← hinv.out, List.drop_eq_nil_of_le (by have := HL.out; omega)]; rfl
      clear hinv hI
      go_wp2
      go_ret
      exact ⟨ret_bool HR.out.symm, hb⟩

end Go.Proofs.YtincmkjffohekaaDoor
