/-
  Proved here: contracts of goutf8's decoder of the last number of a string and of impl's: what they return is the number whose bytes stand last. Condition: the tables lie as their initialisers lay them; at most 2^31 bytes.
-/
import Derived.Test.YtincmkjffohekaaDoorLst
import Derived.Lib.ValidAsc
namespace Go.Proofs.YtincmkjffohekaaDoor
open Go.RowKit

theorem bsL_ext (s : ByteArray) (m : Nat) : bsL (s.extract m s.size) = (bsL s).drop m := by
  unfold bsL
  rw [Lib.ext_list, List.map_drop]
theorem slast_zero (s : ByteArray) (w : World) (h : s.size = 0) :
    Calls Tryd.prog 48 #[.string s] w fun e w' => e = .returned (.tuple #[.int .i32 65533, .int .i64 0]) ∧ Below w.heap.size w w' := by
  go_enter Tryd.func48, Tryd.ntmps48
  go_wp2
  go_ret2
  exact ⟨rfl, Below.refl _ _⟩

set_option maxHeartbeats 4000000 in
set_option maxRecDepth 100000 in
theorem slast_any (s : ByteArray) (w : World) (T : Tabs w) (hn : s.size ≤ 2147483648) :
    Calls Tryd.prog 48 #[.string s] w fun e w' => e = .returned (.tuple #[.int .i32 (lastL (bsL s)).1, .int .i64 ((lastL (bsL s)).2 : Int)]) ∧ Below w.heap.size w w' := by
  have hl := bsL_len s
  have HL := Lib.hid hl
  rcases Nat.eq_zero_or_pos s.size with h0 | h0
  · have e0 : bsL s = [] := List.eq_nil_of_length_eq_zero (by omega)
    rw [e0, lastL_nil]
    exact slast_zero s w h0
  have hp1 : s.size - 1 < s.size := by omega
  obtain ⟨x0, hx0⟩ : ∃ x0, s[s.size - 1]'hp1 = x0 := ⟨_, rfl⟩
  have ra := x0.toNat_lt
  have ea := bsL_at s (s.size - 1) hp1
  rw [hx0] at ea
  have hm1 : (s.size : Int) - 1 = ((s.size - 1 : Nat) : Int) := by omega
  have hlt1 : ((s.size - 1 : Nat) : Int) < (s.size : Int) := by omega
  have HS := Lib.hid (show (bsL s)[(bsL s).length - 1]? = some (x0.toNat : Int) by rw [hl]; exact ea)
  have HT := Lib.hid T
  by_cases c1 : x0.toNat < 128
  · have HF := Lib.hid (lastL_ascii HS.out (by omega))
    clear T HS ea HT hl HL
    go_enter Tryd.func48, Tryd.ntmps48
    go_wp2
    go_ret2
    exact ⟨(ret_same HF.out).symm, Below.refl _ _⟩
  have hmax : max ((s.size : Int) - 4) 0 = ((s.size - 4 : Nat) : Int) := by omega
  have HD := Lib.hid (fun (m : Nat) => by
    have h := decodeString_any (s.extract m s.size) w HT.out (by rw [Lib.ext_size]; omega)
    rw [bsL_ext] at h
    exact h)
  have HC1 := Lib.hid (show 128 ≤ x0.toNat by omega)
  have hnn : (0 : Int) ≤ (s.size : Int) := by omega
  have HE : Hid (s.extract 0 s.size = s) := by
    show s.extract 0 s.size = s
    simp
  clear T ea hl
  go_enter Tryd.func48, Tryd.ntmps48
  go_wp2_with fail
  go_loop [5] (fun i => ∃ z : Int, i = .int .i64 z ∧ -1 ≤ z ∧ (s.size : Int) - 5 ≤ z ∧ z ≤ (s.size : Int) - 2 ∧ Hid (∀ (j : Nat) x, z < (j : Int) → j < s.size - 1 → (bsL s)[j]? = some x → 128 ≤ x ∧ x ≤ 191)) (fun i => (intOf i + 1).toNat)
  case atStart => exact ⟨_, rfl, by omega, by omega, by omega, fun j x h1 h2 => by omega⟩
  case round =>
    obtain ⟨z, rfl, hz1, hz2, hz3, hmid⟩ := hrel
    rcases Int.lt_or_le z 0 with hz0 | hz0
    · -- below the first byte
      obtain rfl : z = -1 := by omega
      have hlim : ¬ ((s.size - 4 : Nat) : Int) ≤ -1 := by omega
      have HB : Hid (lastL (bsL s) = if 0 + (firstL ((bsL s).drop 0)).2 = (bsL s).length then firstL ((bsL s).drop 0) else (65533, 1)) := by
        refine back_last ⟨by have := HL.out; omega, by have := HL.out; omega, fun x hx => ?_, fun j x h1 h2 hx => hmid.out j x (by omega) (by have := HL.out; omega) hx, .inr (.inr ⟨rfl, by have := HL.out; omega, fun x hx => ?_⟩)⟩
        · rw [HS.out] at hx; obtain rfl := Option.some.inj hx; have := HC1.out; omega
        · by_cases hn1 : s.size = 1
          · have e := HS.out
            rw [show (bsL s).length - 1 = 0 from by have := HL.out; omega] at e
            rw [e] at hx; obtain rfl := Option.some.inj hx
            exact ⟨by have := HC1.out; omega, .inr (by have := HL.out; omega)⟩
          · have := hmid.out 0 x (by omega) (by omega) hx
            exact ⟨this.1, .inl this.2⟩
      rw [Nat.zero_add, HL.out] at HB
      have HQ : Hid ((firstL ((bsL s).drop 0)).2 ≤ 4) := (firstL_size (l := (bsL s).drop 0) (by rw [List.drop_zero]; have := HL.out; omega)).2.2
      have hd1 := HD.out 0
      rw [HE.out] at hd1
      have HD1 := Lib.hid hd1
      clear hd1
      clear hz1 hz2 hz3 hmid HD HS HC1
      generalize firstL ((bsL s).drop 0) = q at *
      go_wp2_with fail
      refine HD1.out.mono ?_
      rintro e w1 ⟨rfl, b1⟩
      have hq4 := HQ.out
      by_cases hq : q.2 = s.size
      · have hq' : (q.2 : Int) = (s.size : Int) := by omega
        go_wp2
        go_ret2
        exact ⟨ret_pick HB.out hq hq, b1⟩
      · have hq' : ¬ (q.2 : Int) = (s.size : Int) := by omega
        go_wp2
        go_ret2
        exact ⟨ret_drop HB.out hq, b1⟩
    · obtain ⟨m, rfl⟩ := Int.eq_ofNat_of_zero_le hz0
      have hmn : m ≤ s.size := by omega
      have hm2 : m + 2 ≤ s.size := by omega
      have hkc : (m : Int) ≤ (s.size : Int) := by omega
      have hml : m < s.size := by omega
      obtain ⟨x2, hx2⟩ : ∃ x2, s[m]'hml = x2 := ⟨_, rfl⟩
      have ra2 := x2.toNat_lt
      have ea2 := bsL_at s m hml
      rw [hx2] at ea2
      have hlt2 : (m : Int) < (s.size : Int) := by omega
      by_cases hlo : s.size - 4 ≤ m
      · have hlim : ((s.size - 4 : Nat) : Int) ≤ (m : Int) := by omega
        by_cases hst : x2.toNat < 128 ∨ 191 < x2.toNat
        · have HB : Hid (lastL (bsL s) = if m + (firstL ((bsL s).drop m)).2 = (bsL s).length then firstL ((bsL s).drop m) else (65533, 1)) := by
            refine back_last ⟨by have := HL.out; omega, by have := HL.out; omega, fun x hx => ?_, fun j x h1 h2 hx => hmid.out j x (by omega) (by have := HL.out; omega) hx, .inl ⟨by have := HL.out; omega, by have := HL.out; omega, fun x hx => ?_⟩⟩
            · rw [HS.out] at hx; obtain rfl := Option.some.inj hx; have := HC1.out; omega
            · rw [ea2] at hx; obtain rfl := Option.some.inj hx; omega
          rw [HL.out] at HB
          have HQ : Hid ((firstL ((bsL s).drop m)).2 ≤ 4) := (firstL_size (l := (bsL s).drop m) (by rw [List.length_drop]; have := HL.out; omega)).2.2
          have HY := Lib.hid (startCall x2.toNat w true (start_yes ra2 hst))
          have HD1 := Lib.hid (HD.out m)
          clear hz1 hz2 hz3 hmid HD HS HC1 ea2 hst
          generalize firstL ((bsL s).drop m) = q at *
          go_wp2_with fail
          refine HY.out.mono ?_
          rintro e w0 ⟨rfl, rfl⟩
          go_wp2_with fail
          refine HD1.out.mono ?_
          rintro e w1 ⟨rfl, b1⟩
          have hq4 := HQ.out
          by_cases hq : m + q.2 = s.size
          · have hq' : (m : Int) + (q.2 : Int) = (s.size : Int) := by omega
            go_wp2
            go_ret2
            exact ⟨ret_pick HB.out hq rfl, b1⟩
          · have hq' : ¬ (m : Int) + (q.2 : Int) = (s.size : Int) := by omega
            go_wp2
            go_ret2
            exact ⟨ret_drop HB.out hq, b1⟩
        · have hsn := start_no ra2 hst
          have HM : Hid (∀ (j : Nat) x, (m : Int) - 1 < (j : Int) → j < s.size - 1 → (bsL s)[j]? = some x → 128 ≤ x ∧ x ≤ 191) := by
            intro j x h1 h2 hx
            by_cases hj : j = m
            · subst hj
              rw [ea2] at hx; obtain rfl := Option.some.inj hx; omega
            · exact hmid.out j x (by omega) h2 hx
          clear hmid ea2 hst HD
          go_wp2
          go_roundw
          case rel => exact ⟨(m : Int) - 1, by go_num, by omega, by omega, by omega, HM.out⟩
          case measure => simp [intOf]
      · have hlim : ¬ ((s.size - 4 : Nat) : Int) ≤ (m : Int) := by omega
        · have HB : Hid (lastL (bsL s) = if m + (firstL ((bsL s).drop m)).2 = (bsL s).length then firstL ((bsL s).drop m) else (65533, 1)) := by
            refine back_last ⟨by have := HL.out; omega, by have := HL.out; omega, fun x hx => ?_, fun j x h1 h2 hx => hmid.out j x (by omega) (by have := HL.out; omega) hx, .inr (.inl (by have := HL.out; omega))⟩
            rw [HS.out] at hx; obtain rfl := Option.some.inj hx; have := HC1.out; omega
          rw [HL.out] at HB
          have HQ : Hid ((firstL ((bsL s).drop m)).2 ≤ 4) := (firstL_size (l := (bsL s).drop m) (by rw [List.length_drop]; have := HL.out; omega)).2.2
          have HD1 := Lib.hid (HD.out m)
          clear hz1 hz2 hz3 hmid HD HS HC1 ea2
          generalize firstL ((bsL s).drop m) = q at *
          go_wp2_with fail
          refine HD1.out.mono ?_
          rintro e w1 ⟨rfl, b1⟩
          have hq4 := HQ.out
          by_cases hq : m + q.2 = s.size
          · have hq' : (m : Int) + (q.2 : Int) = (s.size : Int) := by omega
            go_wp2
            go_ret2
            exact ⟨ret_pick HB.out hq rfl, b1⟩
          · have hq' : ¬ (m : Int) + (q.2 : Int) = (s.size : Int) := by omega
            go_wp2
            go_ret2
            exact ⟨ret_drop HB.out hq, b1⟩

theorem implSlast_any (s : ByteArray) (w : World) (T : Tabs w) (hn : s.size ≤ 2147483648) :
    Calls Tryd.prog 30 #[.string s] w fun e w' => e = .returned (.tuple #[.int .i32 (lastL (bsL s)).1, .int .i64 ((lastL (bsL s)).2 : Int)]) ∧ Below w.heap.size w w' := by
  have HC := Lib.hid (slast_any s w T hn)
  generalize (lastL (bsL s)).1 = q1 at *
  generalize (lastL (bsL s)).2 = q2 at *
  clear T hn
  go_enter Tryd.func30, Tryd.ntmps30
  go_wp2_with fail
  refine HC.out.mono ?_
  rintro e w1 ⟨rfl, b1⟩
  go_wp2
  go_ret2
  exact ⟨rfl, b1⟩

end Go.Proofs.YtincmkjffohekaaDoor
