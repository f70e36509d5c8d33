/-
  Proved here: contracts of goutf8's decoder of the last number, of impl's and of spec.Last, of slices: what they return is the number whose bytes stand last. Condition: the tables lie as their initialisers lay them (spec.Last: none); at most 2^31 bytes.
-/
import Derived.Test.YtincmkjffohekaaDoorDsn
import Derived.Test.YtincmkjffohekaaDoorLpl
import Derived.Test.YtincmkjffohekaaDoorFst
namespace Go.Proofs.YtincmkjffohekaaDoor
open Go.RowKit

set_option maxRecDepth 100000 in
theorem start_fin : ∀ b : Fin 256, (bits .and .u8 ((b.val : Nat) : Int) 192 != 128) = (decide (((b.val : Nat) : Int) < 128) || decide ((191 : Int) < ((b.val : Nat) : Int))) := by decide
theorem start_yes {a : Nat} (ha : a < 256) (h : a < 128 ∨ 191 < a) : (bits .and .u8 (a : Int) 192 != 128) = true := by
  have := start_fin ⟨a, ha⟩
  simp only at this
  rw [this]
  rcases h with h | h
  · rw [decide_eq_true (by omega : (a : Int) < 128)]; rfl
  · rw [decide_eq_true (by omega : (191 : Int) < (a : Int))]; simp
theorem start_no {a : Nat} (ha : a < 256) (h : ¬ (a < 128 ∨ 191 < a)) : (bits .and .u8 (a : Int) 192 != 128) = false := by
  have := start_fin ⟨a, ha⟩
  simp only at this
  rw [this, decide_eq_false (by omega : ¬ (a : Int) < 128), decide_eq_false (by omega : ¬ (191 : Int) < (a : Int))]
  rfl
theorem startCall (a : Nat) (w : World) (b : Bool) (h : (bits .and .u8 (a : Int) 192 != 128) = b) :
    Calls Tryd.prog 53 #[.int .u8 (a : Int)] w fun e w' => e = .returned (.bool b) ∧ w' = w := by
  go_enter Tryd.func53, Tryd.ntmps53
  go_wp2
  all_goals go_ret
  all_goals exact ⟨ret_bool (by rw [← h]), rfl⟩
theorem ret_pick {L q : Int × Nat} {k : Nat} {P : Prop} [Decidable P] (h : L = if P then q else (65533, 1)) (hp : P) (hk : q.2 = k) : Ending.returned (.tuple #[.int .i32 q.1, .int .i64 (k : Int)]) = Ending.returned (.tuple #[.int .i32 L.1, .int .i64 (L.2 : Int)]) := by
  rw [h, if_pos hp, hk]
theorem ret_drop {L q : Int × Nat} {P : Prop} [Decidable P] (h : L = if P then q else (65533, 1)) (hp : ¬ P) : Ending.returned (.tuple #[.int .i32 65533, .int .i64 1]) = Ending.returned (.tuple #[.int .i32 L.1, .int .i64 (L.2 : Int)]) := by
  rw [h, if_neg hp]; rfl

set_option maxHeartbeats 4000000 in
set_option maxRecDepth 100000 in
theorem last_any (A : Option Addr) (n c : Nat) (xs : List Int) (w : World) (T : Tabs w) (h : IsL w w.heap.size .u8 A n xs) (hcap : n ≤ c) (hn : n ≤ 2147483648) :
    Calls Tryd.prog 38 #[.slice A n c] w fun e w' => e = .returned (.tuple #[.int .i32 (lastL xs).1, .int .i64 ((lastL xs).2 : Int)]) ∧ Below w.heap.size w w' := by
  have H := Lib.hid h
  have hl := h.len
  have HL := Lib.hid hl
  rcases Nat.eq_zero_or_pos n with h0 | h0
  · subst h0
    obtain rfl : xs = [] := List.eq_nil_of_length_eq_zero hl
    have HF := Lib.hid lastL_nil
    clear T h H
    go_enter Tryd.func38, Tryd.ntmps38
    go_wp2
    go_ret2
    exact ⟨(ret_same HF.out).symm, Below.refl _ _⟩
  obtain ⟨bl, off, rfl, _, _⟩ := h.2.2 h0
  obtain ⟨a, ra, ea, k0⟩ := h.byteAt (j := n - 1) (by omega)
  have hm1 : (n : Int) - 1 = ((n - 1 : Nat) : Int) := by omega
  have hlt1 : ((n - 1 : Nat) : Int) < (n : Int) := by omega
  have HS := Lib.hid (show xs[xs.length - 1]? = some (a : Int) by rw [hl]; exact ea)
  have HT := Lib.hid T
  by_cases c1 : a < 128
  · have HF := Lib.hid (lastL_ascii HS.out (by omega))
    clear T h H HS ea HT hl HL
    go_enter Tryd.func38, Tryd.ntmps38
    go_wp2
    go_ret2
    exact ⟨(ret_same HF.out).symm, Below.refl _ _⟩
  have hmax : max ((n : Int) - 4) 0 = ((n - 4 : Nat) : Int) := by omega
  have HD := Lib.hid (fun (m : Nat) (hm : m ≤ n) => decode_any (some ⟨bl, off + m, none⟩) (n - m) (c - m) (xs.drop m) w HT.out (H.out.drop hm) (by omega))
  have H0 := Lib.hid (decode_any (some ⟨bl, off, none⟩) n c xs w HT.out H.out hn)
  have HC1 := Lib.hid (show 128 ≤ a by omega)
  have hnn : (0 : Int) ≤ (n : Int) := by omega
  clear T h ea hl
  go_enter Tryd.func38, Tryd.ntmps38
  go_wp2_with fail
  go_loop [5] (fun i => ∃ z : Int, i = .int .i64 z ∧ -1 ≤ z ∧ (n : Int) - 5 ≤ z ∧ z ≤ (n : Int) - 2 ∧ Hid (∀ (j : Nat) x, z < (j : Int) → j < n - 1 → xs[j]? = some x → 128 ≤ x ∧ x ≤ 191)) (fun i => (intOf i + 1).toNat)
  case atStart => exact ⟨_, rfl, by omega, by omega, by omega, fun j x h1 h2 => by omega⟩
  case round =>
    obtain ⟨z, rfl, hz1, hz2, hz3, hmid⟩ := hrel
    rcases Int.lt_or_le z 0 with hz0 | hz0
    · -- below the first byte
      obtain rfl : z = -1 := by omega
      have hlim : ¬ ((n - 4 : Nat) : Int) ≤ -1 := by omega
      have HB : Hid (lastL xs = if 0 + (firstL (xs.drop 0)).2 = xs.length then firstL (xs.drop 0) else (65533, 1)) := by
        refine back_last ⟨by have := HL.out; omega, by have := HL.out; omega, fun x hx => ?_, fun j x h1 h2 hx => hmid.out j x (by omega) (by have := HL.out; omega) hx, .inr (.inr ⟨rfl, by have := HL.out; omega, fun x hx => ?_⟩)⟩
        · rw [HS.out] at hx; obtain rfl := Option.some.inj hx; have := HC1.out; omega
        · by_cases hn1 : n = 1
          · have e := HS.out
            rw [show xs.length - 1 = 0 from by have := HL.out; omega] at e
            rw [e] at hx; obtain rfl := Option.some.inj hx
            exact ⟨by have := HC1.out; omega, .inr (by have := HL.out; omega)⟩
          · have := hmid.out 0 x (by omega) (by omega) hx
            exact ⟨this.1, .inl this.2⟩
      rw [Nat.zero_add, List.drop_zero, HL.out] at HB
      have HQ : Hid ((firstL xs).2 ≤ 4) := by
        have := (firstL_size (l := xs) (by have := HL.out; omega)).2.2
        exact this
      clear hz1 hz2 hz3 hmid HD HS HC1
      have hh : Hid (n ≤ c) := hcap
      generalize firstL xs = q at *
      go_wp2_with fail
      refine H0.out.mono ?_
      rintro e w1 ⟨rfl, b1⟩
      have hq4 := HQ.out
      by_cases hq : q.2 = n
      · have hq' : (q.2 : Int) = (n : Int) := by omega
        go_wp2
        go_ret2
        exact ⟨ret_pick HB.out hq hq, b1⟩
      · have hq' : ¬ (q.2 : Int) = (n : Int) := by omega
        go_wp2
        go_ret2
        exact ⟨ret_drop HB.out hq, b1⟩
    · obtain ⟨m, rfl⟩ := Int.eq_ofNat_of_zero_le hz0
      have hmn : m ≤ n := by omega
      have hm2 : m + 2 ≤ n := by omega
      have hck : ¬ c = m := by omega
      have hkc : (m : Int) ≤ (n : Int) := by omega
      obtain ⟨a2, ra2, ea2, k2⟩ := H.out.byteAt (j := m) (by omega)
      have hlt2 : (m : Int) < (n : Int) := by omega
      by_cases hlo : n - 4 ≤ m
      · have hlim : ((n - 4 : Nat) : Int) ≤ (m : Int) := by omega
        by_cases hst : a2 < 128 ∨ 191 < a2
        · have HB : Hid (lastL xs = if m + (firstL (xs.drop m)).2 = xs.length then firstL (xs.drop m) else (65533, 1)) := by
            refine back_last ⟨by have := HL.out; omega, by have := HL.out; omega, fun x hx => ?_, fun j x h1 h2 hx => hmid.out j x (by omega) (by have := HL.out; omega) hx, .inl ⟨by have := HL.out; omega, by have := HL.out; omega, fun x hx => ?_⟩⟩
            · rw [HS.out] at hx; obtain rfl := Option.some.inj hx; have := HC1.out; omega
            · rw [ea2] at hx; obtain rfl := Option.some.inj hx; omega
          rw [HL.out] at HB
          have HQ : Hid ((firstL (xs.drop m)).2 ≤ 4) := (firstL_size (l := xs.drop m) (by rw [List.length_drop]; have := HL.out; omega)).2.2
          have HY := Lib.hid (startCall a2 w true (start_yes ra2 hst))
          have HD1 := Lib.hid (HD.out m hmn)
          clear hz1 hz2 hz3 hmid HD HS HC1 H0 ea2 hst
          generalize firstL (xs.drop m) = q at *
          go_wp2_with fail
          refine HY.out.mono ?_
          rintro e w0 ⟨rfl, rfl⟩
          go_wp2_with fail
          refine HD1.out.mono ?_
          rintro e w1 ⟨rfl, b1⟩
          have hq4 := HQ.out
          by_cases hq : m + q.2 = n
          · have hq' : (m : Int) + (q.2 : Int) = (n : Int) := by omega
            go_wp2
            go_ret2
            exact ⟨ret_pick HB.out hq rfl, b1⟩
          · have hq' : ¬ (m : Int) + (q.2 : Int) = (n : Int) := by omega
            go_wp2
            go_ret2
            exact ⟨ret_drop HB.out hq, b1⟩
        · have hsn := start_no ra2 hst
          have HM : Hid (∀ (j : Nat) x, (m : Int) - 1 < (j : Int) → j < n - 1 → xs[j]? = some x → 128 ≤ x ∧ x ≤ 191) := by
            intro j x h1 h2 hx
            by_cases hj : j = m
            · subst hj
              rw [ea2] at hx; obtain rfl := Option.some.inj hx; omega
            · exact hmid.out j x (by omega) h2 hx
          clear hmid ea2 hst H0 HD
          go_wp2
          go_roundw
          case rel => exact ⟨(m : Int) - 1, by go_num, by omega, by omega, by omega, HM.out⟩
          case measure => simp [intOf]
      · have hlim : ¬ ((n - 4 : Nat) : Int) ≤ (m : Int) := by omega
        · have HB : Hid (lastL xs = if m + (firstL (xs.drop m)).2 = xs.length then firstL (xs.drop m) else (65533, 1)) := by
            refine back_last ⟨by have := HL.out; omega, by have := HL.out; omega, fun x hx => ?_, fun j x h1 h2 hx => hmid.out j x (by omega) (by have := HL.out; omega) hx, .inr (.inl (by have := HL.out; omega))⟩
            rw [HS.out] at hx; obtain rfl := Option.some.inj hx; have := HC1.out; omega
          rw [HL.out] at HB
          have HQ : Hid ((firstL (xs.drop m)).2 ≤ 4) := (firstL_size (l := xs.drop m) (by rw [List.length_drop]; have := HL.out; omega)).2.2
          have HD1 := Lib.hid (HD.out m hmn)
          clear hz1 hz2 hz3 hmid HD HS HC1 H0 ea2
          generalize firstL (xs.drop m) = q at *
          go_wp2_with fail
          refine HD1.out.mono ?_
          rintro e w1 ⟨rfl, b1⟩
          have hq4 := HQ.out
          by_cases hq : m + q.2 = n
          · have hq' : (m : Int) + (q.2 : Int) = (n : Int) := by omega
            go_wp2
            go_ret2
            exact ⟨ret_pick HB.out hq rfl, b1⟩
          · have hq' : ¬ (m : Int) + (q.2 : Int) = (n : Int) := by omega
            go_wp2
            go_ret2
            exact ⟨ret_drop HB.out hq, b1⟩

set_option maxHeartbeats 1000000 in
theorem specLast_any (A : Option Addr) (n c : Nat) (xs : List Int) (w : World) (h : IsL w w.heap.size .u8 A n xs) (hcap : n ≤ c) (hn : n ≤ 2147483648) :
    Calls Tryd.prog 35 #[.slice A n c] w fun e w' => e = .returned (.tuple #[.int .i32 (lastL xs).1, .int .i64 ((lastL xs).2 : Int)]) ∧ Below w.heap.size w w' := by
  have H := Lib.hid h
  have hl := h.len
  have HL := Lib.hid hl
  clear h hl
  go_enter Tryd.func35, Tryd.ntmps35
  go_wp2
  go_loopw [4] (fun i wr => ∃ k : Nat, 1 ≤ k ∧ k ≤ 5 ∧ i = .int .i64 k ∧ Hid (∀ j, 1 ≤ j → j < k → j ≤ xs.length → tell (xs.drop (xs.length - j)) = none) ∧ Below w.heap.size w wr) (fun i _ => 5 - (intOf i).toNat)
  case atStart => exact ⟨1, by omega, by omega, rfl, (fun j h1 h2 => by omega), Below.refl _ _⟩
  case round =>
    obtain ⟨k, hk1, hk5, rfl, hno, hb⟩ := hrel
    by_cases h4 : k ≤ 4
    · by_cases hkn : k ≤ n
      · obtain ⟨b, off, hA, hbb, _⟩ := H.out.2.2 (by omega)
        subst hA
        have hT := tells_any (some ⟨b, off + (n - k), none⟩) (n - (n - k)) (c - (n - k)) (xs.drop (n - k)) wr (((H.out.below hb).more hb.size).drop (by omega)) (by omega) (by omega)
        have HT := Lib.hid hT
        clear hT
        have hsub : (n : Int) - (k : Int) = ((n - k : Nat) : Int) := by omega
        have hck : ¬ c = n - k := by omega
        have hkc : ((n - k : Nat) : Int) ≤ (n : Int) := by omega
        go_wp2_with fail
        refine HT.out.mono ?_
        rintro e w1 ⟨rfl, b1⟩
        have hb1 := hb.trans (b1.mono hb.size)
        by_cases hs : (tell (xs.drop (n - k))).isSome = true
        · have hfl := lastL_at (l := xs) hk1 h4 hno.out (by rw [HL.out]; exact hs)
          rw [HL.out] at hfl
          have e1 : raw (xs.drop (n - k)) = (lastL xs).1 := by rw [hfl]
          have e2 : (k : Int) = ((lastL xs).2 : Int) := by rw [hfl]
          rw [hs]
          have HE := Lib.hid (And.intro e1 e2)
          clear hs hfl e1 e2 hno
          generalize raw (xs.drop (n - k)) = q at *
          go_wp2
          go_ret2
          exact ⟨by rw [← HE.out.1, ← HE.out.2]; rfl, hb1⟩
        · have hs' : (tell (xs.drop (n - k))).isSome = false := by simpa using hs
          have HN : Hid (∀ j, 1 ≤ j → j < k + 1 → j ≤ xs.length → tell (xs.drop (xs.length - j)) = none) := by
            intro j h1 h2 h3
            by_cases hj : j = k
            · subst hj
              rw [HL.out]
              exact none_of hs
            · exact hno.out j h1 (by omega) h3
          rw [hs']
          clear hs hs' hno
          generalize raw (xs.drop (n - k)) = q at *
          go_wp2
          go_roundw
          case rel => exact ⟨k + 1, by omega, by omega, by go_num, HN.out, hb1⟩
          case measure => simp [intOf]; omega
      · have hfl := lastL_none (l := xs) (fun j h1 h2 h3 => hno.out j h1 (by have := HL.out; omega) h3)
        have HF := Lib.hid hfl
        clear hfl hno
        go_wp2
        all_goals
          go_ret2
          refine ⟨?_, hb⟩
          rw [HF.out, HL.out]
          first | rfl | (simp; done) | (simp; omega)
    · have hfl := lastL_none (l := xs) (fun j h1 h2 h3 => hno.out j h1 (by omega) h3)
      have HF := Lib.hid hfl
      clear hfl hno
      go_wp2
      all_goals
        go_ret2
        refine ⟨?_, hb⟩
        rw [HF.out, HL.out]
        first | rfl | (simp; done) | (simp; omega)

theorem implLast_any (A : Option Addr) (n c : Nat) (xs : List Int) (w : World) (T : Tabs w) (h : IsL w w.heap.size .u8 A n xs) (hn : n ≤ 2147483648) :
    Calls Tryd.prog 21 #[.slice A n c] w fun e w' => e = .returned (.tuple #[.int .i32 (lastL xs).1, .int .i64 ((lastL xs).2 : Int)]) ∧ Below w.heap.size w w' := by
  have hl := h.len
  have hf : FitL .u8 xs := h.fit
  have HC := Lib.hid (clone8_any A n c xs w h (by omega))
  have HA := Lib.hid (fun (w1 : World) (T1 : Tabs w1) (A1 : Option Addr) (c1 : Nat) h1 hc => last_any A1 xs.length c1 xs w1 T1 h1 hc (by omega))
  have HT := Lib.hid T
  generalize (lastL xs).1 = q1 at *
  generalize (lastL xs).2 = q2 at *
  clear h hl T
  go_enter Tryd.func21, Tryd.ntmps21
  go_wp2_with fail
  refine HC.out.mono ?_
  rintro e w1 ⟨A1, c1, rfl, h1, b1⟩
  have i1 := OwnsL.isL (e := 5) (k := .u8) h1 hf
  have hc1 : xs.length ≤ c1 := OwnsL.cap (e := 5) (k := .u8) (xs := xs) h1
  clear h1
  go_wp2_with fail
  refine (HA.out w1 (HT.out.keep b1) A1 c1 i1 hc1).mono ?_
  rintro e w2 ⟨rfl, b2⟩
  go_wp2
  go_ret2
  exact ⟨rfl, b1.trans (b2.mono b1.size)⟩

end Go.Proofs.YtincmkjffohekaaDoor
