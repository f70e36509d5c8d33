/-
  Proved here: the contract of goutf8.Valid and of impl's: whether the bytes are encodings alone. Condition: the tables lie as their initialisers lay them; at most 2^31 bytes.
-/
import Derived.Test.YtincmkjffohekaaDoorWrd
import Derived.Test.YtincmkjffohekaaDoorCut
import Derived.Deep.LoopGhost
import Derived.Deep.DeepMust
import Derived.Deep.CutBlock
import Derived.Laws.BitsAllLaws
namespace Go.Proofs.YtincmkjffohekaaDoor
open Go.RowKit

set_option maxHeartbeats 16000000 in
set_option maxRecDepth 1000000 in
theorem valid_any (A : Option Addr) (n c : Nat) (xs : List Int) (w : World) (T : Tabs w) (h : IsL w w.heap.size .u8 A n xs) (hcap : n ≤ c) (hn : n ≤ 2147483648) :
    Calls Tryd.prog 40 #[.slice A n c] w fun e w' => e = .returned (.bool (valid xs)) ∧ Below w.heap.size w w' := by
  obtain ⟨ANS, hANS⟩ : ∃ z, valid xs = z := ⟨_, rfl⟩
  rw [hANS]
  have HA := Lib.hid hANS
  have H := Lib.hid h
  have HT := Lib.hid T
  have hcz : (n : Int) ≤ (c : Int) := by omega
  clear h T hANS
  go_enter Tryd.func40, Tryd.ntmps40
  go_wp2
  go_loopg [0] (n + 1) (fun gk s0 wx => Below w.heap.size w wx ∧ ∃ (A' : Option Addr) (m0 : Nat) (l0 : List Int), s0 = .slice A' m0 m0 ∧ Hid (IsL w w.heap.size .u8 A' m0 l0) ∧ Hid (valid l0 = ANS) ∧ m0 < gk ∧ m0 ≤ n)
  case atStart => exact ⟨Below.refl _ _, A, n, xs, rfl, H.out, HA.out, by omega, by omega⟩
  case round =>
    obtain ⟨hbw, A', m0, l0, rfl, I0, V0, hg, hmn⟩ := hrel
    by_cases h0 : 0 < m0
    · obtain ⟨g', rfl⟩ : ∃ g', gk = g' + 1 := ⟨gk - 1, by omega⟩
      have h0z : (0 : Int) < (m0 : Int) := by omega
      obtain ⟨b, o0, rfl, _, _⟩ := I0.out.2.2 h0
      have hcell : ∀ j, j < m0 → wr.cell? ⟨b, o0 + j, none⟩ = some (.int .u8 (bt l0 j : Int)) := fun j hj => by
        obtain ⟨a, _, ea, k⟩ := (I0.out.below hbw).byteAt hj
        rw [k, bt_at ea]
      have hbl := bt_lt I0.out.fit.bytes
      have ea := bt_get I0.out.fit.bytes (j := 0) (by have := I0.out.len; omega)
      have ka := hcell 0 h0
      rw [Nat.add_zero] at ka
      obtain ⟨a, ha⟩ : ∃ z, bt l0 0 = z := ⟨_, rfl⟩
      have ral : a < 256 := ha ▸ hbl 0
      rw [ha] at ka ea
      by_cases hasc : a < 128
      · as_aux_lemma =>
        have hascz : (a : Int) < 128 := by omega
        have A0 := ascL_one ea hasc
        obtain ⟨m1, hm1⟩ : ∃ z, m0 - 1 = z := ⟨_, rfl⟩
        obtain ⟨o1, ho1⟩ : ∃ z, o0 + 1 = z := ⟨_, rfl⟩
        obtain ⟨l1, hl1⟩ : ∃ z, l0.drop 1 = z := ⟨_, rfl⟩
        have z1 : m1 + 1 = m0 := by omega
        have I1 : Hid (IsL w w.heap.size .u8 (some ⟨b, o1, none⟩) m1 l1) := by rw [← ho1, ← hm1, ← hl1]; exact I0.out.drop (by omega)
        have V1 : Hid (valid l1 = ANS) := by show valid l1 = ANS; rw [← hl1]; exact (valid_asc 1 (A0)).trans V0.out
        clear V0 hl1 A0 ea hcell hbl ha
        have hs0_1 : (1 : Int) ≤ (m0 : Int) := by omega
        by_cases e1 : m0 = 1
        · obtain rfl : m1 = 0 := by omega
          have I1' := Lib.hid (fun A => IsL.none_ w w.heap.size .u8 A (n := 0) (xs := l1) I1.out.len rfl)
          subst e1
          clear I1 ho1
          go_wp2
          go_roundg g'
          case measure => omega
          case rel => exact ⟨hbw, _, 0, l1, rfl, I1'.out _, V1.out, by omega, by omega⟩
        have hne0_1 : ¬ m0 = 1 := e1
        by_cases c8 : 8 < m1
        · have c8z : (8 : Int) < (m1 : Int) := by omega
          obtain ⟨W1, hW1⟩ : ∃ z, leL l1 = z := ⟨_, rfl⟩
          have lW1 : W1 < 18446744073709551616 := hW1 ▸ leL_lt
          have C1 : ∀ q, Calls Tryd.prog 54 #[.slice (some ⟨b, o1, none⟩) m1 m1] (wr.drewN q) fun e w' => e = .returned (.int .u64 (W1 : Int)) ∧ ∃ r, w' = (wr.drewN q).drewN r := fun q => by rw [← hW1]; exact word_any _ _ _ _ _ (I1.out.below (below_drewN hbw q)) (by omega)
          have K1 : W1 &&& 9259542123273814144 = 0 ↔ AscL l1 8 := by rw [← hW1]; exact leL_asc I1.out.fit.bytes (by have := I1.out.len; omega)
          clear hW1
          have hand1 : bits .and .u64 (W1 : Int) 9259542123273814144 = ((W1 &&& 9259542123273814144 : Nat) : Int) := u64_and_nat W1 9259542123273814144 lW1 (by omega)
          obtain ⟨Z1, hZ1⟩ : ∃ z, W1 &&& 9259542123273814144 = z := ⟨_, rfl⟩
          rw [hZ1] at hand1 K1
          clear hZ1
          have C1' : Calls Tryd.prog 54 #[.slice (some ⟨b, o1, none⟩) m1 m1] wr fun e w' => e = .returned (.int .u64 (W1 : Int)) ∧ ∃ r, w' = wr.drewN r := C1 0
          clear C1
          by_cases hz1 : Z1 = 0
          · have hz1b : ((Z1 : Int) == 0) = true := by simp [hz1]
            obtain ⟨m2, hm2⟩ : ∃ z, m1 - 8 = z := ⟨_, rfl⟩
            obtain ⟨o2, ho2⟩ : ∃ z, o1 + 8 = z := ⟨_, rfl⟩
            obtain ⟨l2, hl2⟩ : ∃ z, l1.drop 8 = z := ⟨_, rfl⟩
            have z2 : m2 + 8 = m1 := by omega
            have I2 : Hid (IsL w w.heap.size .u8 (some ⟨b, o2, none⟩) m2 l2) := by rw [← ho2, ← hm2, ← hl2]; exact I1.out.drop (by omega)
            have V2 : Hid (valid l2 = ANS) := by show valid l2 = ANS; rw [← hl2]; exact (valid_asc 8 (K1.1 hz1)).trans V1.out
            have hs1_8 : (8 : Int) ≤ (m1 : Int) := by omega
            have hne1_8 : ¬ m1 = 8 := by omega
            clear K1 V1 hl2
            go_wp2_with (go_at_call 54; go_must (refine C1'.mono ?_; rintro e W1 ⟨rfl, q1, rfl⟩))
            have hb1 : Below w.heap.size w (wr.drewN q1) := below_drewN hbw q1
            generalize wr.drewN q1 = wq at hb1 ⊢
            clear C1' hbw
            by_cases c16 : 16 < m2
            · have c16z : (16 : Int) < (m2 : Int) := by omega
              have hs2_8 : (8 : Int) ≤ (m2 : Int) := by omega
              have hne2_8 : ¬ m2 = 8 := by omega
              obtain ⟨m2b, hm2b⟩ : ∃ z, m2 - 8 = z := ⟨_, rfl⟩
              obtain ⟨o2b, ho2b⟩ : ∃ z, o2 + 8 = z := ⟨_, rfl⟩
              obtain ⟨l2b, hl2b⟩ : ∃ z, l2.drop 8 = z := ⟨_, rfl⟩
              have z2b : m2b + 8 = m2 := by omega
              have I2b : Hid (IsL w w.heap.size .u8 (some ⟨b, o2b, none⟩) m2b l2b) := by rw [← ho2b, ← hm2b, ← hl2b]; exact I2.out.drop (by omega)
              obtain ⟨W2, hW2⟩ : ∃ z, leL l2 = z := ⟨_, rfl⟩
              have lW2 : W2 < 18446744073709551616 := hW2 ▸ leL_lt
              have C2 : ∀ q, Calls Tryd.prog 54 #[.slice (some ⟨b, o2, none⟩) m2 m2] (wq.drewN q) fun e w' => e = .returned (.int .u64 (W2 : Int)) ∧ ∃ r, w' = (wq.drewN q).drewN r := fun q => by rw [← hW2]; exact word_any _ _ _ _ _ (I2.out.below (below_drewN hb1 q)) (by omega)
              have K2 : W2 &&& 9259542123273814144 = 0 ↔ AscL l2 8 := by rw [← hW2]; exact leL_asc I2.out.fit.bytes (by have := I2.out.len; omega)
              clear hW2
              obtain ⟨W2b, hW2b⟩ : ∃ z, leL l2b = z := ⟨_, rfl⟩
              have lW2b : W2b < 18446744073709551616 := hW2b ▸ leL_lt
              have C2b : ∀ q, Calls Tryd.prog 54 #[.slice (some ⟨b, o2b, none⟩) m2b m2b] (wq.drewN q) fun e w' => e = .returned (.int .u64 (W2b : Int)) ∧ ∃ r, w' = (wq.drewN q).drewN r := fun q => by rw [← hW2b]; exact word_any _ _ _ _ _ (I2b.out.below (below_drewN hb1 q)) (by omega)
              have K2b : W2b &&& 9259542123273814144 = 0 ↔ AscL l2b 8 := by rw [← hW2b]; exact leL_asc I2b.out.fit.bytes (by have := I2b.out.len; omega)
              clear hW2b
              have hor2 : bits .or .u64 (W2 : Int) (W2b : Int) = ((W2 ||| W2b : Nat) : Int) := u64_or_nat W2 W2b lW2 lW2b
              have lor2 : W2 ||| W2b < 18446744073709551616 := Nat.or_lt_two_pow (n := 64) lW2 lW2b
              have hand2 : bits .and .u64 ((W2 ||| W2b : Nat) : Int) 9259542123273814144 = (((W2 ||| W2b) &&& 9259542123273814144 : Nat) : Int) := u64_and_nat _ 9259542123273814144 lor2 (by omega)
              have k2 : (W2 ||| W2b) &&& 9259542123273814144 = 0 → AscL l2 16 := fun h0' => by
                obtain ⟨e1, e2⟩ := (Lib.or_mask W2 W2b _).1 h0'
                exact ascL_add (a := 8) (b := 8) (K2.1 e1) (by rw [hl2b]; exact K2b.1 e2)
              obtain ⟨O2, hO2⟩ : ∃ z, W2 ||| W2b = z := ⟨_, rfl⟩
              rw [hO2] at hor2 hand2 k2
              obtain ⟨Z2, hZ2⟩ : ∃ z, O2 &&& 9259542123273814144 = z := ⟨_, rfl⟩
              rw [hZ2] at hand2 k2
              clear K2 K2b lor2 hO2 hZ2 hl2b
              by_cases hz2 : Z2 = 0
              · as_aux_lemma =>
                have hz2b : ((Z2 : Int) == 0) = true := by simp [hz2]
                obtain ⟨m3, hm3⟩ : ∃ z, m2 - 16 = z := ⟨_, rfl⟩
                obtain ⟨o3, ho3⟩ : ∃ z, o2 + 16 = z := ⟨_, rfl⟩
                obtain ⟨l3, hl3⟩ : ∃ z, l2.drop 16 = z := ⟨_, rfl⟩
                have z3 : m3 + 16 = m2 := by omega
                have I3 : Hid (IsL w w.heap.size .u8 (some ⟨b, o3, none⟩) m3 l3) := by rw [← ho3, ← hm3, ← hl3]; exact I2.out.drop (by omega)
                have V3 : Hid (valid l3 = ANS) := by show valid l3 = ANS; rw [← hl3]; exact (valid_asc 16 (k2 hz2)).trans V2.out
                have hs2_16 : (16 : Int) ≤ (m2 : Int) := by omega
                have hne2_16 : ¬ m2 = 16 := by omega
                clear k2 V2 hl3
                go_big_quiet (first | (with_reducible refine Calls.quiet_of (C2 _)) | (with_reducible refine Calls.quiet_of (C2b _)))
                have hb2 : Below w.heap.size w (wq.drewN nq) := below_drewN hb1 nq
                generalize wq.drewN nq = wq2 at hb2 ⊢
                clear C2 C2b hb1
                go_wp2
                go_loopg [0] (m3 + 1) (fun g2 s0 wx => Below w.heap.size w wx ∧ ∃ (o4 m4 : Nat) (l4 : List Int), s0 = .slice (some ⟨b, o4, none⟩) m4 m4 ∧ Hid (IsL w w.heap.size .u8 (some ⟨b, o4, none⟩) m4 l4) ∧ Hid (valid l4 = ANS) ∧ m4 < g2 ∧ m4 ≤ m3)
                case atStart => exact ⟨hb2, o3, m3, l3, rfl, I3.out, V3.out, by omega, Nat.le_refl _⟩
                case round =>
                  obtain ⟨hbu, o4, m4, l4, rfl, I4, V4, hgu, hut⟩ := hrel
                  by_cases c32 : 32 < m4
                  · obtain ⟨g3, rfl⟩ : ∃ g3, gk = g3 + 1 := ⟨gk - 1, by omega⟩
                    have c32z : (32 : Int) < (m4 : Int) := by omega
                    have hs4_8 : (8 : Int) ≤ (m4 : Int) := by omega
                    have hne4_8 : ¬ m4 = 8 := by omega
                    obtain ⟨m4b, hm4b⟩ : ∃ z, m4 - 8 = z := ⟨_, rfl⟩
                    obtain ⟨o4b, ho4b⟩ : ∃ z, o4 + 8 = z := ⟨_, rfl⟩
                    obtain ⟨l4b, hl4b⟩ : ∃ z, l4.drop 8 = z := ⟨_, rfl⟩
                    have z4b : m4b + 8 = m4 := by omega
                    have I4b : Hid (IsL w w.heap.size .u8 (some ⟨b, o4b, none⟩) m4b l4b) := by rw [← ho4b, ← hm4b, ← hl4b]; exact I4.out.drop (by omega)
                    have hs4_16 : (16 : Int) ≤ (m4 : Int) := by omega
                    have hne4_16 : ¬ m4 = 16 := by omega
                    obtain ⟨m4c, hm4c⟩ : ∃ z, m4 - 16 = z := ⟨_, rfl⟩
                    obtain ⟨o4c, ho4c⟩ : ∃ z, o4 + 16 = z := ⟨_, rfl⟩
                    obtain ⟨l4c, hl4c⟩ : ∃ z, l4.drop 16 = z := ⟨_, rfl⟩
                    have z4c : m4c + 16 = m4 := by omega
                    have I4c : Hid (IsL w w.heap.size .u8 (some ⟨b, o4c, none⟩) m4c l4c) := by rw [← ho4c, ← hm4c, ← hl4c]; exact I4.out.drop (by omega)
                    have hs4_24 : (24 : Int) ≤ (m4 : Int) := by omega
                    have hne4_24 : ¬ m4 = 24 := by omega
                    obtain ⟨m4d, hm4d⟩ : ∃ z, m4 - 24 = z := ⟨_, rfl⟩
                    obtain ⟨o4d, ho4d⟩ : ∃ z, o4 + 24 = z := ⟨_, rfl⟩
                    obtain ⟨l4d, hl4d⟩ : ∃ z, l4.drop 24 = z := ⟨_, rfl⟩
                    have z4d : m4d + 24 = m4 := by omega
                    have I4d : Hid (IsL w w.heap.size .u8 (some ⟨b, o4d, none⟩) m4d l4d) := by rw [← ho4d, ← hm4d, ← hl4d]; exact I4.out.drop (by omega)
                    obtain ⟨W4, hW4⟩ : ∃ z, leL l4 = z := ⟨_, rfl⟩
                    have lW4 : W4 < 18446744073709551616 := hW4 ▸ leL_lt
                    have C4 : ∀ q, Calls Tryd.prog 54 #[.slice (some ⟨b, o4, none⟩) m4 m4] (wr.drewN q) fun e w' => e = .returned (.int .u64 (W4 : Int)) ∧ ∃ r, w' = (wr.drewN q).drewN r := fun q => by rw [← hW4]; exact word_any _ _ _ _ _ (I4.out.below (below_drewN hbu q)) (by omega)
                    have K4 : W4 &&& 9259542123273814144 = 0 ↔ AscL l4 8 := by rw [← hW4]; exact leL_asc I4.out.fit.bytes (by have := I4.out.len; omega)
                    clear hW4
                    obtain ⟨W4b, hW4b⟩ : ∃ z, leL l4b = z := ⟨_, rfl⟩
                    have lW4b : W4b < 18446744073709551616 := hW4b ▸ leL_lt
                    have C4b : ∀ q, Calls Tryd.prog 54 #[.slice (some ⟨b, o4b, none⟩) m4b m4b] (wr.drewN q) fun e w' => e = .returned (.int .u64 (W4b : Int)) ∧ ∃ r, w' = (wr.drewN q).drewN r := fun q => by rw [← hW4b]; exact word_any _ _ _ _ _ (I4b.out.below (below_drewN hbu q)) (by omega)
                    have K4b : W4b &&& 9259542123273814144 = 0 ↔ AscL l4b 8 := by rw [← hW4b]; exact leL_asc I4b.out.fit.bytes (by have := I4b.out.len; omega)
                    clear hW4b
                    obtain ⟨W4c, hW4c⟩ : ∃ z, leL l4c = z := ⟨_, rfl⟩
                    have lW4c : W4c < 18446744073709551616 := hW4c ▸ leL_lt
                    have C4c : ∀ q, Calls Tryd.prog 54 #[.slice (some ⟨b, o4c, none⟩) m4c m4c] (wr.drewN q) fun e w' => e = .returned (.int .u64 (W4c : Int)) ∧ ∃ r, w' = (wr.drewN q).drewN r := fun q => by rw [← hW4c]; exact word_any _ _ _ _ _ (I4c.out.below (below_drewN hbu q)) (by omega)
                    have K4c : W4c &&& 9259542123273814144 = 0 ↔ AscL l4c 8 := by rw [← hW4c]; exact leL_asc I4c.out.fit.bytes (by have := I4c.out.len; omega)
                    clear hW4c
                    obtain ⟨W4d, hW4d⟩ : ∃ z, leL l4d = z := ⟨_, rfl⟩
                    have lW4d : W4d < 18446744073709551616 := hW4d ▸ leL_lt
                    have C4d : ∀ q, Calls Tryd.prog 54 #[.slice (some ⟨b, o4d, none⟩) m4d m4d] (wr.drewN q) fun e w' => e = .returned (.int .u64 (W4d : Int)) ∧ ∃ r, w' = (wr.drewN q).drewN r := fun q => by rw [← hW4d]; exact word_any _ _ _ _ _ (I4d.out.below (below_drewN hbu q)) (by omega)
                    have K4d : W4d &&& 9259542123273814144 = 0 ↔ AscL l4d 8 := by rw [← hW4d]; exact leL_asc I4d.out.fit.bytes (by have := I4d.out.len; omega)
                    clear hW4d
                    have ho1_ : bits .or .u64 (W4 : Int) (W4b : Int) = ((W4 ||| W4b : Nat) : Int) := u64_or_nat W4 W4b lW4 lW4b
                    have ho2_ : bits .or .u64 (W4c : Int) (W4d : Int) = ((W4c ||| W4d : Nat) : Int) := u64_or_nat W4c W4d lW4c lW4d
                    have lo1 : W4 ||| W4b < 18446744073709551616 := Nat.or_lt_two_pow (n := 64) lW4 lW4b
                    have lo2 : W4c ||| W4d < 18446744073709551616 := Nat.or_lt_two_pow (n := 64) lW4c lW4d
                    have ho3_ : bits .or .u64 ((W4 ||| W4b : Nat) : Int) ((W4c ||| W4d : Nat) : Int) = (((W4 ||| W4b) ||| (W4c ||| W4d) : Nat) : Int) := u64_or_nat _ _ lo1 lo2
                    have lo3 : (W4 ||| W4b) ||| (W4c ||| W4d) < 18446744073709551616 := Nat.or_lt_two_pow (n := 64) lo1 lo2
                    have hand3 : bits .and .u64 (((W4 ||| W4b) ||| (W4c ||| W4d) : Nat) : Int) 9259542123273814144 = ((((W4 ||| W4b) ||| (W4c ||| W4d)) &&& 9259542123273814144 : Nat) : Int) := u64_and_nat _ 9259542123273814144 lo3 (by omega)
                    have k3 : ((W4 ||| W4b) ||| (W4c ||| W4d)) &&& 9259542123273814144 = 0 → AscL l4 32 := fun h0' => by
                      obtain ⟨e01, e23⟩ := (Lib.or_mask _ _ _).1 h0'
                      obtain ⟨e0, e1⟩ := (Lib.or_mask _ _ _).1 e01
                      obtain ⟨e2, e3⟩ := (Lib.or_mask _ _ _).1 e23
                      have s16 : AscL l4 16 := ascL_add (a := 8) (b := 8) (K4.1 e0) (by rw [hl4b]; exact K4b.1 e1)
                      have s24 : AscL l4 24 := ascL_add (a := 16) (b := 8) s16 (by rw [hl4c]; exact K4c.1 e2)
                      exact ascL_add (a := 24) (b := 8) s24 (by rw [hl4d]; exact K4d.1 e3)
                    obtain ⟨P1, hP1⟩ : ∃ z, W4 ||| W4b = z := ⟨_, rfl⟩
                    obtain ⟨P2, hP2⟩ : ∃ z, W4c ||| W4d = z := ⟨_, rfl⟩
                    rw [hP1, hP2] at ho3_ hand3 k3
                    rw [hP1] at ho1_
                    rw [hP2] at ho2_
                    obtain ⟨P3, hP3⟩ : ∃ z, P1 ||| P2 = z := ⟨_, rfl⟩
                    rw [hP3] at ho3_ hand3 k3
                    obtain ⟨Z3, hZ3⟩ : ∃ z, P3 &&& 9259542123273814144 = z := ⟨_, rfl⟩
                    rw [hZ3] at hand3 k3
                    clear K4 K4b K4c K4d lo1 lo2 lo3 hP1 hP2 hP3 hZ3 hl4b hl4c hl4d
                    by_cases hz3 : Z3 = 0
                    · as_aux_lemma =>
                      have hz3b : ((Z3 : Int) == 0) = true := by simp [hz3]
                      obtain ⟨m5, hm5⟩ : ∃ z, m4 - 32 = z := ⟨_, rfl⟩
                      obtain ⟨o5, ho5⟩ : ∃ z, o4 + 32 = z := ⟨_, rfl⟩
                      obtain ⟨l5, hl5⟩ : ∃ z, l4.drop 32 = z := ⟨_, rfl⟩
                      have z5 : m5 + 32 = m4 := by omega
                      have I5 : Hid (IsL w w.heap.size .u8 (some ⟨b, o5, none⟩) m5 l5) := by rw [← ho5, ← hm5, ← hl5]; exact I4.out.drop (by omega)
                      have V5 : Hid (valid l5 = ANS) := by show valid l5 = ANS; rw [← hl5]; exact (valid_asc 32 (k3 hz3)).trans V4.out
                      have hs4_32 : (32 : Int) ≤ (m4 : Int) := by omega
                      have hne4_32 : ¬ m4 = 32 := by omega
                      clear k3 V4 hl5
                      go_wp2_with fail
                      go_big_quiet (first | (with_reducible refine Calls.quiet_of (C4 _)) | (with_reducible refine Calls.quiet_of (C4b _)) | (with_reducible refine Calls.quiet_of (C4c _)) | (with_reducible refine Calls.quiet_of (C4d _)))
                      go_wp2
                      go_roundg g3
                      case measure => omega
                      case rel => exact ⟨below_drewN hbu nq, o5, m5, l5, rfl, I5.out, V5.out, by omega, by omega⟩
                    · as_aux_lemma =>
                      have hz3b : ((Z3 : Int) == 0) = false := by simp; omega
                      go_wp2_with fail
                      go_big_quiet (first | (with_reducible refine Calls.quiet_of (C4 _)) | (with_reducible refine Calls.quiet_of (C4b _)) | (with_reducible refine Calls.quiet_of (C4c _)) | (with_reducible refine Calls.quiet_of (C4d _)))
                      go_wp2
                      go_roundg g'
                      case measure => omega
                      case rel => exact ⟨below_drewN hbu nq, _, m4, l4, rfl, I4.out, V4.out, by omega, by omega⟩
                  · as_aux_lemma =>
                    have c32z : ¬ ((32 : Int) < (m4 : Int)) := by omega
                    have c32b : decide ((32 : Int) < (m4 : Int)) = false := decide_eq_false c32z
                    go_wp2_with fail
                    go_big_quiet (fail)
                    go_wp2
                    go_roundg g'
                    case measure => omega
                    case rel => exact ⟨below_drewN hbu nq, _, m4, l4, rfl, I4.out, V4.out, by omega, by omega⟩
              · as_aux_lemma =>
                have hz2b : ((Z2 : Int) == 0) = false := by simp; omega
                go_big_quiet (first | (with_reducible refine Calls.quiet_of (C2 _)) | (with_reducible refine Calls.quiet_of (C2b _)))
                go_wp2
                go_roundg g'
                case measure => omega
                case rel => exact ⟨below_drewN hb1 nq, _, m2, l2, rfl, I2.out, V2.out, by omega, by omega⟩
            · as_aux_lemma =>
              have c16z : ¬ ((16 : Int) < (m2 : Int)) := by omega
              have c16b : decide ((16 : Int) < (m2 : Int)) = false := decide_eq_false c16z
              go_big_quiet (fail)
              go_wp2
              go_roundg g'
              case measure => omega
              case rel => exact ⟨below_drewN hb1 nq, _, m2, l2, rfl, I2.out, V2.out, by omega, by omega⟩
          · as_aux_lemma =>
            have hz1b : ((Z1 : Int) == 0) = false := by simp; omega
            go_wp2_with (go_at_call 54; go_must (refine C1'.mono ?_; rintro e W1 ⟨rfl, q1, rfl⟩))
            go_roundg g'
            case measure => omega
            case rel => exact ⟨below_drewN hbw q1, _, m1, l1, rfl, I1.out, V1.out, by omega, by omega⟩
        · as_aux_lemma =>
          have c8z : ¬ ((8 : Int) < (m1 : Int)) := by omega
          go_wp2
          go_roundg g'
          case measure => omega
          case rel => exact ⟨hbw, _, m1, l1, rfl, I1.out, V1.out, by omega, by omega⟩
      · as_aux_lemma =>
        have hascz : ¬ (a : Int) < 128 := by omega
        have hlen0 : l0.length = m0 := I0.out.len
        have hlead := valid_lead I0.out.fit.bytes (by omega) (by rw [ha]; omega)
        rw [V0.out, hlen0, ha] at hlead
        have TR := HT.out.keep hbw
        have hc0 := TR.2.1 a ral
        have hXlt := first_lt a
        have hb1 := hbl 1
        have hb2 := hbl 2
        have hb3 := hbl 3
        have ht := accept_idx TR hXlt
        obtain ⟨X, hX⟩ : ∃ z, Lib.firstT a = z := ⟨_, rfl⟩
        rw [hX] at hc0 hXlt hlead ht
        have h7 := and7 ⟨X, hXlt⟩
        simp only at h7
        have ha0 := ht.1
        have ha1 := ht.2
        clear ht
        obtain ⟨LO, hLO⟩ : ∃ z, Lib.accLo (X / 16) = z := ⟨_, rfl⟩
        obtain ⟨HI, hHI⟩ : ∃ z, Lib.accHi (X / 16) = z := ⟨_, rfl⟩
        rw [hLO] at ha0 hlead
        rw [hHI] at ha1 hlead
        obtain ⟨y1, hy1⟩ : ∃ z, bt l0 1 = z := ⟨_, rfl⟩
        obtain ⟨y2, hy2⟩ : ∃ z, bt l0 2 = z := ⟨_, rfl⟩
        obtain ⟨y3, hy3⟩ : ∃ z, bt l0 3 = z := ⟨_, rfl⟩
        rw [hy1, hy2, hy3] at hlead
        rw [hy1] at hb1
        rw [hy2] at hb2
        rw [hy3] at hb3
        obtain ⟨SZ, hSZ⟩ : ∃ z, X % 8 = z := ⟨_, rfl⟩
        rw [hSZ] at hlead
        have HL := Lib.hid hlead
        have hq : ∀ j y, j < m0 → bt l0 j = y → (wr.alloc (Obj.cells #[.int .u8 (LO : Int), .int .u8 (HI : Int)] 49)).cell? ⟨b, o0 + j, none⟩ = some (.int .u8 (y : Int)) := fun j y hj hy => by
          have h := hcell j hj
          rw [hy] at h
          exact (World.cell?_alloc_some wr _ (Obj.cells #[.int .u8 (LO : Int), .int .u8 (HI : Int)] 49) (by rw [h]; rfl)).trans h
        have HQ := Lib.hid hq
        clear hq hlead hcell hbl ea hX TR hLO hHI V0 ha
        by_cases s2 : SZ = 2
        · as_aux_lemma =>
          subst s2
          have hSZz : (X : Int) % 8 = 2 := by omega
          go_upto_region 18 with fail
          go_cut [103] from 85 to 103 (fun c wx => c = .bool (decide (m0 < 2 ∨ y1 < LO ∨ HI < y1)) ∧ Below w.heap.size w wx)
          case first => as_aux_lemma =>
            by_cases q0 : m0 < 2
            · have q0z : (m0 : Int) < 2 := by omega
              go_big_quiet (fail)
              go_wp2
              go_meet
              exact ⟨congrArg Value.bool (decide_eq_true (p := m0 < 2 ∨ y1 < LO ∨ HI < y1) (by omega)).symm, below_drewN (hbw.alloc hbw.size _) _⟩
            · have q0z : ¬ ((m0 : Int) < 2) := by omega
              have hz1 : (1 : Int) < (m0 : Int) := by omega
              have kq1 := HQ.out 1 y1 (by omega) hy1
              by_cases p0 : y1 < LO
              · have p0z : (y1 : Int) < (LO : Int) := by omega
                go_big_quiet (fail)
                go_wp2
                go_meet
                exact ⟨congrArg Value.bool (decide_eq_true (p := m0 < 2 ∨ y1 < LO ∨ HI < y1) (by omega)).symm, below_drewN (hbw.alloc hbw.size _) _⟩
              · have p0z : ¬ (y1 : Int) < (LO : Int) := by omega
                by_cases p1 : HI < y1
                · have p1z : (HI : Int) < (y1 : Int) := by omega
                  go_big_quiet (fail)
                  go_wp2
                  go_meet
                  exact ⟨congrArg Value.bool (decide_eq_true (p := m0 < 2 ∨ y1 < LO ∨ HI < y1) (by omega)).symm, below_drewN (hbw.alloc hbw.size _) _⟩
                · have p1z : ¬ (HI : Int) < (y1 : Int) := by omega
                  go_big_quiet (fail)
                  go_wp2
                  go_meet
                  exact ⟨congrArg Value.bool (decide_eq_false (p := m0 < 2 ∨ y1 < LO ∨ HI < y1) (by omega)).symm, below_drewN (hbw.alloc hbw.size _) _⟩
          case rest => as_aux_lemma =>
            obtain ⟨rfl, hbc⟩ := hcut
            have hlead := HL.out
            simp only [Lib.checkN, Nat.reduceEqDiff, if_true, if_false] at hlead
            by_cases hb : m0 < 2 ∨ y1 < LO ∨ HI < y1
            · have hbd : decide (m0 < 2 ∨ y1 < LO ∨ HI < y1) = true := decide_eq_true hb
              rw [if_pos hb] at hlead
              have HR := Lib.hid hlead
              clear hlead
              go_wp2
              all_goals (go_ret; exact ⟨ret_bool (by rw [HR.out]), hbc⟩)
            · have hbd : decide (m0 < 2 ∨ y1 < LO ∨ HI < y1) = false := decide_eq_false hb
              rw [if_neg hb] at hlead
              have HR := Lib.hid hlead
              clear hlead
              have hge : 2 ≤ m0 := by omega
              have hgez : (2 : Int) ≤ (m0 : Int) := by omega
              have I9 := Lib.hid (I0.out.drop (m := 2) hge)
              by_cases e9 : m0 = 2
              · have I8 := Lib.hid (fun A => IsL.none_ w w.heap.size .u8 A (n := m0 - 2) (xs := l0.drop 2) I9.out.len (by omega))
                subst e9
                clear I9
                go_wp2
                go_roundg g'
                case measure => omega
                case rel => exact ⟨hbc, _, 0, l0.drop 2, rfl, I8.out _, HR.out.symm, by omega, by omega⟩
              go_wp2
              go_roundg g'
              case measure => omega
              case rel => exact ⟨hbc, _, m0 - 2, l0.drop 2, rfl, I9.out, HR.out.symm, by omega, by omega⟩
        by_cases s3 : SZ = 3
        · as_aux_lemma =>
          subst s3
          have hSZz : (X : Int) % 8 = 3 := by omega
          go_upto_region 22 with fail
          go_cut [138] from 108 to 138 (fun c wx => c = .bool (decide (m0 < 3 ∨ y1 < LO ∨ HI < y1 ∨ y2 < 128 ∨ 191 < y2)) ∧ Below w.heap.size w wx)
          case first => as_aux_lemma =>
            by_cases q0 : m0 < 3
            · have q0z : (m0 : Int) < 3 := by omega
              go_big_quiet (fail)
              go_wp2
              go_meet
              exact ⟨congrArg Value.bool (decide_eq_true (p := m0 < 3 ∨ y1 < LO ∨ HI < y1 ∨ y2 < 128 ∨ 191 < y2) (by omega)).symm, below_drewN (hbw.alloc hbw.size _) _⟩
            · have q0z : ¬ ((m0 : Int) < 3) := by omega
              have hz1 : (1 : Int) < (m0 : Int) := by omega
              have kq1 := HQ.out 1 y1 (by omega) hy1
              have hz2 : (2 : Int) < (m0 : Int) := by omega
              have kq2 := HQ.out 2 y2 (by omega) hy2
              by_cases p0 : y1 < LO
              · have p0z : (y1 : Int) < (LO : Int) := by omega
                go_big_quiet (fail)
                go_wp2
                go_meet
                exact ⟨congrArg Value.bool (decide_eq_true (p := m0 < 3 ∨ y1 < LO ∨ HI < y1 ∨ y2 < 128 ∨ 191 < y2) (by omega)).symm, below_drewN (hbw.alloc hbw.size _) _⟩
              · have p0z : ¬ (y1 : Int) < (LO : Int) := by omega
                by_cases p1 : HI < y1
                · have p1z : (HI : Int) < (y1 : Int) := by omega
                  go_big_quiet (fail)
                  go_wp2
                  go_meet
                  exact ⟨congrArg Value.bool (decide_eq_true (p := m0 < 3 ∨ y1 < LO ∨ HI < y1 ∨ y2 < 128 ∨ 191 < y2) (by omega)).symm, below_drewN (hbw.alloc hbw.size _) _⟩
                · have p1z : ¬ (HI : Int) < (y1 : Int) := by omega
                  by_cases p2 : y2 < 128
                  · have p2z : (y2 : Int) < 128 := by omega
                    go_big_quiet (fail)
                    go_wp2
                    go_meet
                    exact ⟨congrArg Value.bool (decide_eq_true (p := m0 < 3 ∨ y1 < LO ∨ HI < y1 ∨ y2 < 128 ∨ 191 < y2) (by omega)).symm, below_drewN (hbw.alloc hbw.size _) _⟩
                  · have p2z : ¬ (y2 : Int) < 128 := by omega
                    by_cases p3 : 191 < y2
                    · have p3z : (191 : Int) < (y2 : Int) := by omega
                      go_big_quiet (fail)
                      go_wp2
                      go_meet
                      exact ⟨congrArg Value.bool (decide_eq_true (p := m0 < 3 ∨ y1 < LO ∨ HI < y1 ∨ y2 < 128 ∨ 191 < y2) (by omega)).symm, below_drewN (hbw.alloc hbw.size _) _⟩
                    · have p3z : ¬ (191 : Int) < (y2 : Int) := by omega
                      go_big_quiet (fail)
                      go_wp2
                      go_meet
                      exact ⟨congrArg Value.bool (decide_eq_false (p := m0 < 3 ∨ y1 < LO ∨ HI < y1 ∨ y2 < 128 ∨ 191 < y2) (by omega)).symm, below_drewN (hbw.alloc hbw.size _) _⟩
          case rest => as_aux_lemma =>
            obtain ⟨rfl, hbc⟩ := hcut
            have hlead := HL.out
            simp only [Lib.checkN, Nat.reduceEqDiff, if_true, if_false] at hlead
            by_cases hb : m0 < 3 ∨ y1 < LO ∨ HI < y1 ∨ y2 < 128 ∨ 191 < y2
            · have hbd : decide (m0 < 3 ∨ y1 < LO ∨ HI < y1 ∨ y2 < 128 ∨ 191 < y2) = true := decide_eq_true hb
              rw [if_pos hb] at hlead
              have HR := Lib.hid hlead
              clear hlead
              go_wp2
              all_goals (go_ret; exact ⟨ret_bool (by rw [HR.out]), hbc⟩)
            · have hbd : decide (m0 < 3 ∨ y1 < LO ∨ HI < y1 ∨ y2 < 128 ∨ 191 < y2) = false := decide_eq_false hb
              rw [if_neg hb] at hlead
              have HR := Lib.hid hlead
              clear hlead
              have hge : 3 ≤ m0 := by omega
              have hgez : (3 : Int) ≤ (m0 : Int) := by omega
              have I9 := Lib.hid (I0.out.drop (m := 3) hge)
              by_cases e9 : m0 = 3
              · have I8 := Lib.hid (fun A => IsL.none_ w w.heap.size .u8 A (n := m0 - 3) (xs := l0.drop 3) I9.out.len (by omega))
                subst e9
                clear I9
                go_wp2
                go_roundg g'
                case measure => omega
                case rel => exact ⟨hbc, _, 0, l0.drop 3, rfl, I8.out _, HR.out.symm, by omega, by omega⟩
              go_wp2
              go_roundg g'
              case measure => omega
              case rel => exact ⟨hbc, _, m0 - 3, l0.drop 3, rfl, I9.out, HR.out.symm, by omega, by omega⟩
        by_cases s4 : SZ = 4
        · as_aux_lemma =>
          subst s4
          have hSZz : (X : Int) % 8 = 4 := by omega
          go_upto_region 26 with fail
          go_cut [185] from 143 to 185 (fun c wx => c = .bool (decide (m0 < 4 ∨ y1 < LO ∨ HI < y1 ∨ y2 < 128 ∨ 191 < y2 ∨ y3 < 128 ∨ 191 < y3)) ∧ Below w.heap.size w wx)
          case first => as_aux_lemma =>
            by_cases q0 : m0 < 4
            · have q0z : (m0 : Int) < 4 := by omega
              go_big_quiet (fail)
              go_wp2
              go_meet
              exact ⟨congrArg Value.bool (decide_eq_true (p := m0 < 4 ∨ y1 < LO ∨ HI < y1 ∨ y2 < 128 ∨ 191 < y2 ∨ y3 < 128 ∨ 191 < y3) (by omega)).symm, below_drewN (hbw.alloc hbw.size _) _⟩
            · have q0z : ¬ ((m0 : Int) < 4) := by omega
              have hz1 : (1 : Int) < (m0 : Int) := by omega
              have kq1 := HQ.out 1 y1 (by omega) hy1
              have hz2 : (2 : Int) < (m0 : Int) := by omega
              have kq2 := HQ.out 2 y2 (by omega) hy2
              have hz3 : (3 : Int) < (m0 : Int) := by omega
              have kq3 := HQ.out 3 y3 (by omega) hy3
              by_cases p0 : y1 < LO
              · have p0z : (y1 : Int) < (LO : Int) := by omega
                go_big_quiet (fail)
                go_wp2
                go_meet
                exact ⟨congrArg Value.bool (decide_eq_true (p := m0 < 4 ∨ y1 < LO ∨ HI < y1 ∨ y2 < 128 ∨ 191 < y2 ∨ y3 < 128 ∨ 191 < y3) (by omega)).symm, below_drewN (hbw.alloc hbw.size _) _⟩
              · have p0z : ¬ (y1 : Int) < (LO : Int) := by omega
                by_cases p1 : HI < y1
                · have p1z : (HI : Int) < (y1 : Int) := by omega
                  go_big_quiet (fail)
                  go_wp2
                  go_meet
                  exact ⟨congrArg Value.bool (decide_eq_true (p := m0 < 4 ∨ y1 < LO ∨ HI < y1 ∨ y2 < 128 ∨ 191 < y2 ∨ y3 < 128 ∨ 191 < y3) (by omega)).symm, below_drewN (hbw.alloc hbw.size _) _⟩
                · have p1z : ¬ (HI : Int) < (y1 : Int) := by omega
                  by_cases p2 : y2 < 128
                  · have p2z : (y2 : Int) < 128 := by omega
                    go_big_quiet (fail)
                    go_wp2
                    go_meet
                    exact ⟨congrArg Value.bool (decide_eq_true (p := m0 < 4 ∨ y1 < LO ∨ HI < y1 ∨ y2 < 128 ∨ 191 < y2 ∨ y3 < 128 ∨ 191 < y3) (by omega)).symm, below_drewN (hbw.alloc hbw.size _) _⟩
                  · have p2z : ¬ (y2 : Int) < 128 := by omega
                    by_cases p3 : 191 < y2
                    · have p3z : (191 : Int) < (y2 : Int) := by omega
                      go_big_quiet (fail)
                      go_wp2
                      go_meet
                      exact ⟨congrArg Value.bool (decide_eq_true (p := m0 < 4 ∨ y1 < LO ∨ HI < y1 ∨ y2 < 128 ∨ 191 < y2 ∨ y3 < 128 ∨ 191 < y3) (by omega)).symm, below_drewN (hbw.alloc hbw.size _) _⟩
                    · have p3z : ¬ (191 : Int) < (y2 : Int) := by omega
                      by_cases p4 : y3 < 128
                      · have p4z : (y3 : Int) < 128 := by omega
                        go_big_quiet (fail)
                        go_wp2
                        go_meet
                        exact ⟨congrArg Value.bool (decide_eq_true (p := m0 < 4 ∨ y1 < LO ∨ HI < y1 ∨ y2 < 128 ∨ 191 < y2 ∨ y3 < 128 ∨ 191 < y3) (by omega)).symm, below_drewN (hbw.alloc hbw.size _) _⟩
                      · have p4z : ¬ (y3 : Int) < 128 := by omega
                        by_cases p5 : 191 < y3
                        · have p5z : (191 : Int) < (y3 : Int) := by omega
                          go_big_quiet (fail)
                          go_wp2
                          go_meet
                          exact ⟨congrArg Value.bool (decide_eq_true (p := m0 < 4 ∨ y1 < LO ∨ HI < y1 ∨ y2 < 128 ∨ 191 < y2 ∨ y3 < 128 ∨ 191 < y3) (by omega)).symm, below_drewN (hbw.alloc hbw.size _) _⟩
                        · have p5z : ¬ (191 : Int) < (y3 : Int) := by omega
                          go_big_quiet (fail)
                          go_wp2
                          go_meet
                          exact ⟨congrArg Value.bool (decide_eq_false (p := m0 < 4 ∨ y1 < LO ∨ HI < y1 ∨ y2 < 128 ∨ 191 < y2 ∨ y3 < 128 ∨ 191 < y3) (by omega)).symm, below_drewN (hbw.alloc hbw.size _) _⟩
          case rest => as_aux_lemma =>
            obtain ⟨rfl, hbc⟩ := hcut
            have hlead := HL.out
            simp only [Lib.checkN, Nat.reduceEqDiff, if_true, if_false] at hlead
            by_cases hb : m0 < 4 ∨ y1 < LO ∨ HI < y1 ∨ y2 < 128 ∨ 191 < y2 ∨ y3 < 128 ∨ 191 < y3
            · have hbd : decide (m0 < 4 ∨ y1 < LO ∨ HI < y1 ∨ y2 < 128 ∨ 191 < y2 ∨ y3 < 128 ∨ 191 < y3) = true := decide_eq_true hb
              rw [if_pos hb] at hlead
              have HR := Lib.hid hlead
              clear hlead
              go_wp2
              all_goals (go_ret; exact ⟨ret_bool (by rw [HR.out]), hbc⟩)
            · have hbd : decide (m0 < 4 ∨ y1 < LO ∨ HI < y1 ∨ y2 < 128 ∨ 191 < y2 ∨ y3 < 128 ∨ 191 < y3) = false := decide_eq_false hb
              rw [if_neg hb] at hlead
              have HR := Lib.hid hlead
              clear hlead
              have hge : 4 ≤ m0 := by omega
              have hgez : (4 : Int) ≤ (m0 : Int) := by omega
              have I9 := Lib.hid (I0.out.drop (m := 4) hge)
              by_cases e9 : m0 = 4
              · have I8 := Lib.hid (fun A => IsL.none_ w w.heap.size .u8 A (n := m0 - 4) (xs := l0.drop 4) I9.out.len (by omega))
                subst e9
                clear I9
                go_wp2
                go_roundg g'
                case measure => omega
                case rel => exact ⟨hbc, _, 0, l0.drop 4, rfl, I8.out _, HR.out.symm, by omega, by omega⟩
              go_wp2
              go_roundg g'
              case measure => omega
              case rel => exact ⟨hbc, _, m0 - 4, l0.drop 4, rfl, I9.out, HR.out.symm, by omega, by omega⟩
        have e2 : ¬ ((X : Int) % 8 = 2) := by omega
        have e3 : ¬ ((X : Int) % 8 = 3) := by omega
        have e4 : ¬ ((X : Int) % 8 = 4) := by omega
        have e2b : (((X : Int) % 8) == 2) = false := by simp; omega
        have e3b : (((X : Int) % 8) == 3) = false := by simp; omega
        have e4b : (((X : Int) % 8) == 4) = false := by simp; omega
        have hlead := HL.out
        simp only [Lib.checkN, s2, s3, s4, if_false] at hlead
        have HR := Lib.hid hlead
        clear hlead
        go_wp2
        all_goals (go_ret; exact ⟨ret_bool (by rw [HR.out]), hbw.alloc hbw.size _⟩)
    · have h0z : ¬ ((0 : Int) < (m0 : Int)) := by omega
      have HR : Hid (true = ANS) := by
        show true = ANS
        rw [← V0.out, List.eq_nil_of_length_eq_zero (l := l0) (by have := I0.out.len; omega)]
        rfl
      go_wp2
      go_ret
      exact ⟨ret_bool HR.out, hbw⟩
    
theorem implValid_any (A : Option Addr) (n c : Nat) (xs : List Int) (w : World) (T : Tabs w) (h : IsL w w.heap.size .u8 A n xs) (hn : n ≤ 2147483648) :
    Calls Tryd.prog 22 #[.slice A n c] w fun e w' => e = .returned (.bool (valid xs)) ∧ Below w.heap.size w w' := by
  have hl := h.len
  have hf : FitL .u8 xs := h.fit
  have HC := Lib.hid (clone8_any A n c xs w h (by omega))
  have HA := Lib.hid (fun (w1 : World) (T1 : Tabs w1) (A1 : Option Addr) (c1 : Nat) h1 hc => valid_any A1 xs.length c1 xs w1 T1 h1 hc (by omega))
  have HT := Lib.hid T
  generalize valid xs = q at *
  clear h hl T
  go_enter Tryd.func22, Tryd.ntmps22
  go_wp2_with fail
  refine HC.out.mono ?_
  rintro e w1 ⟨A1, c1, rfl, h1, b1⟩
  have i1 := OwnsL.isL (e := 5) (k := .u8) h1 hf
  have hc1 : xs.length ≤ c1 := OwnsL.cap (e := 5) (k := .u8) (xs := xs) h1
  clear h1
  go_wp2_with fail
  refine (HA.out w1 (HT.out.keep b1) A1 c1 i1 hc1).mono ?_
  rintro e w2 ⟨rfl, b2⟩
  go_wp2
  go_ret
  exact ⟨rfl, b1.trans (b2.mono b1.size)⟩

end Go.Proofs.YtincmkjffohekaaDoor
