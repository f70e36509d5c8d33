/-
  Proved here: the contract of goutf8.ValidString and of impl's: whether the bytes are encodings alone. Condition: the tables lie as their initialisers lay them; at most 2^31 bytes.
-/
import Derived.Test.YtincmkjffohekaaDoorWrd
import Derived.Test.YtincmkjffohekaaDoorLss
import Derived.Test.YtincmkjffohekaaDoorWpl
import Derived.Deep.LoopGhost
import Derived.Deep.DeepMust
import Derived.Deep.CutBlock
import Derived.Laws.BitsAllLaws
namespace Go.Proofs.YtincmkjffohekaaDoor
open Go.RowKit

set_option maxHeartbeats 16000000 in
set_option maxRecDepth 1000000 in
theorem svalid_any (s : ByteArray) (w : World) (T : Tabs w) :
    Calls Tryd.prog 51 #[.string s] w fun e w' => e = .returned (.bool (valid (bsL s))) ∧ Below w.heap.size w w' := by
  obtain ⟨ANS, hANS⟩ : ∃ z, valid (bsL s) = z := ⟨_, rfl⟩
  rw [hANS]
  have HA := Lib.hid hANS
  have HT := Lib.hid T
  clear T hANS
  go_enter Tryd.func51, Tryd.ntmps51
  go_wp2
  go_loopg [0] (s.size + 1) (fun gk s0 wx => Below w.heap.size w wx ∧ ∃ (t0 : ByteArray) (l0 : List Int), s0 = .string t0 ∧ Hid (bsL t0 = l0) ∧ Hid (valid l0 = ANS) ∧ t0.size < gk ∧ t0.size ≤ s.size)
  case atStart => exact ⟨Below.refl _ _, s, bsL s, rfl, (show bsL s = bsL s from rfl), HA.out, by omega, by omega⟩
  case round =>
    obtain ⟨hbw, t0, l0, rfl, I0, V0, hg, hmn⟩ := hrel
    by_cases h0 : 0 < t0.size
    · obtain ⟨g', rfl⟩ : ∃ g', gk = g' + 1 := ⟨gk - 1, by omega⟩
      have h0z : (0 : Int) < (t0.size : Int) := by omega
      have hbyte : Bts l0 := by rw [← I0.out]; exact bsL_byte _
      have hlen : l0.length = t0.size := by rw [← I0.out, bsL_len]
      have hcell : ∀ j (hj : j < t0.size), (t0[j]'hj).toNat = bt l0 j := fun j hj => by rw [← I0.out]; exact (bt_at (bsL_at t0 j hj)).symm
      have hbl := bt_lt hbyte
      have ea := bt_get hbyte (j := 0) (by omega)
      obtain ⟨x0, hx0⟩ : ∃ z, t0[0]'h0 = z := ⟨_, rfl⟩
      have ka := hcell 0 h0
      rw [hx0] at ka
      obtain ⟨a, ha⟩ : ∃ z, bt l0 0 = z := ⟨_, rfl⟩
      have ral : a < 256 := ha ▸ hbl 0
      rw [ha] at ka ea
      have hxa : (x0.toNat : Int) = (a : Int) := by rw [ka]
      clear ka
      by_cases hasc : a < 128
      · as_aux_lemma =>
        have hascz : (a : Int) < 128 := by omega
        have A0 := ascL_one ea hasc
        obtain ⟨t1, ht1⟩ : ∃ z, t0.extract 1 t0.size = z := ⟨_, rfl⟩
        obtain ⟨l1, hl1⟩ : ∃ z, l0.drop 1 = z := ⟨_, rfl⟩
        have z1 : t1.size + 1 = t0.size := by rw [← ht1, Lib.ext_size]; omega
        have I1 : Hid (bsL t1 = l1) := by show bsL t1 = l1; rw [← ht1, bsL_ext, I0.out, hl1]
        have V1 : Hid (valid l1 = ANS) := by show valid l1 = ANS; rw [← hl1]; exact (valid_asc 1 (A0)).trans V0.out
        clear V0 hl1 A0 ea hcell hbl ha hbyte hlen
        have hs0_1 : (1 : Int) ≤ (t0.size : Int) := by omega
        by_cases c8 : 8 < t1.size
        · have c8z : (8 : Int) < (t1.size : Int) := by omega
          obtain ⟨W1, hW1⟩ : ∃ z, leL l1 = z := ⟨_, rfl⟩
          have lW1 : W1 < 18446744073709551616 := hW1 ▸ leL_lt
          have C1 : ∀ q, Calls Tryd.prog 59 #[.string t1] (wr.drewN q) fun e w' => e = .returned (.int .u64 (W1 : Int)) ∧ ∃ r, w' = (wr.drewN q).drewN r := fun q => by rw [← hW1, ← I1.out]; exact sword_any _ _ (by omega)
          have K1 : W1 &&& 9259542123273814144 = 0 ↔ AscL l1 8 := by rw [← hW1]; exact leL_asc (by rw [← I1.out]; exact bsL_byte _) (by have := (show l1.length = t1.size by rw [← I1.out, bsL_len]); omega)
          clear hW1
          have hand1 : bits .and .u64 (W1 : Int) 9259542123273814144 = ((W1 &&& 9259542123273814144 : Nat) : Int) := u64_and_nat W1 9259542123273814144 lW1 (by omega)
          obtain ⟨Z1, hZ1⟩ : ∃ z, W1 &&& 9259542123273814144 = z := ⟨_, rfl⟩
          rw [hZ1] at hand1 K1
          clear hZ1
          have C1' : Calls Tryd.prog 59 #[.string t1] wr fun e w' => e = .returned (.int .u64 (W1 : Int)) ∧ ∃ r, w' = wr.drewN r := C1 0
          clear C1
          by_cases hz1 : Z1 = 0
          · have hz1b : ((Z1 : Int) == 0) = true := by simp [hz1]
            obtain ⟨t2, ht2⟩ : ∃ z, t1.extract 8 t1.size = z := ⟨_, rfl⟩
            obtain ⟨l2, hl2⟩ : ∃ z, l1.drop 8 = z := ⟨_, rfl⟩
            have z2 : t2.size + 8 = t1.size := by rw [← ht2, Lib.ext_size]; omega
            have I2 : Hid (bsL t2 = l2) := by show bsL t2 = l2; rw [← ht2, bsL_ext, I1.out, hl2]
            have V2 : Hid (valid l2 = ANS) := by show valid l2 = ANS; rw [← hl2]; exact (valid_asc 8 (K1.1 hz1)).trans V1.out
            have hs1_8 : (8 : Int) ≤ (t1.size : Int) := by omega
            clear K1 V1 hl2
            go_wp2_with (go_at_call 59; go_must (refine C1'.mono ?_; rintro e W1 ⟨rfl, q1, rfl⟩))
            have hb1 : Below w.heap.size w (wr.drewN q1) := below_drewN hbw q1
            generalize wr.drewN q1 = wq at hb1 ⊢
            clear C1' hbw
            by_cases c16 : 16 < t2.size
            · have c16z : (16 : Int) < (t2.size : Int) := by omega
              have hs2_8 : (8 : Int) ≤ (t2.size : Int) := by omega
              obtain ⟨t2b, ht2b⟩ : ∃ z, t2.extract 8 t2.size = z := ⟨_, rfl⟩
              obtain ⟨l2b, hl2b⟩ : ∃ z, l2.drop 8 = z := ⟨_, rfl⟩
              have z2b : t2b.size + 8 = t2.size := by rw [← ht2b, Lib.ext_size]; omega
              have I2b : Hid (bsL t2b = l2b) := by show bsL t2b = l2b; rw [← ht2b, bsL_ext, I2.out, hl2b]
              obtain ⟨W2, hW2⟩ : ∃ z, leL l2 = z := ⟨_, rfl⟩
              have lW2 : W2 < 18446744073709551616 := hW2 ▸ leL_lt
              have C2 : ∀ q, Calls Tryd.prog 59 #[.string t2] (wq.drewN q) fun e w' => e = .returned (.int .u64 (W2 : Int)) ∧ ∃ r, w' = (wq.drewN q).drewN r := fun q => by rw [← hW2, ← I2.out]; exact sword_any _ _ (by omega)
              have K2 : W2 &&& 9259542123273814144 = 0 ↔ AscL l2 8 := by rw [← hW2]; exact leL_asc (by rw [← I2.out]; exact bsL_byte _) (by have := (show l2.length = t2.size by rw [← I2.out, bsL_len]); omega)
              clear hW2
              obtain ⟨W2b, hW2b⟩ : ∃ z, leL l2b = z := ⟨_, rfl⟩
              have lW2b : W2b < 18446744073709551616 := hW2b ▸ leL_lt
              have C2b : ∀ q, Calls Tryd.prog 59 #[.string t2b] (wq.drewN q) fun e w' => e = .returned (.int .u64 (W2b : Int)) ∧ ∃ r, w' = (wq.drewN q).drewN r := fun q => by rw [← hW2b, ← I2b.out]; exact sword_any _ _ (by omega)
              have K2b : W2b &&& 9259542123273814144 = 0 ↔ AscL l2b 8 := by rw [← hW2b]; exact leL_asc (by rw [← I2b.out]; exact bsL_byte _) (by have := (show l2b.length = t2b.size by rw [← I2b.out, bsL_len]); omega)
              clear hW2b
              have hor2 : bits .or .u64 (W2 : Int) (W2b : Int) = ((W2 ||| W2b : Nat) : Int) := u64_or_nat W2 W2b lW2 lW2b
              have lor2 : W2 ||| W2b < 18446744073709551616 := Nat.or_lt_two_pow (n := 64) lW2 lW2b
              have hand2 : bits .and .u64 ((W2 ||| W2b : Nat) : Int) 9259542123273814144 = (((W2 ||| W2b) &&& 9259542123273814144 : Nat) : Int) := u64_and_nat _ 9259542123273814144 lor2 (by omega)
              have k2 : (W2 ||| W2b) &&& 9259542123273814144 = 0 → AscL l2 16 := fun h0' => by
                obtain ⟨e1, e2⟩ := (Lib.or_mask W2 W2b _).1 h0'
                exact ascL_add (a := 8) (b := 8) (K2.1 e1) (by rw [hl2b]; exact K2b.1 e2)
              obtain ⟨O2, hO2⟩ : ∃ z, W2 ||| W2b = z := ⟨_, rfl⟩
              rw [hO2] at hor2 hand2 k2
              obtain ⟨Z2, hZ2⟩ : ∃ z, O2 &&& 9259542123273814144 = z := ⟨_, rfl⟩
              rw [hZ2] at hand2 k2
              clear K2 K2b lor2 hO2 hZ2 hl2b
              by_cases hz2 : Z2 = 0
              · as_aux_lemma =>
                have hz2b : ((Z2 : Int) == 0) = true := by simp [hz2]
                obtain ⟨t3, ht3⟩ : ∃ z, t2.extract 16 t2.size = z := ⟨_, rfl⟩
                obtain ⟨l3, hl3⟩ : ∃ z, l2.drop 16 = z := ⟨_, rfl⟩
                have z3 : t3.size + 16 = t2.size := by rw [← ht3, Lib.ext_size]; omega
                have I3 : Hid (bsL t3 = l3) := by show bsL t3 = l3; rw [← ht3, bsL_ext, I2.out, hl3]
                have V3 : Hid (valid l3 = ANS) := by show valid l3 = ANS; rw [← hl3]; exact (valid_asc 16 (k2 hz2)).trans V2.out
                have hs2_16 : (16 : Int) ≤ (t2.size : Int) := by omega
                clear k2 V2 hl3
                go_big_quiet (first | (with_reducible refine Calls.quiet_of (C2 _)) | (with_reducible refine Calls.quiet_of (C2b _)))
                have hb2 : Below w.heap.size w (wq.drewN nq) := below_drewN hb1 nq
                generalize wq.drewN nq = wq2 at hb2 ⊢
                clear C2 C2b hb1
                go_wp2
                go_loopg [0] (t3.size + 1) (fun g2 s0 wx => Below w.heap.size w wx ∧ ∃ (t4 : ByteArray) (l4 : List Int), s0 = .string t4 ∧ Hid (bsL t4 = l4) ∧ Hid (valid l4 = ANS) ∧ t4.size < g2 ∧ t4.size ≤ t3.size)
                case atStart => exact ⟨hb2, t3, l3, rfl, I3.out, V3.out, by omega, Nat.le_refl _⟩
                case round =>
                  obtain ⟨hbu, t4, l4, rfl, I4, V4, hgu, hut⟩ := hrel
                  by_cases c32 : 32 < t4.size
                  · obtain ⟨g3, rfl⟩ : ∃ g3, gk = g3 + 1 := ⟨gk - 1, by omega⟩
                    have c32z : (32 : Int) < (t4.size : Int) := by omega
                    have hs4_8 : (8 : Int) ≤ (t4.size : Int) := by omega
                    obtain ⟨t4b, ht4b⟩ : ∃ z, t4.extract 8 t4.size = z := ⟨_, rfl⟩
                    obtain ⟨l4b, hl4b⟩ : ∃ z, l4.drop 8 = z := ⟨_, rfl⟩
                    have z4b : t4b.size + 8 = t4.size := by rw [← ht4b, Lib.ext_size]; omega
                    have I4b : Hid (bsL t4b = l4b) := by show bsL t4b = l4b; rw [← ht4b, bsL_ext, I4.out, hl4b]
                    have hs4_16 : (16 : Int) ≤ (t4.size : Int) := by omega
                    obtain ⟨t4c, ht4c⟩ : ∃ z, t4.extract 16 t4.size = z := ⟨_, rfl⟩
                    obtain ⟨l4c, hl4c⟩ : ∃ z, l4.drop 16 = z := ⟨_, rfl⟩
                    have z4c : t4c.size + 16 = t4.size := by rw [← ht4c, Lib.ext_size]; omega
                    have I4c : Hid (bsL t4c = l4c) := by show bsL t4c = l4c; rw [← ht4c, bsL_ext, I4.out, hl4c]
                    have hs4_24 : (24 : Int) ≤ (t4.size : Int) := by omega
                    obtain ⟨t4d, ht4d⟩ : ∃ z, t4.extract 24 t4.size = z := ⟨_, rfl⟩
                    obtain ⟨l4d, hl4d⟩ : ∃ z, l4.drop 24 = z := ⟨_, rfl⟩
                    have z4d : t4d.size + 24 = t4.size := by rw [← ht4d, Lib.ext_size]; omega
                    have I4d : Hid (bsL t4d = l4d) := by show bsL t4d = l4d; rw [← ht4d, bsL_ext, I4.out, hl4d]
                    obtain ⟨W4, hW4⟩ : ∃ z, leL l4 = z := ⟨_, rfl⟩
                    have lW4 : W4 < 18446744073709551616 := hW4 ▸ leL_lt
                    have C4 : ∀ q, Calls Tryd.prog 59 #[.string t4] (wr.drewN q) fun e w' => e = .returned (.int .u64 (W4 : Int)) ∧ ∃ r, w' = (wr.drewN q).drewN r := fun q => by rw [← hW4, ← I4.out]; exact sword_any _ _ (by omega)
                    have K4 : W4 &&& 9259542123273814144 = 0 ↔ AscL l4 8 := by rw [← hW4]; exact leL_asc (by rw [← I4.out]; exact bsL_byte _) (by have := (show l4.length = t4.size by rw [← I4.out, bsL_len]); omega)
                    clear hW4
                    obtain ⟨W4b, hW4b⟩ : ∃ z, leL l4b = z := ⟨_, rfl⟩
                    have lW4b : W4b < 18446744073709551616 := hW4b ▸ leL_lt
                    have C4b : ∀ q, Calls Tryd.prog 59 #[.string t4b] (wr.drewN q) fun e w' => e = .returned (.int .u64 (W4b : Int)) ∧ ∃ r, w' = (wr.drewN q).drewN r := fun q => by rw [← hW4b, ← I4b.out]; exact sword_any _ _ (by omega)
                    have K4b : W4b &&& 9259542123273814144 = 0 ↔ AscL l4b 8 := by rw [← hW4b]; exact leL_asc (by rw [← I4b.out]; exact bsL_byte _) (by have := (show l4b.length = t4b.size by rw [← I4b.out, bsL_len]); omega)
                    clear hW4b
                    obtain ⟨W4c, hW4c⟩ : ∃ z, leL l4c = z := ⟨_, rfl⟩
                    have lW4c : W4c < 18446744073709551616 := hW4c ▸ leL_lt
                    have C4c : ∀ q, Calls Tryd.prog 59 #[.string t4c] (wr.drewN q) fun e w' => e = .returned (.int .u64 (W4c : Int)) ∧ ∃ r, w' = (wr.drewN q).drewN r := fun q => by rw [← hW4c, ← I4c.out]; exact sword_any _ _ (by omega)
                    have K4c : W4c &&& 9259542123273814144 = 0 ↔ AscL l4c 8 := by rw [← hW4c]; exact leL_asc (by rw [← I4c.out]; exact bsL_byte _) (by have := (show l4c.length = t4c.size by rw [← I4c.out, bsL_len]); omega)
                    clear hW4c
                    obtain ⟨W4d, hW4d⟩ : ∃ z, leL l4d = z := ⟨_, rfl⟩
                    have lW4d : W4d < 18446744073709551616 := hW4d ▸ leL_lt
                    have C4d : ∀ q, Calls Tryd.prog 59 #[.string t4d] (wr.drewN q) fun e w' => e = .returned (.int .u64 (W4d : Int)) ∧ ∃ r, w' = (wr.drewN q).drewN r := fun q => by rw [← hW4d, ← I4d.out]; exact sword_any _ _ (by omega)
                    have K4d : W4d &&& 9259542123273814144 = 0 ↔ AscL l4d 8 := by rw [← hW4d]; exact leL_asc (by rw [← I4d.out]; exact bsL_byte _) (by have := (show l4d.length = t4d.size by rw [← I4d.out, bsL_len]); omega)
                    clear hW4d
                    have ho1_ : bits .or .u64 (W4 : Int) (W4b : Int) = ((W4 ||| W4b : Nat) : Int) := u64_or_nat W4 W4b lW4 lW4b
                    have ho2_ : bits .or .u64 (W4c : Int) (W4d : Int) = ((W4c ||| W4d : Nat) : Int) := u64_or_nat W4c W4d lW4c lW4d
                    have lo1 : W4 ||| W4b < 18446744073709551616 := Nat.or_lt_two_pow (n := 64) lW4 lW4b
                    have lo2 : W4c ||| W4d < 18446744073709551616 := Nat.or_lt_two_pow (n := 64) lW4c lW4d
                    have ho3_ : bits .or .u64 ((W4 ||| W4b : Nat) : Int) ((W4c ||| W4d : Nat) : Int) = (((W4 ||| W4b) ||| (W4c ||| W4d) : Nat) : Int) := u64_or_nat _ _ lo1 lo2
                    have lo3 : (W4 ||| W4b) ||| (W4c ||| W4d) < 18446744073709551616 := Nat.or_lt_two_pow (n := 64) lo1 lo2
                    have hand3 : bits .and .u64 (((W4 ||| W4b) ||| (W4c ||| W4d) : Nat) : Int) 9259542123273814144 = ((((W4 ||| W4b) ||| (W4c ||| W4d)) &&& 9259542123273814144 : Nat) : Int) := u64_and_nat _ 9259542123273814144 lo3 (by omega)
                    have k3 : ((W4 ||| W4b) ||| (W4c ||| W4d)) &&& 9259542123273814144 = 0 → AscL l4 32 := fun h0' => by
                      obtain ⟨e01, e23⟩ := (Lib.or_mask _ _ _).1 h0'
                      obtain ⟨e0, e1⟩ := (Lib.or_mask _ _ _).1 e01
                      obtain ⟨e2, e3⟩ := (Lib.or_mask _ _ _).1 e23
                      have s16 : AscL l4 16 := ascL_add (a := 8) (b := 8) (K4.1 e0) (by rw [hl4b]; exact K4b.1 e1)
                      have s24 : AscL l4 24 := ascL_add (a := 16) (b := 8) s16 (by rw [hl4c]; exact K4c.1 e2)
                      exact ascL_add (a := 24) (b := 8) s24 (by rw [hl4d]; exact K4d.1 e3)
                    obtain ⟨P1, hP1⟩ : ∃ z, W4 ||| W4b = z := ⟨_, rfl⟩
                    obtain ⟨P2, hP2⟩ : ∃ z, W4c ||| W4d = z := ⟨_, rfl⟩
                    rw [hP1, hP2] at ho3_ hand3 k3
                    rw [hP1] at ho1_
                    rw [hP2] at ho2_
                    obtain ⟨P3, hP3⟩ : ∃ z, P1 ||| P2 = z := ⟨_, rfl⟩
                    rw [hP3] at ho3_ hand3 k3
                    obtain ⟨Z3, hZ3⟩ : ∃ z, P3 &&& 9259542123273814144 = z := ⟨_, rfl⟩
                    rw [hZ3] at hand3 k3
                    clear K4 K4b K4c K4d lo1 lo2 lo3 hP1 hP2 hP3 hZ3 hl4b hl4c hl4d
                    by_cases hz3 : Z3 = 0
                    · as_aux_lemma =>
                      have hz3b : ((Z3 : Int) == 0) = true := by simp [hz3]
                      obtain ⟨t5, ht5⟩ : ∃ z, t4.extract 32 t4.size = z := ⟨_, rfl⟩
                      obtain ⟨l5, hl5⟩ : ∃ z, l4.drop 32 = z := ⟨_, rfl⟩
                      have z5 : t5.size + 32 = t4.size := by rw [← ht5, Lib.ext_size]; omega
                      have I5 : Hid (bsL t5 = l5) := by show bsL t5 = l5; rw [← ht5, bsL_ext, I4.out, hl5]
                      have V5 : Hid (valid l5 = ANS) := by show valid l5 = ANS; rw [← hl5]; exact (valid_asc 32 (k3 hz3)).trans V4.out
                      have hs4_32 : (32 : Int) ≤ (t4.size : Int) := by omega
                      clear k3 V4 hl5
                      go_wp2_with fail
                      go_big_quiet (first | (with_reducible refine Calls.quiet_of (C4 _)) | (with_reducible refine Calls.quiet_of (C4b _)) | (with_reducible refine Calls.quiet_of (C4c _)) | (with_reducible refine Calls.quiet_of (C4d _)))
                      go_wp2
                      go_roundg g3
                      case measure => omega
                      case rel => exact ⟨below_drewN hbu nq, t5, l5, rfl, I5.out, V5.out, by omega, by omega⟩
                    · as_aux_lemma =>
                      have hz3b : ((Z3 : Int) == 0) = false := by simp; omega
                      go_wp2_with fail
                      go_big_quiet (first | (with_reducible refine Calls.quiet_of (C4 _)) | (with_reducible refine Calls.quiet_of (C4b _)) | (with_reducible refine Calls.quiet_of (C4c _)) | (with_reducible refine Calls.quiet_of (C4d _)))
                      go_wp2
                      go_roundg g'
                      case measure => omega
                      case rel => exact ⟨below_drewN hbu nq, t4, l4, rfl, I4.out, V4.out, by omega, by omega⟩
                  · as_aux_lemma =>
                    have c32z : ¬ ((32 : Int) < (t4.size : Int)) := by omega
                    have c32b : decide ((32 : Int) < (t4.size : Int)) = false := decide_eq_false c32z
                    go_wp2_with fail
                    go_big_quiet (fail)
                    go_wp2
                    go_roundg g'
                    case measure => omega
                    case rel => exact ⟨below_drewN hbu nq, t4, l4, rfl, I4.out, V4.out, by omega, by omega⟩
              · as_aux_lemma =>
                have hz2b : ((Z2 : Int) == 0) = false := by simp; omega
                go_big_quiet (first | (with_reducible refine Calls.quiet_of (C2 _)) | (with_reducible refine Calls.quiet_of (C2b _)))
                go_wp2
                go_roundg g'
                case measure => omega
                case rel => exact ⟨below_drewN hb1 nq, t2, l2, rfl, I2.out, V2.out, by omega, by omega⟩
            · as_aux_lemma =>
              have c16z : ¬ ((16 : Int) < (t2.size : Int)) := by omega
              have c16b : decide ((16 : Int) < (t2.size : Int)) = false := decide_eq_false c16z
              go_big_quiet (fail)
              go_wp2
              go_roundg g'
              case measure => omega
              case rel => exact ⟨below_drewN hb1 nq, t2, l2, rfl, I2.out, V2.out, by omega, by omega⟩
          · as_aux_lemma =>
            have hz1b : ((Z1 : Int) == 0) = false := by simp; omega
            go_wp2_with (go_at_call 59; go_must (refine C1'.mono ?_; rintro e W1 ⟨rfl, q1, rfl⟩))
            go_roundg g'
            case measure => omega
            case rel => exact ⟨below_drewN hbw q1, t1, l1, rfl, I1.out, V1.out, by omega, by omega⟩
        · as_aux_lemma =>
          have c8z : ¬ ((8 : Int) < (t1.size : Int)) := by omega
          go_wp2
          go_roundg g'
          case measure => omega
          case rel => exact ⟨hbw, t1, l1, rfl, I1.out, V1.out, by omega, by omega⟩
      · as_aux_lemma =>
        have hascz : ¬ (a : Int) < 128 := by omega
        have hlen0 : l0.length = t0.size := hlen
        have hlead := valid_lead hbyte (by omega) (by rw [ha]; omega)
        rw [V0.out, hlen0, ha] at hlead
        have TR := HT.out.keep hbw
        have hc0 := TR.2.1 a ral
        have hXlt := first_lt a
        have hb1 := hbl 1
        have hb2 := hbl 2
        have hb3 := hbl 3
        have ht := accept_idx TR hXlt
        obtain ⟨X, hX⟩ : ∃ z, Lib.firstT a = z := ⟨_, rfl⟩
        rw [hX] at hc0 hXlt hlead ht
        have h7 := and7 ⟨X, hXlt⟩
        simp only at h7
        have ha0 := ht.1
        have ha1 := ht.2
        clear ht
        obtain ⟨LO, hLO⟩ : ∃ z, Lib.accLo (X / 16) = z := ⟨_, rfl⟩
        obtain ⟨HI, hHI⟩ : ∃ z, Lib.accHi (X / 16) = z := ⟨_, rfl⟩
        rw [hLO] at ha0 hlead
        rw [hHI] at ha1 hlead
        obtain ⟨y1, hy1⟩ : ∃ z, bt l0 1 = z := ⟨_, rfl⟩
        obtain ⟨y2, hy2⟩ : ∃ z, bt l0 2 = z := ⟨_, rfl⟩
        obtain ⟨y3, hy3⟩ : ∃ z, bt l0 3 = z := ⟨_, rfl⟩
        rw [hy1, hy2, hy3] at hlead
        rw [hy1] at hb1
        rw [hy2] at hb2
        rw [hy3] at hb3
        obtain ⟨SZ, hSZ⟩ : ∃ z, X % 8 = z := ⟨_, rfl⟩
        rw [hSZ] at hlead
        have HL := Lib.hid hlead
        have HQ := Lib.hid (show ∀ j y (hj : j < t0.size), bt l0 j = y → (t0[j]'hj).toNat = y from fun j y hj hy => by rw [hcell j hj, hy])
        clear hlead hcell hbl ea hX TR hLO hHI V0 ha hbyte
        by_cases s2 : SZ = 2
        · as_aux_lemma =>
          subst s2
          have hSZz : (X : Int) % 8 = 2 := by omega
          go_upto_region 17 with fail
          go_cut [94] from 78 to 94 (fun c wx => c = .bool (decide (t0.size < 2 ∨ y1 < LO ∨ HI < y1)) ∧ Below w.heap.size w wx)
          case first => as_aux_lemma =>
            by_cases q0 : t0.size < 2
            · have q0z : (t0.size : Int) < 2 := by omega
              go_big_quiet (fail)
              go_wp2
              go_meet
              exact ⟨congrArg Value.bool (decide_eq_true (p := t0.size < 2 ∨ y1 < LO ∨ HI < y1) (by omega)).symm, below_drewN (hbw.alloc hbw.size _) _⟩
            · have q0z : ¬ ((t0.size : Int) < 2) := by omega
              have hz1 : (1 : Int) < (t0.size : Int) := by omega
              have hp1 : 1 < t0.size := by omega
              obtain ⟨x1, hx1⟩ : ∃ z, t0[1]'hp1 = z := ⟨_, rfl⟩
              have hxy1 : (x1.toNat : Int) = (y1 : Int) := by have h := HQ.out 1 y1 hp1 hy1; rw [hx1] at h; omega
              by_cases p0 : y1 < LO
              · have p0z : (y1 : Int) < (LO : Int) := by omega
                go_big_quiet (fail)
                go_wp2
                go_meet
                exact ⟨congrArg Value.bool (decide_eq_true (p := t0.size < 2 ∨ y1 < LO ∨ HI < y1) (by omega)).symm, below_drewN (hbw.alloc hbw.size _) _⟩
              · have p0z : ¬ (y1 : Int) < (LO : Int) := by omega
                by_cases p1 : HI < y1
                · have p1z : (HI : Int) < (y1 : Int) := by omega
                  go_big_quiet (fail)
                  go_wp2
                  go_meet
                  exact ⟨congrArg Value.bool (decide_eq_true (p := t0.size < 2 ∨ y1 < LO ∨ HI < y1) (by omega)).symm, below_drewN (hbw.alloc hbw.size _) _⟩
                · have p1z : ¬ (HI : Int) < (y1 : Int) := by omega
                  go_big_quiet (fail)
                  go_wp2
                  go_meet
                  exact ⟨congrArg Value.bool (decide_eq_false (p := t0.size < 2 ∨ y1 < LO ∨ HI < y1) (by omega)).symm, below_drewN (hbw.alloc hbw.size _) _⟩
          case rest => as_aux_lemma =>
            obtain ⟨rfl, hbc⟩ := hcut
            have hlead := HL.out
            simp only [Lib.checkN, Nat.reduceEqDiff, if_true, if_false] at hlead
            by_cases hb : t0.size < 2 ∨ y1 < LO ∨ HI < y1
            · have hbd : decide (t0.size < 2 ∨ y1 < LO ∨ HI < y1) = true := decide_eq_true hb
              rw [if_pos hb] at hlead
              have HR := Lib.hid hlead
              clear hlead
              go_wp2
              all_goals (go_ret; exact ⟨ret_bool (by rw [HR.out]), hbc⟩)
            · have hbd : decide (t0.size < 2 ∨ y1 < LO ∨ HI < y1) = false := decide_eq_false hb
              rw [if_neg hb] at hlead
              have HR := Lib.hid hlead
              clear hlead
              have hge : 2 ≤ t0.size := by omega
              have hgez : (2 : Int) ≤ (t0.size : Int) := by omega
              have I9 : Hid (bsL (t0.extract 2 t0.size) = l0.drop 2) := by show bsL (t0.extract 2 t0.size) = l0.drop 2; rw [bsL_ext, I0.out]
              go_wp2
              go_roundg g'
              case measure => omega
              case rel => exact ⟨hbc, _, l0.drop 2, rfl, I9.out, HR.out.symm, by rw [Lib.ext_size]; omega, by rw [Lib.ext_size]; omega⟩
        by_cases s3 : SZ = 3
        · as_aux_lemma =>
          subst s3
          have hSZz : (X : Int) % 8 = 3 := by omega
          go_upto_region 21 with fail
          go_cut [125] from 99 to 125 (fun c wx => c = .bool (decide (t0.size < 3 ∨ y1 < LO ∨ HI < y1 ∨ y2 < 128 ∨ 191 < y2)) ∧ Below w.heap.size w wx)
          case first => as_aux_lemma =>
            by_cases q0 : t0.size < 3
            · have q0z : (t0.size : Int) < 3 := by omega
              go_big_quiet (fail)
              go_wp2
              go_meet
              exact ⟨congrArg Value.bool (decide_eq_true (p := t0.size < 3 ∨ y1 < LO ∨ HI < y1 ∨ y2 < 128 ∨ 191 < y2) (by omega)).symm, below_drewN (hbw.alloc hbw.size _) _⟩
            · have q0z : ¬ ((t0.size : Int) < 3) := by omega
              have hz1 : (1 : Int) < (t0.size : Int) := by omega
              have hp1 : 1 < t0.size := by omega
              obtain ⟨x1, hx1⟩ : ∃ z, t0[1]'hp1 = z := ⟨_, rfl⟩
              have hxy1 : (x1.toNat : Int) = (y1 : Int) := by have h := HQ.out 1 y1 hp1 hy1; rw [hx1] at h; omega
              have hz2 : (2 : Int) < (t0.size : Int) := by omega
              have hp2 : 2 < t0.size := by omega
              obtain ⟨x2, hx2⟩ : ∃ z, t0[2]'hp2 = z := ⟨_, rfl⟩
              have hxy2 : (x2.toNat : Int) = (y2 : Int) := by have h := HQ.out 2 y2 hp2 hy2; rw [hx2] at h; omega
              by_cases p0 : y1 < LO
              · have p0z : (y1 : Int) < (LO : Int) := by omega
                go_big_quiet (fail)
                go_wp2
                go_meet
                exact ⟨congrArg Value.bool (decide_eq_true (p := t0.size < 3 ∨ y1 < LO ∨ HI < y1 ∨ y2 < 128 ∨ 191 < y2) (by omega)).symm, below_drewN (hbw.alloc hbw.size _) _⟩
              · have p0z : ¬ (y1 : Int) < (LO : Int) := by omega
                by_cases p1 : HI < y1
                · have p1z : (HI : Int) < (y1 : Int) := by omega
                  go_big_quiet (fail)
                  go_wp2
                  go_meet
                  exact ⟨congrArg Value.bool (decide_eq_true (p := t0.size < 3 ∨ y1 < LO ∨ HI < y1 ∨ y2 < 128 ∨ 191 < y2) (by omega)).symm, below_drewN (hbw.alloc hbw.size _) _⟩
                · have p1z : ¬ (HI : Int) < (y1 : Int) := by omega
                  by_cases p2 : y2 < 128
                  · have p2z : (y2 : Int) < 128 := by omega
                    go_big_quiet (fail)
                    go_wp2
                    go_meet
                    exact ⟨congrArg Value.bool (decide_eq_true (p := t0.size < 3 ∨ y1 < LO ∨ HI < y1 ∨ y2 < 128 ∨ 191 < y2) (by omega)).symm, below_drewN (hbw.alloc hbw.size _) _⟩
                  · have p2z : ¬ (y2 : Int) < 128 := by omega
                    by_cases p3 : 191 < y2
                    · have p3z : (191 : Int) < (y2 : Int) := by omega
                      go_big_quiet (fail)
                      go_wp2
                      go_meet
                      exact ⟨congrArg Value.bool (decide_eq_true (p := t0.size < 3 ∨ y1 < LO ∨ HI < y1 ∨ y2 < 128 ∨ 191 < y2) (by omega)).symm, below_drewN (hbw.alloc hbw.size _) _⟩
                    · have p3z : ¬ (191 : Int) < (y2 : Int) := by omega
                      go_big_quiet (fail)
                      go_wp2
                      go_meet
                      exact ⟨congrArg Value.bool (decide_eq_false (p := t0.size < 3 ∨ y1 < LO ∨ HI < y1 ∨ y2 < 128 ∨ 191 < y2) (by omega)).symm, below_drewN (hbw.alloc hbw.size _) _⟩
          case rest => as_aux_lemma =>
            obtain ⟨rfl, hbc⟩ := hcut
            have hlead := HL.out
            simp only [Lib.checkN, Nat.reduceEqDiff, if_true, if_false] at hlead
            by_cases hb : t0.size < 3 ∨ y1 < LO ∨ HI < y1 ∨ y2 < 128 ∨ 191 < y2
            · have hbd : decide (t0.size < 3 ∨ y1 < LO ∨ HI < y1 ∨ y2 < 128 ∨ 191 < y2) = true := decide_eq_true hb
              rw [if_pos hb] at hlead
              have HR := Lib.hid hlead
              clear hlead
              go_wp2
              all_goals (go_ret; exact ⟨ret_bool (by rw [HR.out]), hbc⟩)
            · have hbd : decide (t0.size < 3 ∨ y1 < LO ∨ HI < y1 ∨ y2 < 128 ∨ 191 < y2) = false := decide_eq_false hb
              rw [if_neg hb] at hlead
              have HR := Lib.hid hlead
              clear hlead
              have hge : 3 ≤ t0.size := by omega
              have hgez : (3 : Int) ≤ (t0.size : Int) := by omega
              have I9 : Hid (bsL (t0.extract 3 t0.size) = l0.drop 3) := by show bsL (t0.extract 3 t0.size) = l0.drop 3; rw [bsL_ext, I0.out]
              go_wp2
              go_roundg g'
              case measure => omega
              case rel => exact ⟨hbc, _, l0.drop 3, rfl, I9.out, HR.out.symm, by rw [Lib.ext_size]; omega, by rw [Lib.ext_size]; omega⟩
        by_cases s4 : SZ = 4
        · as_aux_lemma =>
          subst s4
          have hSZz : (X : Int) % 8 = 4 := by omega
          go_upto_region 25 with fail
          go_cut [166] from 130 to 166 (fun c wx => c = .bool (decide (t0.size < 4 ∨ y1 < LO ∨ HI < y1 ∨ y2 < 128 ∨ 191 < y2 ∨ y3 < 128 ∨ 191 < y3)) ∧ Below w.heap.size w wx)
          case first => as_aux_lemma =>
            by_cases q0 : t0.size < 4
            · have q0z : (t0.size : Int) < 4 := by omega
              go_big_quiet (fail)
              go_wp2
              go_meet
              exact ⟨congrArg Value.bool (decide_eq_true (p := t0.size < 4 ∨ y1 < LO ∨ HI < y1 ∨ y2 < 128 ∨ 191 < y2 ∨ y3 < 128 ∨ 191 < y3) (by omega)).symm, below_drewN (hbw.alloc hbw.size _) _⟩
            · have q0z : ¬ ((t0.size : Int) < 4) := by omega
              have hz1 : (1 : Int) < (t0.size : Int) := by omega
              have hp1 : 1 < t0.size := by omega
              obtain ⟨x1, hx1⟩ : ∃ z, t0[1]'hp1 = z := ⟨_, rfl⟩
              have hxy1 : (x1.toNat : Int) = (y1 : Int) := by have h := HQ.out 1 y1 hp1 hy1; rw [hx1] at h; omega
              have hz2 : (2 : Int) < (t0.size : Int) := by omega
              have hp2 : 2 < t0.size := by omega
              obtain ⟨x2, hx2⟩ : ∃ z, t0[2]'hp2 = z := ⟨_, rfl⟩
              have hxy2 : (x2.toNat : Int) = (y2 : Int) := by have h := HQ.out 2 y2 hp2 hy2; rw [hx2] at h; omega
              have hz3 : (3 : Int) < (t0.size : Int) := by omega
              have hp3 : 3 < t0.size := by omega
              obtain ⟨x3, hx3⟩ : ∃ z, t0[3]'hp3 = z := ⟨_, rfl⟩
              have hxy3 : (x3.toNat : Int) = (y3 : Int) := by have h := HQ.out 3 y3 hp3 hy3; rw [hx3] at h; omega
              by_cases p0 : y1 < LO
              · have p0z : (y1 : Int) < (LO : Int) := by omega
                go_big_quiet (fail)
                go_wp2
                go_meet
                exact ⟨congrArg Value.bool (decide_eq_true (p := t0.size < 4 ∨ y1 < LO ∨ HI < y1 ∨ y2 < 128 ∨ 191 < y2 ∨ y3 < 128 ∨ 191 < y3) (by omega)).symm, below_drewN (hbw.alloc hbw.size _) _⟩
              · have p0z : ¬ (y1 : Int) < (LO : Int) := by omega
                by_cases p1 : HI < y1
                · have p1z : (HI : Int) < (y1 : Int) := by omega
                  go_big_quiet (fail)
                  go_wp2
                  go_meet
                  exact ⟨congrArg Value.bool (decide_eq_true (p := t0.size < 4 ∨ y1 < LO ∨ HI < y1 ∨ y2 < 128 ∨ 191 < y2 ∨ y3 < 128 ∨ 191 < y3) (by omega)).symm, below_drewN (hbw.alloc hbw.size _) _⟩
                · have p1z : ¬ (HI : Int) < (y1 : Int) := by omega
                  by_cases p2 : y2 < 128
                  · have p2z : (y2 : Int) < 128 := by omega
                    go_big_quiet (fail)
                    go_wp2
                    go_meet
                    exact ⟨congrArg Value.bool (decide_eq_true (p := t0.size < 4 ∨ y1 < LO ∨ HI < y1 ∨ y2 < 128 ∨ 191 < y2 ∨ y3 < 128 ∨ 191 < y3) (by omega)).symm, below_drewN (hbw.alloc hbw.size _) _⟩
                  · have p2z : ¬ (y2 : Int) < 128 := by omega
                    by_cases p3 : 191 < y2
                    · have p3z : (191 : Int) < (y2 : Int) := by omega
                      go_big_quiet (fail)
                      go_wp2
                      go_meet
                      exact ⟨congrArg Value.bool (decide_eq_true (p := t0.size < 4 ∨ y1 < LO ∨ HI < y1 ∨ y2 < 128 ∨ 191 < y2 ∨ y3 < 128 ∨ 191 < y3) (by omega)).symm, below_drewN (hbw.alloc hbw.size _) _⟩
                    · have p3z : ¬ (191 : Int) < (y2 : Int) := by omega
                      by_cases p4 : y3 < 128
                      · have p4z : (y3 : Int) < 128 := by omega
                        go_big_quiet (fail)
                        go_wp2
                        go_meet
                        exact ⟨congrArg Value.bool (decide_eq_true (p := t0.size < 4 ∨ y1 < LO ∨ HI < y1 ∨ y2 < 128 ∨ 191 < y2 ∨ y3 < 128 ∨ 191 < y3) (by omega)).symm, below_drewN (hbw.alloc hbw.size _) _⟩
                      · have p4z : ¬ (y3 : Int) < 128 := by omega
                        by_cases p5 : 191 < y3
                        · have p5z : (191 : Int) < (y3 : Int) := by omega
                          go_big_quiet (fail)
                          go_wp2
                          go_meet
                          exact ⟨congrArg Value.bool (decide_eq_true (p := t0.size < 4 ∨ y1 < LO ∨ HI < y1 ∨ y2 < 128 ∨ 191 < y2 ∨ y3 < 128 ∨ 191 < y3) (by omega)).symm, below_drewN (hbw.alloc hbw.size _) _⟩
                        · have p5z : ¬ (191 : Int) < (y3 : Int) := by omega
                          go_big_quiet (fail)
                          go_wp2
                          go_meet
                          exact ⟨congrArg Value.bool (decide_eq_false (p := t0.size < 4 ∨ y1 < LO ∨ HI < y1 ∨ y2 < 128 ∨ 191 < y2 ∨ y3 < 128 ∨ 191 < y3) (by omega)).symm, below_drewN (hbw.alloc hbw.size _) _⟩
          case rest => as_aux_lemma =>
            obtain ⟨rfl, hbc⟩ := hcut
            have hlead := HL.out
            simp only [Lib.checkN, Nat.reduceEqDiff, if_true, if_false] at hlead
            by_cases hb : t0.size < 4 ∨ y1 < LO ∨ HI < y1 ∨ y2 < 128 ∨ 191 < y2 ∨ y3 < 128 ∨ 191 < y3
            · have hbd : decide (t0.size < 4 ∨ y1 < LO ∨ HI < y1 ∨ y2 < 128 ∨ 191 < y2 ∨ y3 < 128 ∨ 191 < y3) = true := decide_eq_true hb
              rw [if_pos hb] at hlead
              have HR := Lib.hid hlead
              clear hlead
              go_wp2
              all_goals (go_ret; exact ⟨ret_bool (by rw [HR.out]), hbc⟩)
            · have hbd : decide (t0.size < 4 ∨ y1 < LO ∨ HI < y1 ∨ y2 < 128 ∨ 191 < y2 ∨ y3 < 128 ∨ 191 < y3) = false := decide_eq_false hb
              rw [if_neg hb] at hlead
              have HR := Lib.hid hlead
              clear hlead
              have hge : 4 ≤ t0.size := by omega
              have hgez : (4 : Int) ≤ (t0.size : Int) := by omega
              have I9 : Hid (bsL (t0.extract 4 t0.size) = l0.drop 4) := by show bsL (t0.extract 4 t0.size) = l0.drop 4; rw [bsL_ext, I0.out]
              go_wp2
              go_roundg g'
              case measure => omega
              case rel => exact ⟨hbc, _, l0.drop 4, rfl, I9.out, HR.out.symm, by rw [Lib.ext_size]; omega, by rw [Lib.ext_size]; omega⟩
        have e2 : ¬ ((X : Int) % 8 = 2) := by omega
        have e3 : ¬ ((X : Int) % 8 = 3) := by omega
        have e4 : ¬ ((X : Int) % 8 = 4) := by omega
        have e2b : (((X : Int) % 8) == 2) = false := by simp; omega
        have e3b : (((X : Int) % 8) == 3) = false := by simp; omega
        have e4b : (((X : Int) % 8) == 4) = false := by simp; omega
        have hlead := HL.out
        simp only [Lib.checkN, s2, s3, s4, if_false] at hlead
        have HR := Lib.hid hlead
        clear hlead
        go_wp2
        all_goals (go_ret; exact ⟨ret_bool (by rw [HR.out]), hbw.alloc hbw.size _⟩)
    · have h0z : ¬ ((0 : Int) < (t0.size : Int)) := by omega
      have HR : Hid (true = ANS) := by
        show true = ANS
        rw [← V0.out, List.eq_nil_of_length_eq_zero (l := l0) (by rw [← I0.out, bsL_len]; omega)]
        rfl
      go_wp2
      go_ret
      exact ⟨ret_bool HR.out, hbw⟩
    
theorem implSvalid_any (s : ByteArray) (w : World) (T : Tabs w) :
    Calls Tryd.prog 33 #[.string s] w fun e w' => e = .returned (.bool (valid (bsL s))) ∧ Below w.heap.size w w' := by
  have HC := Lib.hid (svalid_any s w T)
  generalize valid (bsL s) = q at *
  clear T
  go_enter Tryd.func33, Tryd.ntmps33
  go_wp2_with fail
  refine HC.out.mono ?_
  rintro e w1 ⟨rfl, b1⟩
  go_wp2
  go_ret
  exact ⟨rfl, b1⟩

end Go.Proofs.YtincmkjffohekaaDoor
