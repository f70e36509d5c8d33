/-
  Proved here: contracts of goutf8.FullRune and FullRuneInString and of impl's: whether bytes begin with a whole encoding or with what is none. Condition: the tables lie as their initialisers lay them; at most 2^31 bytes.
-/
import Derived.Test.YtincmkjffohekaaDoorVpl
import Derived.Test.YtincmkjffohekaaDoorTab
import Derived.Test.YtincmkjffohekaaDoorDcn
import Derived.BigQuiet
import Derived.Deep.RegionHeld
namespace Go.Proofs.YtincmkjffohekaaDoor
open Go.RowKit

set_option maxRecDepth 100000 in
theorem and7 : ∀ X : Fin 256, bits .and .u8 ((X.val : Nat) : Int) 7 = ((X.val % 8 : Nat) : Int) := by decide
theorem first_lt (a : Nat) : Lib.firstT a < 256 := by
  unfold Lib.firstT
  repeat' split
  all_goals omega

theorem below_drewN {B : Nat} {a w : World} (h : Below B a w) : ∀ q, Below B a (w.drewN q)
  | 0 => h
  | q + 1 => (below_drewN h q).drew
set_option maxHeartbeats 4000000 in
set_option maxRecDepth 100000 in
theorem full_walk (bl off n cc a b d X LO HI : Nat) (w : World) (hn : 1 ≤ n) (ra : a < 256)
    (k0 : w.cell? ⟨bl, off, none⟩ = some (.int .u8 (a : Int)))
    (k1 : 1 < n → w.cell? ⟨bl, off + 1, none⟩ = some (.int .u8 (b : Int)))
    (k2 : 2 < n → w.cell? ⟨bl, off + 2, none⟩ = some (.int .u8 (d : Int)))
    (hX : X < 256) (hc0 : w.cell? ⟨0, a, none⟩ = some (.int .u8 (X : Int)))
    (ha0 : w.cell? ⟨1, X / 16 * 2, none⟩ = some (.int .u8 (LO : Int))) (ha1 : w.cell? ⟨1, X / 16 * 2 + 1, none⟩ = some (.int .u8 (HI : Int))) :
    Calls Tryd.prog 44 #[.slice (some ⟨bl, off, none⟩) n cc] w fun e w' => e = .returned (.bool (fullN n b d (X % 8) LO HI)) ∧ Below w.heap.size w w' := by
  have h7 := and7 ⟨X, hX⟩
  simp only at h7
  have hn0 : ¬ (n : Int) = 0 := by omega
  have hn1 : (0 : Int) < (n : Int) := by omega
  by_cases c0 : X % 8 ≤ n
  · have c0z : (X : Int) % 8 ≤ (n : Int) := by omega
    have HR : fullN n b d (X % 8) LO HI = true := decide_eq_true (.inl c0)
    rw [HR]
    clear k1 k2 HR
    go_enter Tryd.func44, Tryd.ntmps44
    go_wp2
    go_ret
    exact ⟨rfl, Below.refl _ _⟩
  · have c0z : ¬ (X : Int) % 8 ≤ (n : Int) := by omega
    by_cases n1 : 1 < n
    · have n1z : (1 : Int) < (n : Int) := by omega
      have q1_ := k1 n1
      have q1 := (World.cell?_alloc_some w _ (Obj.cells #[.int .u8 LO, .int .u8 HI] 49) (by rw [q1_]; rfl)).trans q1_
      clear q1_
      by_cases p1 : b < LO
      · have p1z : (b : Int) < (LO : Int) := by omega
        have HR : fullN n b d (X % 8) LO HI = true := decide_eq_true (by omega)
        rw [HR]
        clear k1 k2 HR
        go_enter Tryd.func44, Tryd.ntmps44
        go_wp2
        go_big_quiet (fail)
        go_wp2
        go_ret
        exact ⟨rfl, below_drewN ((Below.refl _ _).alloc (Nat.le_refl _) _) _⟩
      · have p1z : ¬ (b : Int) < (LO : Int) := by omega
        by_cases p2 : HI < b
        · have p2z : (HI : Int) < (b : Int) := by omega
          have HR : fullN n b d (X % 8) LO HI = true := decide_eq_true (by omega)
          rw [HR]
          clear k1 k2 HR
          go_enter Tryd.func44, Tryd.ntmps44
          go_wp2
          go_big_quiet (fail)
          go_wp2
          go_ret
          exact ⟨rfl, below_drewN ((Below.refl _ _).alloc (Nat.le_refl _) _) _⟩
        · have p2z : ¬ (HI : Int) < (b : Int) := by omega
          by_cases n2 : 2 < n
          · have n2z : (2 : Int) < (n : Int) := by omega
            have q2_ := k2 n2
            have q2 := (World.cell?_alloc_some w _ (Obj.cells #[.int .u8 LO, .int .u8 HI] 49) (by rw [q2_]; rfl)).trans q2_
            clear q2_
            by_cases p3 : d < 128
            · have p3z : (d : Int) < 128 := by omega
              have HR : fullN n b d (X % 8) LO HI = true := decide_eq_true (by omega)
              rw [HR]
              clear k1 k2 HR
              go_enter Tryd.func44, Tryd.ntmps44
              go_wp2
              go_big_quiet (fail)
              go_wp2
              go_ret
              exact ⟨rfl, below_drewN ((Below.refl _ _).alloc (Nat.le_refl _) _) _⟩
            · have p3z : ¬ (d : Int) < 128 := by omega
              by_cases p4 : 191 < d
              · have p4z : (191 : Int) < (d : Int) := by omega
                have HR : fullN n b d (X % 8) LO HI = true := decide_eq_true (by omega)
                rw [HR]
                clear k1 k2 HR
                go_enter Tryd.func44, Tryd.ntmps44
                go_wp2
                go_big_quiet (fail)
                go_wp2
                go_ret
                exact ⟨rfl, below_drewN ((Below.refl _ _).alloc (Nat.le_refl _) _) _⟩
              · have p4z : ¬ (191 : Int) < (d : Int) := by omega
                have HR : fullN n b d (X % 8) LO HI = false := decide_eq_false (by omega)
                rw [HR]
                clear k1 k2 HR
                go_enter Tryd.func44, Tryd.ntmps44
                go_wp2
                go_big_quiet (fail)
                go_wp2
                go_ret
                exact ⟨rfl, below_drewN ((Below.refl _ _).alloc (Nat.le_refl _) _) _⟩
          · have n2z : ¬ (2 : Int) < (n : Int) := by omega
            have n2b : decide ((2 : Int) < (n : Int)) = false := decide_eq_false n2z
            have HR : fullN n b d (X % 8) LO HI = false := decide_eq_false (by omega)
            rw [HR]
            clear k1 k2 HR
            go_enter Tryd.func44, Tryd.ntmps44
            go_wp2
            go_big_quiet (fail)
            go_wp2
            go_ret
            exact ⟨rfl, below_drewN ((Below.refl _ _).alloc (Nat.le_refl _) _) _⟩
    · have n1z : ¬ (1 : Int) < (n : Int) := by omega
      have n1b : decide ((1 : Int) < (n : Int)) = false := decide_eq_false n1z
      have HR : fullN n b d (X % 8) LO HI = false := decide_eq_false (by omega)
      rw [HR]
      clear k1 k2 HR
      go_enter Tryd.func44, Tryd.ntmps44
      go_wp2
      go_big_quiet (fail)
      go_wp2
      go_ret
      exact ⟨rfl, below_drewN ((Below.refl _ _).alloc (Nat.le_refl _) _) _⟩

set_option maxHeartbeats 4000000 in
set_option maxRecDepth 100000 in
theorem sfull_walk (s : ByteArray) (a b d X LO HI : Nat) (w : World) (hn : 1 ≤ s.size) (ra : a < 256)
    (k0 : ∀ h : 0 < s.size, (s[0]'h).toNat = a)
    (k1 : ∀ h : 1 < s.size, (s[1]'h).toNat = b)
    (k2 : ∀ h : 2 < s.size, (s[2]'h).toNat = d)
    (hX : X < 256) (hc0 : w.cell? ⟨0, a, none⟩ = some (.int .u8 (X : Int)))
    (ha0 : w.cell? ⟨1, X / 16 * 2, none⟩ = some (.int .u8 (LO : Int))) (ha1 : w.cell? ⟨1, X / 16 * 2 + 1, none⟩ = some (.int .u8 (HI : Int))) :
    Calls Tryd.prog 45 #[.string s] w fun e w' => e = .returned (.bool (fullN s.size b d (X % 8) LO HI)) ∧ Below w.heap.size w w' := by
  have h7 := and7 ⟨X, hX⟩
  simp only at h7
  have hn0 : ¬ (s.size : Int) = 0 := by omega
  have hn1 : (0 : Int) < (s.size : Int) := by omega
  have hn1' : 0 < s.size := hn
  obtain ⟨x0, hx0⟩ : ∃ x0, s[0]'hn1' = x0 := ⟨_, rfl⟩
  have k0' := k0 hn1'
  rw [hx0] at k0'
  subst k0'
  by_cases c0 : X % 8 ≤ s.size
  · have c0z : (X : Int) % 8 ≤ (s.size : Int) := by omega
    have HR : fullN s.size b d (X % 8) LO HI = true := decide_eq_true (.inl c0)
    rw [HR]
    clear k1 k2 HR
    go_enter Tryd.func45, Tryd.ntmps45
    go_wp2
    go_ret
    exact ⟨rfl, Below.refl _ _⟩
  · have c0z : ¬ (X : Int) % 8 ≤ (s.size : Int) := by omega
    by_cases n1 : 1 < s.size
    · have n1z : (1 : Int) < (s.size : Int) := by omega
      obtain ⟨x1, hx1⟩ : ∃ x1, s[1]'n1 = x1 := ⟨_, rfl⟩
      have k1' := k1 n1
      rw [hx1] at k1'
      subst k1'
      by_cases p1 : x1.toNat < LO
      · have p1z : (x1.toNat : Int) < (LO : Int) := by omega
        have HR : fullN s.size x1.toNat d (X % 8) LO HI = true := decide_eq_true (by omega)
        rw [HR]
        clear k1 k2 HR
        go_enter Tryd.func45, Tryd.ntmps45
        go_wp2
        go_big_quiet (fail)
        go_wp2
        go_ret
        exact ⟨rfl, below_drewN ((Below.refl _ _).alloc (Nat.le_refl _) _) _⟩
      · have p1z : ¬ (x1.toNat : Int) < (LO : Int) := by omega
        by_cases p2 : HI < x1.toNat
        · have p2z : (HI : Int) < (x1.toNat : Int) := by omega
          have HR : fullN s.size x1.toNat d (X % 8) LO HI = true := decide_eq_true (by omega)
          rw [HR]
          clear k1 k2 HR
          go_enter Tryd.func45, Tryd.ntmps45
          go_wp2
          go_big_quiet (fail)
          go_wp2
          go_ret
          exact ⟨rfl, below_drewN ((Below.refl _ _).alloc (Nat.le_refl _) _) _⟩
        · have p2z : ¬ (HI : Int) < (x1.toNat : Int) := by omega
          by_cases n2 : 2 < s.size
          · have n2z : (2 : Int) < (s.size : Int) := by omega
            obtain ⟨x2, hx2⟩ : ∃ x2, s[2]'n2 = x2 := ⟨_, rfl⟩
            have k2' := k2 n2
            rw [hx2] at k2'
            subst k2'
            by_cases p3 : x2.toNat < 128
            · have p3z : (x2.toNat : Int) < 128 := by omega
              have HR : fullN s.size x1.toNat x2.toNat (X % 8) LO HI = true := decide_eq_true (by omega)
              rw [HR]
              clear k1 k2 HR
              go_enter Tryd.func45, Tryd.ntmps45
              go_wp2
              go_big_quiet (fail)
              go_wp2
              go_ret
              exact ⟨rfl, below_drewN ((Below.refl _ _).alloc (Nat.le_refl _) _) _⟩
            · have p3z : ¬ (x2.toNat : Int) < 128 := by omega
              by_cases p4 : 191 < x2.toNat
              · have p4z : (191 : Int) < (x2.toNat : Int) := by omega
                have HR : fullN s.size x1.toNat x2.toNat (X % 8) LO HI = true := decide_eq_true (by omega)
                rw [HR]
                clear k1 k2 HR
                go_enter Tryd.func45, Tryd.ntmps45
                go_wp2
                go_big_quiet (fail)
                go_wp2
                go_ret
                exact ⟨rfl, below_drewN ((Below.refl _ _).alloc (Nat.le_refl _) _) _⟩
              · have p4z : ¬ (191 : Int) < (x2.toNat : Int) := by omega
                have HR : fullN s.size x1.toNat x2.toNat (X % 8) LO HI = false := decide_eq_false (by omega)
                rw [HR]
                clear k1 k2 HR
                go_enter Tryd.func45, Tryd.ntmps45
                go_wp2
                go_big_quiet (fail)
                go_wp2
                go_ret
                exact ⟨rfl, below_drewN ((Below.refl _ _).alloc (Nat.le_refl _) _) _⟩
          · have n2z : ¬ (2 : Int) < (s.size : Int) := by omega
            have n2b : decide ((2 : Int) < (s.size : Int)) = false := decide_eq_false n2z
            have HR : fullN s.size x1.toNat d (X % 8) LO HI = false := decide_eq_false (by omega)
            rw [HR]
            clear k1 k2 HR
            go_enter Tryd.func45, Tryd.ntmps45
            go_wp2
            go_big_quiet (fail)
            go_wp2
            go_ret
            exact ⟨rfl, below_drewN ((Below.refl _ _).alloc (Nat.le_refl _) _) _⟩
    · have n1z : ¬ (1 : Int) < (s.size : Int) := by omega
      have n1b : decide ((1 : Int) < (s.size : Int)) = false := decide_eq_false n1z
      have HR : fullN s.size b d (X % 8) LO HI = false := decide_eq_false (by omega)
      rw [HR]
      clear k1 k2 HR
      go_enter Tryd.func45, Tryd.ntmps45
      go_wp2
      go_big_quiet (fail)
      go_wp2
      go_ret
      exact ⟨rfl, below_drewN ((Below.refl _ _).alloc (Nat.le_refl _) _) _⟩


theorem accept_idx {w : World} (T : Tabs w) {X : Nat} (hX : X < 256) :
    w.cell? ⟨1, X / 16 * 2, none⟩ = some (.int .u8 (Lib.accLo (X / 16) : Int)) ∧ w.cell? ⟨1, X / 16 * 2 + 1, none⟩ = some (.int .u8 (Lib.accHi (X / 16) : Int)) := by
  have := T.2.2 (X / 16) (by omega)
  rw [Nat.mul_comm]
  exact this
theorem full_zero (A : Option Addr) (c : Nat) (w : World) :
    Calls Tryd.prog 44 #[.slice A 0 c] w fun e w' => e = .returned (.bool false) ∧ Below w.heap.size w w' := by
  go_enter Tryd.func44, Tryd.ntmps44
  go_wp2
  go_ret
  exact ⟨rfl, Below.refl _ _⟩
theorem sfull_zero (s : ByteArray) (w : World) (h : s.size = 0) :
    Calls Tryd.prog 45 #[.string s] w fun e w' => e = .returned (.bool false) ∧ Below w.heap.size w w' := by
  go_enter Tryd.func45, Tryd.ntmps45
  go_wp2
  go_ret
  exact ⟨rfl, Below.refl _ _⟩
theorem fullL_nil : fullL [] = false := rfl

theorem full_any (A : Option Addr) (n c : Nat) (xs : List Int) (w : World) (T : Tabs w) (h : IsL w w.heap.size .u8 A n xs) :
    Calls Tryd.prog 44 #[.slice A n c] w fun e w' => e = .returned (.bool (fullL xs)) ∧ Below w.heap.size w w' := by
  have hl := h.len
  have hf := h.fit.bytes
  rcases Nat.eq_zero_or_pos n with h0 | h0
  · subst h0
    obtain rfl : xs = [] := List.eq_nil_of_length_eq_zero hl
    exact full_zero A c w
  obtain ⟨bl, off, rfl, _, _⟩ := h.2.2 h0
  have hcell : ∀ j, j < n → w.cell? ⟨bl, off + j, none⟩ = some (.int .u8 (bt xs j : Int)) := fun j hj => by
    obtain ⟨a, _, ea, k⟩ := h.byteAt hj
    rw [k, bt_at ea]
  have ht := accept_idx T (first_lt (bt xs 0))
  rw [full_lead hf (by omega), hl]
  exact full_walk bl off n c (bt xs 0) (bt xs 1) (bt xs 2) _ _ _ w h0 (bt_lt hf 0) (hcell 0 h0) (fun h1 => hcell 1 h1) (fun h2 => hcell 2 h2) (first_lt _) (T.2.1 _ (bt_lt hf 0)) ht.1 ht.2
theorem sfull_any (s : ByteArray) (w : World) (T : Tabs w) :
    Calls Tryd.prog 45 #[.string s] w fun e w' => e = .returned (.bool (fullL (bsL s))) ∧ Below w.heap.size w w' := by
  have hl := bsL_len s
  have hf := bsL_byte s
  rcases Nat.eq_zero_or_pos s.size with h0 | h0
  · have e0 : bsL s = [] := List.eq_nil_of_length_eq_zero (by omega)
    rw [e0]
    exact sfull_zero s w h0
  have hcell : ∀ j (hj : j < s.size), (s[j]'hj).toNat = bt (bsL s) j := fun j hj => (bt_at (bsL_at s j hj)).symm
  have ht := accept_idx T (first_lt (bt (bsL s) 0))
  rw [full_lead hf (by omega), hl]
  exact sfull_walk s (bt (bsL s) 0) (bt (bsL s) 1) (bt (bsL s) 2) _ _ _ w h0 (bt_lt hf 0) (hcell 0) (hcell 1) (hcell 2) (first_lt _) (T.2.1 _ (bt_lt hf 0)) ht.1 ht.2

theorem implFull_any (A : Option Addr) (n c : Nat) (xs : List Int) (w : World) (T : Tabs w) (h : IsL w w.heap.size .u8 A n xs) (hn : n ≤ 2147483648) :
    Calls Tryd.prog 26 #[.slice A n c] w fun e w' => e = .returned (.bool (fullL xs)) ∧ Below w.heap.size w w' := by
  have hf : FitL .u8 xs := h.fit
  have HC := Lib.hid (clone8_any A n c xs w h (by omega))
  have HA := Lib.hid (fun (w1 : World) (T1 : Tabs w1) (A1 : Option Addr) (c1 : Nat) h1 => full_any A1 xs.length c1 xs w1 T1 h1)
  have HT := Lib.hid T
  generalize fullL xs = q at *
  clear h T
  go_enter Tryd.func26, Tryd.ntmps26
  go_wp2_with fail
  refine HC.out.mono ?_
  rintro e w1 ⟨A1, c1, rfl, h1, b1⟩
  have i1 := OwnsL.isL (e := 5) (k := .u8) h1 hf
  clear h1
  go_wp2_with fail
  refine (HA.out w1 (HT.out.keep b1) A1 c1 i1).mono ?_
  rintro e w2 ⟨rfl, b2⟩
  go_wp2
  go_ret
  exact ⟨rfl, b1.trans (b2.mono b1.size)⟩
theorem implSfull_any (s : ByteArray) (w : World) (T : Tabs w) :
    Calls Tryd.prog 27 #[.string s] w fun e w' => e = .returned (.bool (fullL (bsL s))) ∧ Below w.heap.size w w' := by
  have HC := Lib.hid (sfull_any s w T)
  generalize fullL (bsL s) = q at *
  clear T
  go_enter Tryd.func27, Tryd.ntmps27
  go_wp2_with fail
  refine HC.out.mono ?_
  rintro e w1 ⟨rfl, b1⟩
  go_wp2
  go_ret
  exact ⟨rfl, b1⟩

end Go.Proofs.YtincmkjffohekaaDoor
