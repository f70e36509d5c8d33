/-
  Proved here: contracts of goutf8's decoders of the first number (slow road and whole) and of impl's, of slices and of strings: what they return is the first number of the bytes. Condition: the tables lie as their initialisers lay them; at most 2^31 bytes.
-/
import Derived.Test.YtincmkjffohekaaDoorDec
import Derived.Test.YtincmkjffohekaaDoorDes
namespace Go.Proofs.YtincmkjffohekaaDoor
open Go.RowKit

theorem head_at {xs : List Int} {x : Int} (h : xs[0]? = some x) : xs = x :: xs.drop 1 := by have := drop_at h; simpa using this
theorem ret_two {v : Int} {p : Int × Nat} {kI : Int} (h : p = (v, kI.toNat)) (hk : 0 ≤ kI) : Ending.returned (.tuple #[.int .i32 v, .int .i64 kI]) = .returned (.tuple #[.int .i32 p.1, .int .i64 (p.2 : Int)]) := by
  rw [h]
  show Ending.returned (.tuple #[.int .i32 v, .int .i64 kI]) = .returned (.tuple #[.int .i32 v, .int .i64 ((kI.toNat : Nat) : Int)])
  rw [Int.toNat_of_nonneg hk]
theorem ret_same {v : Int} {k : Nat} {p : Int × Nat} (h : p = (v, k)) : Ending.returned (.tuple #[.int .i32 p.1, .int .i64 (p.2 : Int)]) = Ending.returned (.tuple #[.int .i32 v, .int .i64 (k : Int)]) := by rw [h]

theorem slow_zero (A : Option Addr) (c : Nat) (w : World) :
    Calls Tryd.prog 56 #[.slice A 0 c] w fun e w' => e = .returned (.tuple #[.int .i32 65533, .int .i64 0]) ∧ Below w.heap.size w w' := by
  go_enter Tryd.func56, Tryd.ntmps56
  go_wp2
  go_ret2
  exact ⟨rfl, Below.refl _ _⟩
theorem sslow_zero (s : ByteArray) (w : World) (h : s.size = 0) :
    Calls Tryd.prog 58 #[.string s] w fun e w' => e = .returned (.tuple #[.int .i32 65533, .int .i64 0]) ∧ Below w.heap.size w w' := by
  go_enter Tryd.func58, Tryd.ntmps58
  go_wp2
  go_ret2
  exact ⟨rfl, Below.refl _ _⟩

section
variable {w : World} {B : Nat} {A : Option Addr} {n : Nat} {xs : List Int}
/-- Element j of bytes, by a whole number of its own. -/
theorem IsL.byteAt {bl off : Nat} (h : IsL w B .u8 (some ⟨bl, off, none⟩) n xs) {j : Nat} (hj : j < n) : ∃ a : Nat, a < 256 ∧ xs[j]? = some (a : Int) ∧ w.cell? ⟨bl, off + j, none⟩ = some (.int .u8 (a : Int)) := by
  obtain ⟨b', off', x, e, _, hx, _, hc⟩ := h.at_ hj
  simp only [Option.some.injEq, Addr.mk.injEq, and_true] at e
  obtain ⟨rfl, rfl⟩ := e
  have hb := h.fit.bytes x (List.mem_of_getElem? hx)
  obtain ⟨a, rfl⟩ := Int.eq_ofNat_of_zero_le hb.1
  exact ⟨a, by omega, hx, hc⟩
end

set_option maxHeartbeats 4000000 in
theorem slow_any (A : Option Addr) (n c : Nat) (xs : List Int) (w : World) (T : Tabs w) (h : IsL w w.heap.size .u8 A n xs) (hn : n ≤ 2147483648) :
    Calls Tryd.prog 56 #[.slice A n c] w fun e w' => e = .returned (.tuple #[.int .i32 (firstL xs).1, .int .i64 ((firstL xs).2 : Int)]) ∧ Below w.heap.size w w' := by
  have hl := h.len
  rcases Nat.eq_zero_or_pos n with h0 | h0
  · subst h0
    obtain rfl : xs = [] := List.eq_nil_of_length_eq_zero hl
    exact slow_zero A c w
  obtain ⟨bl, off, rfl, _, _⟩ := h.2.2 h0
  obtain ⟨a, ra, ea, k0⟩ := h.byteAt (j := 0) h0
  have e0 := head_at ea
  rw [Nat.add_zero] at k0
  by_cases c1 : a < 128
  · rw [e0, first_ascii (by omega)]
    exact slow_lead_240 bl off n c a w T hn k0 ra c1 h0
  by_cases c2 : a < 194 ∨ 244 < a
  · rw [e0, first_bad (by omega)]
    exact slow_lead_241 bl off n c a w T hn k0 ra ⟨by omega, c2⟩ h0
  by_cases c2_ : 194 ≤ a ∧ a ≤ 223
  · by_cases hs : n < 2
    · have e1 : xs.drop 1 = [] := List.drop_eq_nil_of_le (by omega)
      rw [e0, e1, first_s2 (by omega)]
      exact slow_short_2 bl off n c a w T hn k0 ra c2_ h0 hs
    · obtain ⟨b, rb, eb, k1⟩ := h.byteAt (j := 1) (by omega)
      have e1 := drop_at eb
      rw [e0, e1, first_c2 (by omega)]
      exact slow_long_2 bl off n c a b w T hn k0 k1 ra rb c2_ (by omega)
  by_cases c19_ : a = 224
  · by_cases hs : n < 3
    · rw [e0, first_s3 (by omega) (by rw [List.length_drop]; omega)]
      exact slow_short_19 bl off n c a w T hn k0 ra c19_ h0 hs
    · obtain ⟨b, rb, eb, k1⟩ := h.byteAt (j := 1) (by omega)
      have e1 := drop_at eb
      obtain ⟨d, rd, ed, k2⟩ := h.byteAt (j := 2) (by omega)
      have e2 := drop_at ed
      rw [e0, e1, e2, first_c3 (by omega)]
      exact slow_long_19 bl off n c a b d w T hn k0 k1 k2 ra rb rd c19_ (by omega)
  by_cases c3_ : (225 ≤ a ∧ a ≤ 236) ∨ (238 ≤ a ∧ a ≤ 239)
  · by_cases hs : n < 3
    · rw [e0, first_s3 (by omega) (by rw [List.length_drop]; omega)]
      exact slow_short_3 bl off n c a w T hn k0 ra c3_ h0 hs
    · obtain ⟨b, rb, eb, k1⟩ := h.byteAt (j := 1) (by omega)
      have e1 := drop_at eb
      obtain ⟨d, rd, ed, k2⟩ := h.byteAt (j := 2) (by omega)
      have e2 := drop_at ed
      rw [e0, e1, e2, first_c3 (by omega)]
      exact slow_long_3 bl off n c a b d w T hn k0 k1 k2 ra rb rd c3_ (by omega)
  by_cases c35_ : a = 237
  · by_cases hs : n < 3
    · rw [e0, first_s3 (by omega) (by rw [List.length_drop]; omega)]
      exact slow_short_35 bl off n c a w T hn k0 ra c35_ h0 hs
    · obtain ⟨b, rb, eb, k1⟩ := h.byteAt (j := 1) (by omega)
      have e1 := drop_at eb
      obtain ⟨d, rd, ed, k2⟩ := h.byteAt (j := 2) (by omega)
      have e2 := drop_at ed
      rw [e0, e1, e2, first_c3 (by omega)]
      exact slow_long_35 bl off n c a b d w T hn k0 k1 k2 ra rb rd c35_ (by omega)
  by_cases c52_ : a = 240
  · by_cases hs : n < 4
    · rw [e0, first_s4 (by omega) (by rw [List.length_drop]; omega)]
      exact slow_short_52 bl off n c a w T hn k0 ra c52_ h0 hs
    · obtain ⟨b, rb, eb, k1⟩ := h.byteAt (j := 1) (by omega)
      have e1 := drop_at eb
      obtain ⟨d, rd, ed, k2⟩ := h.byteAt (j := 2) (by omega)
      have e2 := drop_at ed
      obtain ⟨f, rf, ef, k3⟩ := h.byteAt (j := 3) (by omega)
      have e3 := drop_at ef
      rw [e0, e1, e2, e3, first_c4 (by omega)]
      exact slow_long_52 bl off n c a b d f w T hn k0 k1 k2 k3 ra rb rd rf c52_ (by omega)
  by_cases c4_ : 241 ≤ a ∧ a ≤ 243
  · by_cases hs : n < 4
    · rw [e0, first_s4 (by omega) (by rw [List.length_drop]; omega)]
      exact slow_short_4 bl off n c a w T hn k0 ra c4_ h0 hs
    · obtain ⟨b, rb, eb, k1⟩ := h.byteAt (j := 1) (by omega)
      have e1 := drop_at eb
      obtain ⟨d, rd, ed, k2⟩ := h.byteAt (j := 2) (by omega)
      have e2 := drop_at ed
      obtain ⟨f, rf, ef, k3⟩ := h.byteAt (j := 3) (by omega)
      have e3 := drop_at ef
      rw [e0, e1, e2, e3, first_c4 (by omega)]
      exact slow_long_4 bl off n c a b d f w T hn k0 k1 k2 k3 ra rb rd rf c4_ (by omega)
  by_cases c68_ : a = 244
  · by_cases hs : n < 4
    · rw [e0, first_s4 (by omega) (by rw [List.length_drop]; omega)]
      exact slow_short_68 bl off n c a w T hn k0 ra c68_ h0 hs
    · obtain ⟨b, rb, eb, k1⟩ := h.byteAt (j := 1) (by omega)
      have e1 := drop_at eb
      obtain ⟨d, rd, ed, k2⟩ := h.byteAt (j := 2) (by omega)
      have e2 := drop_at ed
      obtain ⟨f, rf, ef, k3⟩ := h.byteAt (j := 3) (by omega)
      have e3 := drop_at ef
      rw [e0, e1, e2, e3, first_c4 (by omega)]
      exact slow_long_68 bl off n c a b d f w T hn k0 k1 k2 k3 ra rb rd rf c68_ (by omega)
  omega

set_option maxHeartbeats 4000000 in
theorem sslow_any (s : ByteArray) (w : World) (T : Tabs w) (hn : s.size ≤ 2147483648) :
    Calls Tryd.prog 58 #[.string s] w fun e w' => e = .returned (.tuple #[.int .i32 (firstL (bsL s)).1, .int .i64 ((firstL (bsL s)).2 : Int)]) ∧ Below w.heap.size w w' := by
  have hl := bsL_len s
  rcases Nat.eq_zero_or_pos s.size with h0 | h0
  · have e0 : bsL s = [] := List.eq_nil_of_length_eq_zero (by omega)
    rw [e0]
    exact sslow_zero s w h0
  have e0 := head_at (bsL_at s 0 h0)
  have ra := (s[0]'h0).toNat_lt
  by_cases c1 : (s[0]'h0).toNat < 128
  · rw [e0, first_ascii (by omega)]
    exact sslow_lead_240 s _ w T hn h0 rfl c1
  by_cases c2 : (s[0]'h0).toNat < 194 ∨ 244 < (s[0]'h0).toNat
  · rw [e0, first_bad (by omega)]
    exact sslow_lead_241 s _ w T hn h0 rfl ⟨by omega, c2⟩
  by_cases c2_ : 194 ≤ (s[0]'h0).toNat ∧ (s[0]'h0).toNat ≤ 223
  · by_cases hs : s.size < 2
    · have e1 : (bsL s).drop 1 = [] := List.drop_eq_nil_of_le (by omega)
      rw [e0, e1, first_s2 (by omega)]
      exact sslow_short_2 s _ w T hn h0 rfl c2_ hs
    · have g1 : 1 < s.size := by omega
      have e1 := drop_at (bsL_at s 1 g1)
      rw [e0, e1, first_c2 (by omega)]
      exact sslow_long_2 s _ _ w T hn h0 rfl g1 rfl c2_
  by_cases c19_ : (s[0]'h0).toNat = 224
  · by_cases hs : s.size < 3
    · rw [e0, first_s3 (by omega) (by rw [List.length_drop]; omega)]
      exact sslow_short_19 s _ w T hn h0 rfl c19_ hs
    · have g1 : 1 < s.size := by omega
      have e1 := drop_at (bsL_at s 1 g1)
      have g2 : 2 < s.size := by omega
      have e2 := drop_at (bsL_at s 2 g2)
      rw [e0, e1, e2, first_c3 (by omega)]
      exact sslow_long_19 s _ _ _ w T hn h0 rfl g1 rfl g2 rfl c19_
  by_cases c3_ : (225 ≤ (s[0]'h0).toNat ∧ (s[0]'h0).toNat ≤ 236) ∨ (238 ≤ (s[0]'h0).toNat ∧ (s[0]'h0).toNat ≤ 239)
  · by_cases hs : s.size < 3
    · rw [e0, first_s3 (by omega) (by rw [List.length_drop]; omega)]
      exact sslow_short_3 s _ w T hn h0 rfl c3_ hs
    · have g1 : 1 < s.size := by omega
      have e1 := drop_at (bsL_at s 1 g1)
      have g2 : 2 < s.size := by omega
      have e2 := drop_at (bsL_at s 2 g2)
      rw [e0, e1, e2, first_c3 (by omega)]
      exact sslow_long_3 s _ _ _ w T hn h0 rfl g1 rfl g2 rfl c3_
  by_cases c35_ : (s[0]'h0).toNat = 237
  · by_cases hs : s.size < 3
    · rw [e0, first_s3 (by omega) (by rw [List.length_drop]; omega)]
      exact sslow_short_35 s _ w T hn h0 rfl c35_ hs
    · have g1 : 1 < s.size := by omega
      have e1 := drop_at (bsL_at s 1 g1)
      have g2 : 2 < s.size := by omega
      have e2 := drop_at (bsL_at s 2 g2)
      rw [e0, e1, e2, first_c3 (by omega)]
      exact sslow_long_35 s _ _ _ w T hn h0 rfl g1 rfl g2 rfl c35_
  by_cases c52_ : (s[0]'h0).toNat = 240
  · by_cases hs : s.size < 4
    · rw [e0, first_s4 (by omega) (by rw [List.length_drop]; omega)]
      exact sslow_short_52 s _ w T hn h0 rfl c52_ hs
    · have g1 : 1 < s.size := by omega
      have e1 := drop_at (bsL_at s 1 g1)
      have g2 : 2 < s.size := by omega
      have e2 := drop_at (bsL_at s 2 g2)
      have g3 : 3 < s.size := by omega
      have e3 := drop_at (bsL_at s 3 g3)
      rw [e0, e1, e2, e3, first_c4 (by omega)]
      exact sslow_long_52 s _ _ _ _ w T hn h0 rfl g1 rfl g2 rfl g3 rfl c52_
  by_cases c4_ : 241 ≤ (s[0]'h0).toNat ∧ (s[0]'h0).toNat ≤ 243
  · by_cases hs : s.size < 4
    · rw [e0, first_s4 (by omega) (by rw [List.length_drop]; omega)]
      exact sslow_short_4 s _ w T hn h0 rfl c4_ hs
    · have g1 : 1 < s.size := by omega
      have e1 := drop_at (bsL_at s 1 g1)
      have g2 : 2 < s.size := by omega
      have e2 := drop_at (bsL_at s 2 g2)
      have g3 : 3 < s.size := by omega
      have e3 := drop_at (bsL_at s 3 g3)
      rw [e0, e1, e2, e3, first_c4 (by omega)]
      exact sslow_long_4 s _ _ _ _ w T hn h0 rfl g1 rfl g2 rfl g3 rfl c4_
  by_cases c68_ : (s[0]'h0).toNat = 244
  · by_cases hs : s.size < 4
    · rw [e0, first_s4 (by omega) (by rw [List.length_drop]; omega)]
      exact sslow_short_68 s _ w T hn h0 rfl c68_ hs
    · have g1 : 1 < s.size := by omega
      have e1 := drop_at (bsL_at s 1 g1)
      have g2 : 2 < s.size := by omega
      have e2 := drop_at (bsL_at s 2 g2)
      have g3 : 3 < s.size := by omega
      have e3 := drop_at (bsL_at s 3 g3)
      rw [e0, e1, e2, e3, first_c4 (by omega)]
      exact sslow_long_68 s _ _ _ _ w T hn h0 rfl g1 rfl g2 rfl g3 rfl c68_
  omega

set_option maxRecDepth 100000 in
theorem decode_any (A : Option Addr) (n c : Nat) (xs : List Int) (w : World) (T : Tabs w) (h : IsL w w.heap.size .u8 A n xs) (hn : n ≤ 2147483648) :
    Calls Tryd.prog 42 #[.slice A n c] w fun e w' => e = .returned (.tuple #[.int .i32 (firstL xs).1, .int .i64 ((firstL xs).2 : Int)]) ∧ Below w.heap.size w w' := by
  have HC := Lib.hid (slow_any A n c xs w T h hn)
  rcases Nat.eq_zero_or_pos n with h0 | h0
  · subst h0
    generalize (firstL xs).1 = q1 at *
    generalize (firstL xs).2 = q2 at *
    clear T h
    go_enter Tryd.func42, Tryd.ntmps42
    go_wp2
    go_loop [8] (fun i => i = .int .i64 0) (fun _ => 0)
    case atStart => rfl
    case round =>
      obtain rfl := hrel
      go_wp2_with fail
      refine HC.out.mono ?_
      rintro e w1 ⟨rfl, b1⟩
      go_wp2
      go_ret2
      exact ⟨rfl, b1⟩
  · obtain ⟨bl, off, rfl, _, _⟩ := h.2.2 h0
    obtain ⟨a, ra, ea, k0⟩ := h.byteAt (j := 0) h0
    clear hn
    by_cases c1 : a < 128
    · have HF := Lib.hid (show firstL xs = ((a : Int), 1) by rw [head_at ea, first_ascii (by omega)])
      clear T h HC ea
      go_enter Tryd.func42, Tryd.ntmps42
      go_wp2
      go_loop [8] (fun i => ∃ k : Nat, Hid (k = 0) ∧ i = .int .i64 k) (fun i => n - (intOf i).toNat)
      case atStart => exact ⟨0, rfl, rfl⟩
      case round =>
        obtain ⟨k, hk, rfl⟩ := hrel
        have kk : w.cell? ⟨bl, off + k, none⟩ = some (.int .u8 (a : Int)) := by rw [hk.out]; exact k0
        have hz0 : (k : Int) < (n : Int) := by rw [hk.out]; omega
        clear k0 h0 hk
        go_wp2
        go_ret2
        exact ⟨(ret_same HF.out).symm, Below.refl _ _⟩
    · generalize (firstL xs).1 = q1 at *
      generalize (firstL xs).2 = q2 at *
      clear T h ea
      go_enter Tryd.func42, Tryd.ntmps42
      go_wp2
      go_loop [8] (fun i => ∃ k : Nat, Hid (k = 0) ∧ i = .int .i64 k) (fun i => n - (intOf i).toNat)
      case atStart => exact ⟨0, rfl, rfl⟩
      case round =>
        obtain ⟨k, hk, rfl⟩ := hrel
        have kk : w.cell? ⟨bl, off + k, none⟩ = some (.int .u8 (a : Int)) := by rw [hk.out]; exact k0
        have hz0 : (k : Int) < (n : Int) := by rw [hk.out]; omega
        clear k0 h0 hk
        go_wp2_with fail
        refine HC.out.mono ?_
        rintro e w1 ⟨rfl, b1⟩
        go_wp2
        go_ret2
        exact ⟨rfl, b1⟩

theorem implDecode_any (A : Option Addr) (n c : Nat) (xs : List Int) (w : World) (T : Tabs w) (h : IsL w w.heap.size .u8 A n xs) (hn : n ≤ 2147483648) :
    Calls Tryd.prog 24 #[.slice A n c] w fun e w' => e = .returned (.tuple #[.int .i32 (firstL xs).1, .int .i64 ((firstL xs).2 : Int)]) ∧ Below w.heap.size w w' := by
  have hl := h.len
  have hf : FitL .u8 xs := h.fit
  have HC := Lib.hid (clone8_any A n c xs w h (by omega))
  have HA := Lib.hid (fun (w1 : World) (T1 : Tabs w1) (A1 : Option Addr) (c1 : Nat) h1 => decode_any A1 xs.length c1 xs w1 T1 h1 (by omega))
  have HT := Lib.hid T
  generalize (firstL xs).1 = q1 at *
  generalize (firstL xs).2 = q2 at *
  clear h hl T
  go_enter Tryd.func24, Tryd.ntmps24
  go_wp2_with fail
  refine HC.out.mono ?_
  rintro e w1 ⟨A1, c1, rfl, h1, b1⟩
  have i1 := OwnsL.isL (e := 5) (k := .u8) h1 hf
  clear h1
  go_wp2_with fail
  refine (HA.out w1 (HT.out.keep b1) A1 c1 i1).mono ?_
  rintro e w2 ⟨rfl, b2⟩
  go_wp2
  go_ret2
  exact ⟨rfl, b1.trans (b2.mono b1.size)⟩

end Go.Proofs.YtincmkjffohekaaDoor
