/-
  Proved here: contracts of goutf8.word, of slices and of strings: what the first eight bytes spell, the least first. Condition: there are eight bytes at least.
-/
import Derived.Test.YtincmkjffohekaaDoorFul
import Derived.Lib.EndianBits
import Derived.Deep.QuietTactic
namespace Go.Proofs.YtincmkjffohekaaDoor
open Go.RowKit

theorem leN_cons (b : UInt8) (t : List UInt8) : ((Lib.leNat (b :: t) : Nat) : Int) = (b.toNat : Int) + 256 * (Lib.leNat t : Int) := by
  have h : Lib.leNat (b :: t) = b.toNat + 256 * Lib.leNat t := rfl
  rw [h]
  omega
theorem leL_eq {l : List Int} (hf : ∀ x ∈ l, 0 ≤ x ∧ x ≤ 255) (h8 : 8 ≤ l.length) :
    (leL l : Int) = (bt l 0 : Int) + (bt l 1 : Int) * 256 + (bt l 2 : Int) * 65536 + (bt l 3 : Int) * 16777216 + (bt l 4 : Int) * 4294967296 + (bt l 5 : Int) * 1099511627776 + (bt l 6 : Int) * 281474976710656 + (bt l 7 : Int) * 72057594037927936 := by
  match l, h8, hf with
  | a :: b :: c :: d :: e :: f :: g :: h :: t, _, hf =>
    have ha := hf a (by simp); have hb := hf b (by simp); have hc := hf c (by simp); have hd := hf d (by simp)
    have he := hf e (by simp); have hf' := hf f (by simp); have hg := hf g (by simp); have hh := hf h (by simp)
    have A := byteOf_back ha; have B := byteOf_back hb; have C := byteOf_back hc; have D := byteOf_back hd
    have E := byteOf_back he; have F := byteOf_back hf'; have G := byteOf_back hg; have H := byteOf_back hh
    have hl : leL (a :: b :: c :: d :: e :: f :: g :: h :: t) = Lib.leNat [byteOf a, byteOf b, byteOf c, byteOf d, byteOf e, byteOf f, byteOf g, byteOf h] := rfl
    have e0 : bt (a :: b :: c :: d :: e :: f :: g :: h :: t) 0 = a.toNat := rfl
    have e1 : bt (a :: b :: c :: d :: e :: f :: g :: h :: t) 1 = b.toNat := rfl
    have e2 : bt (a :: b :: c :: d :: e :: f :: g :: h :: t) 2 = c.toNat := rfl
    have e3 : bt (a :: b :: c :: d :: e :: f :: g :: h :: t) 3 = d.toNat := rfl
    have e4 : bt (a :: b :: c :: d :: e :: f :: g :: h :: t) 4 = e.toNat := rfl
    have e5 : bt (a :: b :: c :: d :: e :: f :: g :: h :: t) 5 = f.toNat := rfl
    have e6 : bt (a :: b :: c :: d :: e :: f :: g :: h :: t) 6 = g.toNat := rfl
    have e7 : bt (a :: b :: c :: d :: e :: f :: g :: h :: t) 7 = h.toNat := rfl
    rw [hl, e0, e1, e2, e3, e4, e5, e6, e7]
    rw [Int.toNat_of_nonneg ha.1, Int.toNat_of_nonneg hb.1, Int.toNat_of_nonneg hc.1, Int.toNat_of_nonneg hd.1, Int.toNat_of_nonneg he.1, Int.toNat_of_nonneg hf'.1, Int.toNat_of_nonneg hg.1, Int.toNat_of_nonneg hh.1]
    rw [leN_cons, leN_cons, leN_cons, leN_cons, leN_cons, leN_cons, leN_cons, leN_cons, A, B, C, D, E, F, G, H, show Lib.leNat [] = 0 from rfl]
    clear A B C D E F G H ha hb hc hd he hf' hg hh hf e0 e1 e2 e3 e4 e5 e6 e7 hl
    omega

set_option maxHeartbeats 8000000 in
set_option maxRecDepth 100000 in
theorem word_walk (bl off n cc x0 x1 x2 x3 x4 x5 x6 x7 : Nat) (w : World) (hn : 8 ≤ n) (h0 : x0 < 256) (h1 : x1 < 256) (h2 : x2 < 256) (h3 : x3 < 256) (h4 : x4 < 256) (h5 : x5 < 256) (h6 : x6 < 256) (h7 : x7 < 256)
    (k0 : w.cell? ⟨bl, off, none⟩ = some (.int .u8 (x0 : Int))) (k1 : w.cell? ⟨bl, off + 1, none⟩ = some (.int .u8 (x1 : Int))) (k2 : w.cell? ⟨bl, off + 2, none⟩ = some (.int .u8 (x2 : Int))) (k3 : w.cell? ⟨bl, off + 3, none⟩ = some (.int .u8 (x3 : Int))) (k4 : w.cell? ⟨bl, off + 4, none⟩ = some (.int .u8 (x4 : Int))) (k5 : w.cell? ⟨bl, off + 5, none⟩ = some (.int .u8 (x5 : Int))) (k6 : w.cell? ⟨bl, off + 6, none⟩ = some (.int .u8 (x6 : Int))) (k7 : w.cell? ⟨bl, off + 7, none⟩ = some (.int .u8 (x7 : Int))) :
    Calls Tryd.prog 54 #[.slice (some ⟨bl, off, none⟩) n cc] w fun e w' => e = .returned (.int .u64 ((x0 : Int) + (x1 : Int) * 256 + (x2 : Int) * 65536 + (x3 : Int) * 16777216 + (x4 : Int) * 4294967296 + (x5 : Int) * 1099511627776 + (x6 : Int) * 281474976710656 + (x7 : Int) * 72057594037927936)) ∧ ∃ q, w' = w.drewN q := by
  have q0 : (0 : Int) < (n : Int) := by omega
  have q1 : (1 : Int) < (n : Int) := by omega
  have q2 : (2 : Int) < (n : Int) := by omega
  have q3 : (3 : Int) < (n : Int) := by omega
  have q4 : (4 : Int) < (n : Int) := by omega
  have q5 : (5 : Int) < (n : Int) := by omega
  have q6 : (6 : Int) < (n : Int) := by omega
  have q7 : (7 : Int) < (n : Int) := by omega
  go_enter Tryd.func54, Tryd.ntmps54
  go_wp2
  go_big_quiet (fail)
  go_wp2
  go_ret
  refine ⟨?_, _, rfl⟩
  simp (disch := omega) only [u64_or8, u64_or16, u64_or24, u64_or32, u64_or40, u64_or48, u64_or56]
  rfl

set_option maxHeartbeats 8000000 in
set_option maxRecDepth 100000 in
theorem sword_walk (s : ByteArray) (x0 x1 x2 x3 x4 x5 x6 x7 : UInt8) (w : World) (hn : 8 ≤ s.size)
    (p0 : 0 < s.size) (k0 : s[0]'p0 = x0) (p1 : 1 < s.size) (k1 : s[1]'p1 = x1) (p2 : 2 < s.size) (k2 : s[2]'p2 = x2) (p3 : 3 < s.size) (k3 : s[3]'p3 = x3) (p4 : 4 < s.size) (k4 : s[4]'p4 = x4) (p5 : 5 < s.size) (k5 : s[5]'p5 = x5) (p6 : 6 < s.size) (k6 : s[6]'p6 = x6) (p7 : 7 < s.size) (k7 : s[7]'p7 = x7) :
    Calls Tryd.prog 59 #[.string s] w fun e w' => e = .returned (.int .u64 ((x0.toNat : Int) + (x1.toNat : Int) * 256 + (x2.toNat : Int) * 65536 + (x3.toNat : Int) * 16777216 + (x4.toNat : Int) * 4294967296 + (x5.toNat : Int) * 1099511627776 + (x6.toNat : Int) * 281474976710656 + (x7.toNat : Int) * 72057594037927936)) ∧ ∃ q, w' = w.drewN q := by
  have h0 := x0.toNat_lt
  have h1 := x1.toNat_lt
  have h2 := x2.toNat_lt
  have h3 := x3.toNat_lt
  have h4 := x4.toNat_lt
  have h5 := x5.toNat_lt
  have h6 := x6.toNat_lt
  have h7 := x7.toNat_lt
  have q0 : (0 : Int) < (s.size : Int) := by omega
  have q1 : (1 : Int) < (s.size : Int) := by omega
  have q2 : (2 : Int) < (s.size : Int) := by omega
  have q3 : (3 : Int) < (s.size : Int) := by omega
  have q4 : (4 : Int) < (s.size : Int) := by omega
  have q5 : (5 : Int) < (s.size : Int) := by omega
  have q6 : (6 : Int) < (s.size : Int) := by omega
  have q7 : (7 : Int) < (s.size : Int) := by omega
  go_enter Tryd.func59, Tryd.ntmps59
  go_wp2
  go_big_quiet (fail)
  go_wp2
  go_ret
  refine ⟨?_, _, rfl⟩
  simp (disch := omega) only [u64_or8, u64_or16, u64_or24, u64_or32, u64_or40, u64_or48, u64_or56]
  rfl

theorem word_any (A : Option Addr) (n c : Nat) (xs : List Int) (w : World) {B : Nat} (h : IsL w B .u8 A n xs) (hn : 8 ≤ n) :
    Calls Tryd.prog 54 #[.slice A n c] w fun e w' => e = .returned (.int .u64 (leL xs : Int)) ∧ ∃ q, w' = w.drewN q := by
  have hl := h.len
  have hf := h.fit.bytes
  obtain ⟨bl, off, rfl, _, _⟩ := h.2.2 (by omega)
  have hcell : ∀ j, j < n → w.cell? ⟨bl, off + j, none⟩ = some (.int .u8 (bt xs j : Int)) := fun j hj => by
    obtain ⟨a, _, ea, k⟩ := h.byteAt hj
    rw [k, bt_at ea]
  have hb := bt_lt hf
  rw [leL_eq hf (by omega)]
  exact word_walk bl off n c _ _ _ _ _ _ _ _ w hn (hb 0) (hb 1) (hb 2) (hb 3) (hb 4) (hb 5) (hb 6) (hb 7) (hcell 0 (by omega)) (hcell 1 (by omega)) (hcell 2 (by omega)) (hcell 3 (by omega)) (hcell 4 (by omega)) (hcell 5 (by omega)) (hcell 6 (by omega)) (hcell 7 (by omega))
theorem sword_any (s : ByteArray) (w : World) (hn : 8 ≤ s.size) :
    Calls Tryd.prog 59 #[.string s] w fun e w' => e = .returned (.int .u64 (leL (bsL s) : Int)) ∧ ∃ q, w' = w.drewN q := by
  have hcell : ∀ j (hj : j < s.size), bt (bsL s) j = (s[j]'hj).toNat := fun j hj => bt_at (bsL_at s j hj)
  rw [leL_eq (bsL_byte s) (by rw [bsL_len]; exact hn), hcell 0 (by omega), hcell 1 (by omega), hcell 2 (by omega), hcell 3 (by omega), hcell 4 (by omega), hcell 5 (by omega), hcell 6 (by omega), hcell 7 (by omega)]
  exact sword_walk s _ _ _ _ _ _ _ _ w hn (by omega) rfl (by omega) rfl (by omega) rfl (by omega) rfl (by omega) rfl (by omega) rfl (by omega) rfl (by omega) rfl

end Go.Proofs.YtincmkjffohekaaDoor
