/-
  Proved here: the contract of spec.Numbers: the numbers of a text. Condition: at most 1000000 bytes, the length at most the capacity.
-/
import Derived.Test.YtincmkjffohekaaDoorFst
namespace Go.Proofs.YtincmkjffohekaaDoor
open Go.RowKit

theorem info32 : (Tryd.prog.info? 21).map (fun i => (i.zero, i.size, i.bytes)) = some (some (.int .i32 0), 1, 4) := by kernel_rfl
theorem info64 : (Tryd.prog.info? 3).map (fun i => (i.zero, i.size, i.bytes)) = some (some (.int .i64 0), 1, 8) := by kernel_rfl

theorem wf_i64 {x : Int} (h : -9223372036854775808 ≤ x ∧ x ≤ 9223372036854775807) : (Lit.int .i64 x).wf = true := by
  simp [Lit.wf, IntKind.min, IntKind.max, IntKind.bits, IntKind.signed]; omega
/-- Two rows of different element types share no block. -/
theorem own_apart {w : World} {base base' : Nat} {e e' : TypeId} {k k' : IntKind} {v v' : Value} {xs ys : List Int} (h : OwnsL w base e k v xs) (h' : OwnsL w base' e' k' v' ys) (hne : e ≠ e') : v'.ownBlock = none ∨ v'.ownBlock ≠ v.ownBlock := by
  rcases h.2 with ⟨rfl, _⟩ | ⟨g, cap, cur, rfl, _, hh, _⟩
  · by_cases h0 : v'.ownBlock = none
    · exact .inl h0
    · exact .inr h0
  · rcases h'.2 with ⟨rfl, _⟩ | ⟨g', cap', cur', rfl, _, hh', _⟩
    · exact .inl rfl
    · right
      intro he
      have : g' = g := by simpa [Value.ownBlock] using he
      subst this
      rw [hh] at hh'
      injection hh' with hh'
      injection hh' with _ ht
      exact hne ht
theorem OwnsL.kept {w w' : World} {base base0 base' : Nat} {e e' : TypeId} {k k' : IntKind} {v v2 v' : Value} {xs ys zs : List Int} (h' : OwnsL w base' e' k' v' ys) (h : OwnsL w base e k v xs) (hne : e ≠ e') (hg : GrewL w w' base0 e k v v2 zs) : OwnsL w' base' e' k' v' ys :=
  World.ownsRow.kept h' hg.2 (own_apart h h' hne)
theorem IsL.none_ (w : World) (B : Nat) (k : IntKind) (A : Option Addr) {n : Nat} {xs : List Int} (h : xs.length = n) (h0 : n = 0) : IsL w B k A n xs := by
  subst h0
  obtain rfl : xs = [] := List.eq_nil_of_length_eq_zero h
  exact IsL.nil_ _ _ _ _
theorem num_next {xs acc : List Int} {k : Nat} (h : acc ++ numbers (xs.drop k) = numbers xs) (hk : k < xs.length) : (acc ++ [(firstL (xs.drop k)).1]) ++ numbers (xs.drop (k + (firstL (xs.drop k)).2)) = numbers xs := by
  rw [← h, numbers_cons (l := xs.drop k) (by rw [List.length_drop]; omega), List.drop_drop]
  simp

/-- What spec.Numbers leaves. -/
def GivesTwo (w : World) (xs : List Int) (e : Ending) (w' : World) : Prop :=
  ∃ A c v2, e = .returned (.tuple #[.slice A xs.length c, v2]) ∧ OwnsL w' w.heap.size 21 .i32 (.slice A xs.length c) xs ∧ Below w.heap.size w w'
theorem gives_two {w w' : World} {v v2 : Value} {xs : List Int} (h : OwnsL w' w.heap.size 21 .i32 v xs) (hb : Below w.heap.size w w') : GivesTwo w xs (.returned (.tuple #[v, v2])) w' := by
  obtain ⟨A, c, rfl⟩ := h.form
  exact ⟨A, c, v2, rfl, h, hb⟩

set_option maxHeartbeats 1000000 in
theorem numbers_any (A : Option Addr) (n c : Nat) (xs : List Int) (w : World) (h : IsL w w.heap.size .u8 A n xs) (hcap : n ≤ c) (hn : n ≤ 1000000) :
    Calls Tryd.prog 20 #[.slice A n c] w (GivesTwo w (numbers xs)) := by
  obtain ⟨i0, hi, hz0, hz1, hz2⟩ := info_parts info32
  obtain ⟨i1, hj, hy0, hy1, hy2⟩ := info_parts info64
  have HL := Lib.hid h.len
  have HB := Lib.hid h.fit.bytes
  go_enter Tryd.func20, Tryd.ntmps20
  go_wp2
  go_loopw [0, 4, 5] (fun b v u wr => ∃ (k m : Nat) (A' : Option Addr) (c' : Nat) (acc ss : List Int), k + m = n ∧ b = .slice A' m c' ∧ m ≤ c' ∧ IsL w w.heap.size .u8 A' m (xs.drop k) ∧ OwnsL wr w.heap.size 21 .i32 v acc ∧ OwnsL wr w.heap.size 3 .i64 u ss ∧
      acc.length ≤ k ∧ ss.length ≤ k ∧ Hid (acc ++ numbers (xs.drop k) = numbers xs) ∧ Below w.heap.size w wr)
    (fun b _ _ _ => match b with | .slice _ m _ => m | _ => 0)
  case atStart =>
    refine ⟨0, n, A, c, [], [], by omega, rfl, hcap, by simpa using h, ?_, ?_, by simp, by simp, by simp [Hid], ?_⟩
    · exact (OwnsL.lit0 w 21 .i32).alloc _
    · have h1 := (OwnsL.lit0 (w.alloc (.cells #[] 21)) 3 .i64).low (base' := w.heap.size) (by simp)
      rw [World.size_alloc] at h1
      exact h1
    · exact ((Below.refl w.heap.size w).alloc (Nat.le_refl _) _).alloc (by simp) _
  case round =>
    obtain ⟨k, m, A', c', acc, ss, hkm, rfl, hmc, hI, ho, hs, hal, hsl, hinv, hb⟩ := hrel
    have HI := Lib.hid hI
    have HKM := Lib.hid hkm
    have hsz := hb.size
    by_cases hm : 0 < m
    · obtain ⟨b, off, hA, hbb, _⟩ := hI.2.2 hm
      subst hA
      have hdl := hI.len
      have hfs := firstL_size (l := xs.drop k) (by omega)
      have hfr := firstL_range (xs.drop k) (fun x hx => HB.out x (List.mem_of_mem_drop hx))
      have HN := Lib.hid (num_next hinv.out (by have := HL.out; omega))
      have HF := Lib.hid (first_any (some ⟨b, off, none⟩) m c' (xs.drop k) wr ((HI.out.below hb).more hb.size) hmc (by omega))
      have hkn : k ≤ n := by omega
      clear hinv hI
      generalize hq : (firstL (xs.drop k)).1 = r at *
      generalize hz : (firstL (xs.drop k)).2 = z at *
      have hzm : z ≤ m := by omega
      have hz1' : 1 ≤ z := hfs.1
      have hz4 : z ≤ 4 := hfs.2.2
      have hkk : k + z + (m - z) = n := by omega
      have HK := Lib.hid hkk
      have hpos : (0 : Int) < (m : Int) := by omega
      clear hq hz hfs hkm hkk hdl
      by_cases hcz : c' = z
      · subst hcz
        obtain rfl : m = c' := by omega
        go_wp2_with fail
        refine HF.out.mono ?_
        rintro e w1 ⟨rfl, b1⟩
        have ho1 := ho.below b1
        have hs1 := hs.below b1
        have hb1 := hb.trans (b1.mono hsz)
        have hsz1 := hb1.size
        clear ho hs b1 hb
        go_wp2_with (at_builtin; refine wpList_append_O _ rfl (.tmp 18) (.tmp 20) 24 rfl w.heap.size 21 i0 (.int .i32 0) 4 Tryd.underlying24 hi hz0 hz1 hz2 rfl .i32 _ acc rfl (ho1.alloc _) (w1.heap.size + 1) _ 1 1 [r] rfl (IsL.new1 w1 21 r (wf_i32 (by omega))) (by unfold maxLen; omega) (by omega) (by simp; omega) ?_)
        intro v1 w2 g1
        have ho2 := g1.own
        have hs2 := (hs1.alloc (.cells #[.int .i32 r] 21)).kept (ho1.alloc (.cells #[.int .i32 r] 21)) (by decide) g1
        have hb2 := hb1.trans (g1.alloc_left.below ho1 (Nat.le_refl _) hsz1)
        have hsz2 := hb2.size
        clear g1 ho1 hs1 hb1
        go_wp2_with (at_builtin; refine wpList_append_O _ rfl (.tmp 22) (.tmp 24) 25 rfl w.heap.size 3 i1 (.int .i64 0) 8 Tryd.underlying25 hj hy0 hy1 hy2 rfl .i64 _ ss rfl (hs2.alloc _) (w2.heap.size + 1) _ 1 1 [(m : Int)] rfl (IsL.new1 w2 3 (m : Int) (wf_i64 (by omega))) (by unfold maxLen; omega) (by omega) (by simp; omega) ?_)
        intro v2 w3 g2
        have hs3 := g2.own
        have ho3 := (ho2.alloc (.cells #[.int .i64 (m : Int)] 3)).kept (hs2.alloc (.cells #[.int .i64 (m : Int)] 3)) (by decide) g2
        have hb3 := hb2.trans (g2.alloc_left.below hs2 (Nat.le_refl _) hsz2)
        clear g2 ho2 hs2 hb2
        go_wp2
        go_roundw
        case rel => exact ⟨k + m, 0, _, 0, _, _, by have := HKM.out; omega, rfl, Nat.le_refl _, IsL.none_ _ _ _ _ (by rw [List.length_drop, HL.out]; have := HKM.out; omega) rfl, ho3, hs3, by simp; omega, by simp; omega, HN.out, hb3⟩
        case measure => simp; omega
      · have hzc : z ≤ c' := by omega
        go_wp2_with fail
        refine HF.out.mono ?_
        rintro e w1 ⟨rfl, b1⟩
        have ho1 := ho.below b1
        have hs1 := hs.below b1
        have hb1 := hb.trans (b1.mono hsz)
        have hsz1 := hb1.size
        clear ho hs b1 hb
        go_wp2_with (at_builtin; refine wpList_append_O _ rfl (.tmp 18) (.tmp 20) 24 rfl w.heap.size 21 i0 (.int .i32 0) 4 Tryd.underlying24 hi hz0 hz1 hz2 rfl .i32 _ acc rfl (ho1.alloc _) (w1.heap.size + 1) _ 1 1 [r] rfl (IsL.new1 w1 21 r (wf_i32 (by omega))) (by unfold maxLen; omega) (by omega) (by simp; omega) ?_)
        intro v1 w2 g1
        have ho2 := g1.own
        have hs2 := (hs1.alloc (.cells #[.int .i32 r] 21)).kept (ho1.alloc (.cells #[.int .i32 r] 21)) (by decide) g1
        have hb2 := hb1.trans (g1.alloc_left.below ho1 (Nat.le_refl _) hsz1)
        have hsz2 := hb2.size
        clear g1 ho1 hs1 hb1
        go_wp2_with (at_builtin; refine wpList_append_O _ rfl (.tmp 22) (.tmp 24) 25 rfl w.heap.size 3 i1 (.int .i64 0) 8 Tryd.underlying25 hj hy0 hy1 hy2 rfl .i64 _ ss rfl (hs2.alloc _) (w2.heap.size + 1) _ 1 1 [(z : Int)] rfl (IsL.new1 w2 3 (z : Int) (wf_i64 (by omega))) (by unfold maxLen; omega) (by omega) (by simp; omega) ?_)
        intro v2 w3 g2
        have hs3 := g2.own
        have ho3 := (ho2.alloc (.cells #[.int .i64 (z : Int)] 3)).kept (hs2.alloc (.cells #[.int .i64 (z : Int)] 3)) (by decide) g2
        have hb3 := hb2.trans (g2.alloc_left.below hs2 (Nat.le_refl _) hsz2)
        clear g2 ho2 hs2 hb2
        go_wp2
        go_roundw
        case rel => exact ⟨k + z, m - z, _, c' - z, _, _, HK.out, rfl, by omega, by rw [← List.drop_drop]; exact HI.out.drop hzm, ho3, hs3, by simp; omega, by simp; omega, HN.out, hb3⟩
        case measure => simp; omega
    · obtain rfl : m = 0 := by omega
      have hd : numbers (xs.drop k) = [] := by
        rw [List.drop_eq_nil_of_le (by have := HL.out; omega)]; rfl
      have he := hinv.out
      rw [hd, List.append_nil] at he
      rw [he] at ho
      clear hd he hinv hI
      have R2 := Lib.hid (fun v2 => gives_two (v2 := v2) ho hb)
      clear ho
      go_wp2
      go_ret2
      exact R2.out _

end Go.Proofs.YtincmkjffohekaaDoor
