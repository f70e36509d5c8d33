/-
  Proved here: the contract of spec.tells at one to four bytes: the number that they reckon to, and whether they are that number's own bytes. No other conditions.
-/
import Derived.Test.YtincmkjffohekaaDoorEnc
import Derived.Test.YtincmkjffohekaaDoorStr
import Derived.Deep.RegionWith
import Derived.Deep.QuietTactic
import Derived.BigRegion
import Derived.BigQuiet
import Derived.Handy
namespace Go.Proofs.YtincmkjffohekaaDoor
open Go.RowKit

/-- What spec.tells hands back. -/
def Tells (w : World) (xs : List Int) (e : Ending) (w' : World) : Prop := e = .returned (.tuple #[.int .i32 (raw xs), .bool (tell xs).isSome]) ∧ Below w.heap.size w w'
theorem tells_of {w w' : World} {xs : List Int} {q : Int} {t : Bool} (hq : q = raw xs) (ht : t = (tell xs).isSome) (hb : Below w.heap.size w w') : Tells w xs (.returned (.tuple #[.int .i32 q, .bool t])) w' := by
  subst hq; subst ht; exact ⟨rfl, hb⟩
theorem some_if (b : Bool) (p : Prop) [Decidable p] (v : Int) : (if b = true ∧ p then some v else none).isSome = (b && decide p) := by
  by_cases h : b = true ∧ p
  · rw [if_pos h]; simp [h.1, h.2]
  · rw [if_neg h]; cases b <;> simp_all
theorem tell_bool (l : List Int) (hf : ∀ x ∈ l, 0 ≤ x ∧ x ≤ 255) (h1 : 1 ≤ l.length) (h4 : l.length ≤ 4) : (tell l).isSome = (isRune (raw l) && decide (enc (raw l) = l)) := by
  rw [tell_raw l hf h1 h4, some_if]

set_option maxHeartbeats 4000000 in
theorem tells_1 (bl off cp : Nat) (a : Int) (w : World) (h : IsL w w.heap.size .u8 (some ⟨bl, off, none⟩) 1 [a]) :
    Calls Tryd.prog 46 #[.slice (some ⟨bl, off, none⟩) 1 cp] w (Tells w [a]) := by
  have H := Lib.hid h
  have hf : FitL .u8 [a] := h.fit
  have ra := byte_range (hf a (by simp))
  have hcs : ∀ j, j < 1 → w.cell? ⟨bl, off + j, none⟩ = some (.int .u8 ([a].getD j 0)) := by
    obtain ⟨b1, o1, hA, _, hc⟩ := h.2.2 (by omega)
    simp only [Option.some.injEq, Addr.mk.injEq, and_true] at hA
    obtain ⟨rfl, rfl⟩ := hA
    exact hc
  have k0 : w.cell? ⟨bl, off, none⟩ = some (.int .u8 a) := hcs 0 (by omega)
  clear hcs h
  have HT := Lib.hid (tell_bool [a] hf.bytes (by simp) (by simp))
  have HR : Hid (a = raw [a]) := rfl
  have HF := Lib.hid hf
  have hrr := raw_range [a] hf.bytes
  have HRR := Lib.hid hrr
  clear hf hrr
  go_enter Tryd.func46, Tryd.ntmps46
  go_wp2
  go_rounds 2
  generalize a = q at *
  clear k0
  have HQR : Hid (-2147483648 ≤ q ∧ q ≤ 2147483647) := by
    have h1 := HRR.out
    rw [← HR.out] at h1
    exact ⟨by omega, by omega⟩
  by_cases hr : isRune q = true
  · have hI := Lib.hid (isRune_yes q w.drew (isRune_iff.1 hr))
    have HB := Lib.hid (fun w2 => bytes_any q w2)
    have HFE : Hid (FitL .u8 (enc q)) := enc_wf q
    have HH := Lib.hid hr
    clear hr
    have HE := Lib.hid (str_eq HFE.out HF.out)
    generalize hys : enc q = ys at *
    have HY := Lib.hid hys
    clear hys
    have hc0 := run_string_L w.drew 22 9 5 (B := w.heap.size) H.out cp Tryd.underlying22 Tryd.underlying5 Tryd.underlying9
    go_region_with (first
      | (go_at_call 36; refine hI.out.mono ?_; rintro e w' ⟨rfl, rfl⟩)
      | (go_at_call 57; refine (HB.out _).mono ?_; rintro e w2 ⟨A2, c2, rfl, o2, b2⟩; have i2 := OwnsL.isL (e := 5) (k := .u8) o2 HFE.out; have hc2 := run_string_L w2 22 9 5 i2 c2 Tryd.underlying22 Tryd.underlying5 Tryd.underlying9; have B2 : Hid (Below w.heap.size w w2) := (Below.refl w.heap.size w).drew.trans b2; have hc1 := run_string_L w2 22 9 5 (IsL.below (B := w.heap.size) H.out B2.out) cp Tryd.underlying22 Tryd.underlying5 Tryd.underlying9; clear i2 o2 b2))
    all_goals
      go_wp2
      go_ret2
      exact tells_of HR.out (by rw [HT.out, ← HR.out, HH.out, HY.out, Bool.true_and]; exact HE.out) B2.out
  · have hr' : isRune q = false := by simpa using hr
    have hI := Lib.hid (isRune_no q w.drew (isRune_not.1 hr'))
    have HH := Lib.hid hr'
    clear hr hr'
    go_quiet ((go_at_call 36; exact Calls.quiet_of_same ((isRune_no q _ (isRune_not.1 HH.out)).mono fun _ _ h => ⟨h.1, h.2.symm⟩)))
    go_wp2
    go_ret2
    exact tells_of HR.out (by rw [HT.out, ← HR.out, HH.out, Bool.false_and]) ⟨rfl, rfl, rfl, Nat.le_refl _, fun _ _ => rfl⟩

set_option maxHeartbeats 4000000 in
theorem tells_2 (bl off cp : Nat) (a b : Int) (w : World) (h : IsL w w.heap.size .u8 (some ⟨bl, off, none⟩) 2 [a, b]) :
    Calls Tryd.prog 46 #[.slice (some ⟨bl, off, none⟩) 2 cp] w (Tells w [a, b]) := by
  have H := Lib.hid h
  have hf : FitL .u8 [a, b] := h.fit
  have ra := byte_range (hf a (by simp))
  have rb := byte_range (hf b (by simp))
  have hcs : ∀ j, j < 2 → w.cell? ⟨bl, off + j, none⟩ = some (.int .u8 ([a, b].getD j 0)) := by
    obtain ⟨b1, o1, hA, _, hc⟩ := h.2.2 (by omega)
    simp only [Option.some.injEq, Addr.mk.injEq, and_true] at hA
    obtain ⟨rfl, rfl⟩ := hA
    exact hc
  have k0 : w.cell? ⟨bl, off, none⟩ = some (.int .u8 a) := hcs 0 (by omega)
  have k1 : w.cell? ⟨bl, off + 1, none⟩ = some (.int .u8 b) := hcs 1 (by omega)
  clear hcs h
  have ea := u8_and31 (x := a) (by omega) (by omega)
  have eb := u8_and63 (x := b) (by omega) (by omega)
  have ob := i32_or6 (x := (a % 32) * 64) (y := b % 64) (by omega) (by omega) (by omega) (by omega) (by omega)
  have HT := Lib.hid (tell_bool [a, b] hf.bytes (by simp) (by simp))
  have HR : Hid (a % 32 * 64 + b % 64 = raw [a, b]) := rfl
  have HF := Lib.hid hf
  have hrr := raw_range [a, b] hf.bytes
  have HRR := Lib.hid hrr
  clear hf hrr
  go_enter Tryd.func46, Tryd.ntmps46
  go_wp2
  go_rounds 3
  generalize a % 32 * 64 + b % 64 = q at *
  clear k0 k1 ea eb ob
  have HQR : Hid (-2147483648 ≤ q ∧ q ≤ 2147483647) := by
    have h1 := HRR.out
    rw [← HR.out] at h1
    exact ⟨by omega, by omega⟩
  by_cases hr : isRune q = true
  · have hI := Lib.hid (isRune_yes q w.drew (isRune_iff.1 hr))
    have HB := Lib.hid (fun w2 => bytes_any q w2)
    have HFE : Hid (FitL .u8 (enc q)) := enc_wf q
    have HH := Lib.hid hr
    clear hr
    have HE := Lib.hid (str_eq HFE.out HF.out)
    generalize hys : enc q = ys at *
    have HY := Lib.hid hys
    clear hys
    have hc0 := run_string_L w.drew 22 9 5 (B := w.heap.size) H.out cp Tryd.underlying22 Tryd.underlying5 Tryd.underlying9
    go_region_with (first
      | (go_at_call 36; refine hI.out.mono ?_; rintro e w' ⟨rfl, rfl⟩)
      | (go_at_call 57; refine (HB.out _).mono ?_; rintro e w2 ⟨A2, c2, rfl, o2, b2⟩; have i2 := OwnsL.isL (e := 5) (k := .u8) o2 HFE.out; have hc2 := run_string_L w2 22 9 5 i2 c2 Tryd.underlying22 Tryd.underlying5 Tryd.underlying9; have B2 : Hid (Below w.heap.size w w2) := (Below.refl w.heap.size w).drew.trans b2; have hc1 := run_string_L w2 22 9 5 (IsL.below (B := w.heap.size) H.out B2.out) cp Tryd.underlying22 Tryd.underlying5 Tryd.underlying9; clear i2 o2 b2))
    all_goals
      go_wp2
      go_ret2
      exact tells_of HR.out (by rw [HT.out, ← HR.out, HH.out, HY.out, Bool.true_and]; exact HE.out) B2.out
  · have hr' : isRune q = false := by simpa using hr
    have hI := Lib.hid (isRune_no q w.drew (isRune_not.1 hr'))
    have HH := Lib.hid hr'
    clear hr hr'
    go_quiet ((go_at_call 36; exact Calls.quiet_of_same ((isRune_no q _ (isRune_not.1 HH.out)).mono fun _ _ h => ⟨h.1, h.2.symm⟩)))
    go_wp2
    go_ret2
    exact tells_of HR.out (by rw [HT.out, ← HR.out, HH.out, Bool.false_and]) ⟨rfl, rfl, rfl, Nat.le_refl _, fun _ _ => rfl⟩

set_option maxHeartbeats 4000000 in
theorem tells_3 (bl off cp : Nat) (a b c : Int) (w : World) (h : IsL w w.heap.size .u8 (some ⟨bl, off, none⟩) 3 [a, b, c]) :
    Calls Tryd.prog 46 #[.slice (some ⟨bl, off, none⟩) 3 cp] w (Tells w [a, b, c]) := by
  have H := Lib.hid h
  have hf : FitL .u8 [a, b, c] := h.fit
  have ra := byte_range (hf a (by simp))
  have rb := byte_range (hf b (by simp))
  have rc := byte_range (hf c (by simp))
  have hcs : ∀ j, j < 3 → w.cell? ⟨bl, off + j, none⟩ = some (.int .u8 ([a, b, c].getD j 0)) := by
    obtain ⟨b1, o1, hA, _, hc⟩ := h.2.2 (by omega)
    simp only [Option.some.injEq, Addr.mk.injEq, and_true] at hA
    obtain ⟨rfl, rfl⟩ := hA
    exact hc
  have k0 : w.cell? ⟨bl, off, none⟩ = some (.int .u8 a) := hcs 0 (by omega)
  have k1 : w.cell? ⟨bl, off + 1, none⟩ = some (.int .u8 b) := hcs 1 (by omega)
  have k2 : w.cell? ⟨bl, off + 2, none⟩ = some (.int .u8 c) := hcs 2 (by omega)
  clear hcs h
  have ea := u8_and15 (x := a) (by omega) (by omega)
  have eb := u8_and63 (x := b) (by omega) (by omega)
  have ec := u8_and63 (x := c) (by omega) (by omega)
  have ob := i32_or6 (x := (a % 16) * 64) (y := b % 64) (by omega) (by omega) (by omega) (by omega) (by omega)
  have oc := i32_or6 (x := ((a % 16) * 64 + b % 64) * 64) (y := c % 64) (by omega) (by omega) (by omega) (by omega) (by omega)
  have HT := Lib.hid (tell_bool [a, b, c] hf.bytes (by simp) (by simp))
  have HR : Hid ((a % 16 * 64 + b % 64) * 64 + c % 64 = raw [a, b, c]) := rfl
  have HF := Lib.hid hf
  have hrr := raw_range [a, b, c] hf.bytes
  have HRR := Lib.hid hrr
  clear hf hrr
  go_enter Tryd.func46, Tryd.ntmps46
  go_wp2
  go_rounds 4
  generalize (a % 16 * 64 + b % 64) * 64 + c % 64 = q at *
  clear k0 k1 k2 ea eb ob ec oc
  have HQR : Hid (-2147483648 ≤ q ∧ q ≤ 2147483647) := by
    have h1 := HRR.out
    rw [← HR.out] at h1
    exact ⟨by omega, by omega⟩
  by_cases hr : isRune q = true
  · have hI := Lib.hid (isRune_yes q w.drew (isRune_iff.1 hr))
    have HB := Lib.hid (fun w2 => bytes_any q w2)
    have HFE : Hid (FitL .u8 (enc q)) := enc_wf q
    have HH := Lib.hid hr
    clear hr
    have HE := Lib.hid (str_eq HFE.out HF.out)
    generalize hys : enc q = ys at *
    have HY := Lib.hid hys
    clear hys
    have hc0 := run_string_L w.drew 22 9 5 (B := w.heap.size) H.out cp Tryd.underlying22 Tryd.underlying5 Tryd.underlying9
    go_region_with (first
      | (go_at_call 36; refine hI.out.mono ?_; rintro e w' ⟨rfl, rfl⟩)
      | (go_at_call 57; refine (HB.out _).mono ?_; rintro e w2 ⟨A2, c2, rfl, o2, b2⟩; have i2 := OwnsL.isL (e := 5) (k := .u8) o2 HFE.out; have hc2 := run_string_L w2 22 9 5 i2 c2 Tryd.underlying22 Tryd.underlying5 Tryd.underlying9; have B2 : Hid (Below w.heap.size w w2) := (Below.refl w.heap.size w).drew.trans b2; have hc1 := run_string_L w2 22 9 5 (IsL.below (B := w.heap.size) H.out B2.out) cp Tryd.underlying22 Tryd.underlying5 Tryd.underlying9; clear i2 o2 b2))
    all_goals
      go_wp2
      go_ret2
      exact tells_of HR.out (by rw [HT.out, ← HR.out, HH.out, HY.out, Bool.true_and]; exact HE.out) B2.out
  · have hr' : isRune q = false := by simpa using hr
    have hI := Lib.hid (isRune_no q w.drew (isRune_not.1 hr'))
    have HH := Lib.hid hr'
    clear hr hr'
    go_quiet ((go_at_call 36; exact Calls.quiet_of_same ((isRune_no q _ (isRune_not.1 HH.out)).mono fun _ _ h => ⟨h.1, h.2.symm⟩)))
    go_wp2
    go_ret2
    exact tells_of HR.out (by rw [HT.out, ← HR.out, HH.out, Bool.false_and]) ⟨rfl, rfl, rfl, Nat.le_refl _, fun _ _ => rfl⟩

set_option maxHeartbeats 4000000 in
theorem tells_4 (bl off cp : Nat) (a b c d : Int) (w : World) (h : IsL w w.heap.size .u8 (some ⟨bl, off, none⟩) 4 [a, b, c, d]) :
    Calls Tryd.prog 46 #[.slice (some ⟨bl, off, none⟩) 4 cp] w (Tells w [a, b, c, d]) := by
  have H := Lib.hid h
  have hf : FitL .u8 [a, b, c, d] := h.fit
  have ra := byte_range (hf a (by simp))
  have rb := byte_range (hf b (by simp))
  have rc := byte_range (hf c (by simp))
  have rd := byte_range (hf d (by simp))
  have hcs : ∀ j, j < 4 → w.cell? ⟨bl, off + j, none⟩ = some (.int .u8 ([a, b, c, d].getD j 0)) := by
    obtain ⟨b1, o1, hA, _, hc⟩ := h.2.2 (by omega)
    simp only [Option.some.injEq, Addr.mk.injEq, and_true] at hA
    obtain ⟨rfl, rfl⟩ := hA
    exact hc
  have k0 : w.cell? ⟨bl, off, none⟩ = some (.int .u8 a) := hcs 0 (by omega)
  have k1 : w.cell? ⟨bl, off + 1, none⟩ = some (.int .u8 b) := hcs 1 (by omega)
  have k2 : w.cell? ⟨bl, off + 2, none⟩ = some (.int .u8 c) := hcs 2 (by omega)
  have k3 : w.cell? ⟨bl, off + 3, none⟩ = some (.int .u8 d) := hcs 3 (by omega)
  clear hcs h
  have ea := u8_and7 (x := a) (by omega) (by omega)
  have eb := u8_and63 (x := b) (by omega) (by omega)
  have ec := u8_and63 (x := c) (by omega) (by omega)
  have ed := u8_and63 (x := d) (by omega) (by omega)
  have ob := i32_or6 (x := (a % 8) * 64) (y := b % 64) (by omega) (by omega) (by omega) (by omega) (by omega)
  have oc := i32_or6 (x := ((a % 8) * 64 + b % 64) * 64) (y := c % 64) (by omega) (by omega) (by omega) (by omega) (by omega)
  have od := i32_or6 (x := (((a % 8) * 64 + b % 64) * 64 + c % 64) * 64) (y := d % 64) (by omega) (by omega) (by omega) (by omega) (by omega)
  have HT := Lib.hid (tell_bool [a, b, c, d] hf.bytes (by simp) (by simp))
  have HR : Hid (((a % 8 * 64 + b % 64) * 64 + c % 64) * 64 + d % 64 = raw [a, b, c, d]) := rfl
  have HF := Lib.hid hf
  have hrr := raw_range [a, b, c, d] hf.bytes
  have HRR := Lib.hid hrr
  clear hf hrr
  go_enter Tryd.func46, Tryd.ntmps46
  go_wp2
  go_rounds 5
  generalize ((a % 8 * 64 + b % 64) * 64 + c % 64) * 64 + d % 64 = q at *
  clear k0 k1 k2 k3 ea eb ob ec oc ed od
  have HQR : Hid (-2147483648 ≤ q ∧ q ≤ 2147483647) := by
    have h1 := HRR.out
    rw [← HR.out] at h1
    exact ⟨by omega, by omega⟩
  by_cases hr : isRune q = true
  · have hI := Lib.hid (isRune_yes q w.drew (isRune_iff.1 hr))
    have HB := Lib.hid (fun w2 => bytes_any q w2)
    have HFE : Hid (FitL .u8 (enc q)) := enc_wf q
    have HH := Lib.hid hr
    clear hr
    have HE := Lib.hid (str_eq HFE.out HF.out)
    generalize hys : enc q = ys at *
    have HY := Lib.hid hys
    clear hys
    have hc0 := run_string_L w.drew 22 9 5 (B := w.heap.size) H.out cp Tryd.underlying22 Tryd.underlying5 Tryd.underlying9
    go_region_with (first
      | (go_at_call 36; refine hI.out.mono ?_; rintro e w' ⟨rfl, rfl⟩)
      | (go_at_call 57; refine (HB.out _).mono ?_; rintro e w2 ⟨A2, c2, rfl, o2, b2⟩; have i2 := OwnsL.isL (e := 5) (k := .u8) o2 HFE.out; have hc2 := run_string_L w2 22 9 5 i2 c2 Tryd.underlying22 Tryd.underlying5 Tryd.underlying9; have B2 : Hid (Below w.heap.size w w2) := (Below.refl w.heap.size w).drew.trans b2; have hc1 := run_string_L w2 22 9 5 (IsL.below (B := w.heap.size) H.out B2.out) cp Tryd.underlying22 Tryd.underlying5 Tryd.underlying9; clear i2 o2 b2))
    all_goals
      go_wp2
      go_ret2
      exact tells_of HR.out (by rw [HT.out, ← HR.out, HH.out, HY.out, Bool.true_and]; exact HE.out) B2.out
  · have hr' : isRune q = false := by simpa using hr
    have hI := Lib.hid (isRune_no q w.drew (isRune_not.1 hr'))
    have HH := Lib.hid hr'
    clear hr hr'
    go_quiet ((go_at_call 36; exact Calls.quiet_of_same ((isRune_no q _ (isRune_not.1 HH.out)).mono fun _ _ h => ⟨h.1, h.2.symm⟩)))
    go_wp2
    go_ret2
    exact tells_of HR.out (by rw [HT.out, ← HR.out, HH.out, Bool.false_and]) ⟨rfl, rfl, rfl, Nat.le_refl _, fun _ _ => rfl⟩

theorem tells_any (A : Option Addr) (n c : Nat) (xs : List Int) (w : World) (h : IsL w w.heap.size .u8 A n xs) (h1 : 1 ≤ n) (h4 : n ≤ 4) :
    Calls Tryd.prog 46 #[.slice A n c] w (Tells w xs) := by
  obtain ⟨b, off, rfl, _⟩ := h.2.2 (by omega)
  have hl := h.len
  subst hl
  match xs, h1, h4, h with
  | [x], _, _, h => exact tells_1 b off c x w h
  | [x, y], _, _, h => exact tells_2 b off c x y w h
  | [x, y, z], _, _, h => exact tells_3 b off c x y z w h
  | [x, y, z, u], _, _, h => exact tells_4 b off c x y z u w h

end Go.Proofs.YtincmkjffohekaaDoor
