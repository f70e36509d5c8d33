/-
  Proved here: the walk of the law FnAppend16: it returns true for every input. No conditions.
-/
import Derived.Test.YtkpehilgjckekaaC2
namespace Go.Proofs.Ytkpehilgjckekaa
open Go.RowKit

theorem fnAppend16_walk (A : Option Addr) (n c : Nat) (xs : List Int) (r : Int) (w : World) (h : IsL w w.heap.size .u16 A n xs) (w1 : (Lit.int .i32 r).wf = true) :
    Calls Try.prog 8 #[.slice A n c, .int .i32 r] w fun e w' => e = .returned (.bool true) ∧ Below w.heap.size w w' := by
  have hr := rune_range w1
  clear w1
  obtain ⟨i0, hi, hz0, hz1, hz2⟩ := info_parts info16
  have H := Lib.hid h
  clear h
  by_cases h1 : (2147483647 : Int) < (n : Int)
  · go_enter Try.func8, Try.ntmps8
    go_wp2
    go_ret
    exact ⟨rfl, Below.refl _ _⟩
  by_cases h2 : (1000 : Int) < (n : Int)
  · go_enter Try.func8, Try.ntmps8
    go_wp2
    go_ret
    exact ⟨rfl, Below.refl _ _⟩
  have hl := H.out.len
  have hwl := words_len r
  have hwf : FitL .u16 (xs ++ words r) := H.out.fit.app (words_wf r)
  have hyl : (xs ++ words r).length ≤ 2147483648 := by rw [List.length_append]; omega
  have HW := Lib.hid (words_wf r)
  generalize hws : words r = ws at *
  have HC := Lib.hid (append16_any A n c xs r w H.out (by omega) hr)
  have HD := Lib.hid (fun w2 => words_any r w2 hr)
  rw [hws] at HC HD
  clear hws
  generalize hys : xs ++ ws = ys at *
  have HY := Lib.hid hys
  have HL := Lib.hid hl
  clear hys hl
  go_enter Try.func8, Try.ntmps8
  go_wp2_with fail
  refine HC.out.mono ?_
  rintro e w1 ⟨A1, c1, rfl, o1, b1⟩
  have hin := (H.out.below b1).below (w' := w1.alloc (.cells #[] 29)) ((Below.refl _ _).alloc b1.size _)
  go_wp2_with (at_builtin; refine wpList_append_W _ rfl _ _ 27 rfl w1.heap.size 29 i0 (.int .u16 0) 2 Try.underlying27 hi hz0 hz1 hz2 rfl .u16 _ [] rfl (OwnsL.lit0 w1 29 .u16) w.heap.size A n c xs rfl hin (by unfold maxLen; simp; omega) (by simp; omega) (by simp) ?_)
  intro v2 w2 g2
  have o2 : OwnsL w2 w1.heap.size 29 .u16 v2 xs := by simpa using g2.own
  have b2 : Below w1.heap.size w1 w2 := ((Below.refl _ _).alloc (Nat.le_refl _) _).trans (g2.below (OwnsL.lit0 w1 29 .u16) (Nat.le_refl _) (by simp))
  go_wp2_with fail
  refine (HD.out w2).mono ?_
  rintro e w3 ⟨A3, c3, rfl, o3, b3⟩
  have i3 := OwnsL.isL (e := 29) (k := .u16) o3 HW.out
  have o23 := o2.below b3
  go_wp2_with (at_builtin; refine wpList_append_W _ rfl _ _ 27 rfl w1.heap.size 29 i0 (.int .u16 0) 2 Try.underlying27 hi hz0 hz1 hz2 rfl .u16 _ xs rfl o23 w3.heap.size A3 ws.length c3 ws rfl i3 (by have := HL.out; unfold maxLen; omega) (by have := HL.out; omega) (Nat.le_trans b2.size b3.size) ?_)
  intro v4 w4 g4
  have o4 : OwnsL w4 w1.heap.size 29 .u16 v4 ys := by rw [← HY.out]; exact g4.own
  have b4 : Below w1.heap.size w3 w4 := g4.below o23 (Nat.le_refl _) (Nat.le_trans b2.size b3.size)
  obtain ⟨A4, c4, rfl⟩ := o4.form
  have b14 : Below w1.heap.size w1 w4 := (b2.trans (b3.mono b2.size)).trans b4
  have i1 := (OwnsL.isL (e := 29) (k := .u16) o1 hwf).upto b14
  have i4 := o4.isL hwf
  have ball := b1.trans (b14.mono b1.size)
  clear g4 o23 i3 o3 o2 g2 hin o1
  go_wp2_with fail
  refine (sameWords_any A1 A4 ys.length c1 ys.length c4 ys ys w4 i1 i4 hyl hyl).mono ?_
  rintro e w5 ⟨rfl, b5⟩
  have bfin := ball.trans (b5.mono ball.size)
  go_wp2
  go_ret
  exact ⟨ret_bool (by simp), bfin⟩

end Go.Proofs.Ytkpehilgjckekaa
