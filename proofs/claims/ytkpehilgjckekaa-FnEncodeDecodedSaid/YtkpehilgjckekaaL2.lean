/-
  Proved here: the walks of the laws FnDecode, FnEncode, FnEncodeDecoded: each returns true for every input. No conditions.
-/
import Derived.Test.YtkpehilgjckekaaC5
namespace Go.Proofs.Ytkpehilgjckekaa
open Go.RowKit

theorem new0_16 (w : World) : IsL (w.alloc (.cells #[.int .u16 0] 29)) (w.alloc (.cells #[.int .u16 0] 29)).heap.size .u16 (some ⟨w.heap.size, 0, none⟩) 1 [0] :=
  (IsL.new1 w 29 0 (wf_u16 (by omega))).more (by simp)
theorem new0_32 (w : World) : IsL (w.alloc (.cells #[.int .i32 0] 21)) (w.alloc (.cells #[.int .i32 0] 21)).heap.size .i32 (some ⟨w.heap.size, 0, none⟩) 1 [0] :=
  (IsL.new1 w 21 0 (wf_i32 (by omega))).more (by simp)
/-- impl.Decode of the one word 0 has one number. -/
theorem decode_zero (w : World) : Calls Try.prog 26 #[.slice (some ⟨w.heap.size, 0, none⟩) 1 1] (w.alloc (.cells #[.int .u16 0] 29)) fun e w' => ∃ A c, e = .returned (.slice A 1 c) ∧ Below w.heap.size w w' :=
  (implDecode_any _ 1 1 [0] _ (new0_16 w) (by omega)).mono fun e w' ⟨A, c, he, _, hb⟩ => ⟨A, c, he, ((Below.refl _ w).alloc (Nat.le_refl _) _).trans (hb.mono (by simp))⟩
/-- impl.Encode of the one number 0 has one word. -/
theorem encode_zero (w : World) : Calls Try.prog 28 #[.slice (some ⟨w.heap.size, 0, none⟩) 1 1] (w.alloc (.cells #[.int .i32 0] 21)) fun e w' => ∃ A c, e = .returned (.slice A 1 c) ∧ Below w.heap.size w w' :=
  (implEncode_any _ 1 1 [0] _ (new0_32 w) (by omega)).mono fun e w' ⟨A, c, he, _, hb⟩ => ⟨A, c, he, ((Below.refl _ w).alloc (Nat.le_refl _) _).trans (hb.mono (by simp))⟩

set_option maxHeartbeats 400000 in
theorem fnDecode_walk (A : Option Addr) (n c : Nat) (xs : List Int) (w : World) (h : IsL w w.heap.size .u16 A n xs) :
    Calls Try.prog 9 #[.slice A n c] w fun e w' => e = .returned (.bool true) ∧ Below w.heap.size w w' := by
  have H := Lib.hid h
  clear h
  by_cases h1 : (2147483647 : Int) < (n : Int)
  · go_enter Try.func9, Try.ntmps9
    go_wp2
    go_ret
    exact ⟨rfl, Below.refl _ _⟩
  by_cases h2 : (1000 : Int) < (n : Int)
  · go_enter Try.func9, Try.ntmps9
    go_wp2
    go_ret
    exact ⟨rfl, Below.refl _ _⟩
  have hl := H.out.len
  have hwf : FitL .i32 (ofWords xs) := ofWords_wf xs H.out.fit
  have hyl : (ofWords xs).length ≤ 2147483648 := by have := ofWords_len xs; omega
  have HC := Lib.hid (implDecode_any A n c xs w H.out (by omega))
  have HD := Lib.hid (fun w2 h => ofWords_any A n c xs w2 h (by omega))
  generalize ofWords xs = ys at *
  clear hl
  go_enter Try.func9, Try.ntmps9
  go_wp2_with fail
  refine HC.out.mono ?_
  rintro e w1 ⟨A1, c1, rfl, o1, b1⟩
  go_wp2_with fail
  refine (HD.out w1 (H.out.upto b1)).mono ?_
  rintro e w2 ⟨A2, c2, rfl, o2, b2⟩
  have i1 := (OwnsL.isL (e := 21) (k := .i32) o1 hwf).upto b2
  have i2 := OwnsL.isL (e := 21) (k := .i32) o2 hwf
  have b12 := b1.trans (b2.mono b1.size)
  clear o1 o2
  go_wp2_with fail
  refine (sameRunes_any A1 A2 ys.length c1 ys.length c2 ys ys w2 i1 i2 hyl hyl).mono ?_
  rintro e w3 ⟨rfl, b3⟩
  have b123 := b12.trans (b3.mono b12.size)
  rw [show decide (ys = ys) = true from by simp]
  clear i1 i2
  go_wp2_with fail
  refine (decode_zero w3).mono ?_
  rintro e w4 ⟨A4, c4, rfl, b4⟩
  have bfin := b123.trans (b4.mono b123.size)
  go_wp2
  go_ret
  exact ⟨rfl, bfin⟩

set_option maxHeartbeats 400000 in
theorem fnEncode_walk (A : Option Addr) (n c : Nat) (xs : List Int) (w : World) (h : IsL w w.heap.size .i32 A n xs) :
    Calls Try.prog 10 #[.slice A n c] w fun e w' => e = .returned (.bool true) ∧ Below w.heap.size w w' := by
  have H := Lib.hid h
  clear h
  by_cases h1 : (2147483647 : Int) < (n : Int)
  · go_enter Try.func10, Try.ntmps10
    go_wp2
    go_ret
    exact ⟨rfl, Below.refl _ _⟩
  by_cases h2 : (1000 : Int) < (n : Int)
  · go_enter Try.func10, Try.ntmps10
    go_wp2
    go_ret
    exact ⟨rfl, Below.refl _ _⟩
  have hl := H.out.len
  have hwf : FitL .u16 (xs.flatMap words) := flat_wf xs
  have hyl : (xs.flatMap words).length ≤ 2147483648 := by have := flat_len xs; omega
  have HC := Lib.hid (implEncode_any A n c xs w H.out (by omega))
  have HD := Lib.hid (fun w2 h => wordsOf_any A n c xs w2 h (by omega))
  generalize xs.flatMap words = ys at *
  clear hl
  go_enter Try.func10, Try.ntmps10
  go_wp2_with fail
  refine HC.out.mono ?_
  rintro e w1 ⟨A1, c1, rfl, o1, b1⟩
  go_wp2_with fail
  refine (HD.out w1 (H.out.upto b1)).mono ?_
  rintro e w2 ⟨A2, c2, rfl, o2, b2⟩
  have i1 := (OwnsL.isL (e := 29) (k := .u16) o1 hwf).upto b2
  have i2 := OwnsL.isL (e := 29) (k := .u16) o2 hwf
  have b12 := b1.trans (b2.mono b1.size)
  clear o1 o2
  go_wp2_with fail
  refine (sameWords_any A1 A2 ys.length c1 ys.length c2 ys ys w2 i1 i2 hyl hyl).mono ?_
  rintro e w3 ⟨rfl, b3⟩
  have b123 := b12.trans (b3.mono b12.size)
  rw [show decide (ys = ys) = true from by simp]
  clear i1 i2
  go_wp2_with fail
  refine (encode_zero w3).mono ?_
  rintro e w4 ⟨A4, c4, rfl, b4⟩
  have bfin := b123.trans (b4.mono b123.size)
  go_wp2
  go_ret
  exact ⟨rfl, bfin⟩

end Go.Proofs.Ytkpehilgjckekaa
