/-
  Proved here: contracts of spec.Words, goutf16.AppendRune, impl.Append16, laws.wordsOf, laws.sameWords, laws.sameRunes, for every input within the lengths that each names.
-/
import Derived.Test.YtkpehilgjckekaaRows
import Derived.Test.YtkpehilgjckekaaBase
import Derived.Test.YtkpehilgjckekaaMem
import Derived.Test.YtkpehilgjckekaaPlain
import Derived.Test.YtkpehilgjckekaaSmall
import Derived.Test.YtkpehilgjckekaaClone
import Derived.WalkKit
import Derived.Below
import Derived.Handy
import Derived.WalkSpells
import Derived.Lib.Hide
namespace Go.Proofs.Ytkpehilgjckekaa
open Go.RowKit

theorem gives_lit1 (w : World) (E : TypeId) (k : IntKind) (x : Int) : GivesL w E k [x] (.returned (.slice (some ⟨w.heap.size, 0, none⟩) 1 1)) (w.alloc (.cells #[.int k x] E)) :=
  ⟨_, _, rfl, World.ownsRow_lit w #[.int k x] 1 (Nat.le_refl _) (by decide) rfl, (Below.refl _ _).alloc (Nat.le_refl _) _⟩
theorem gives_lit2 (w : World) (E : TypeId) (k : IntKind) (x y : Int) : GivesL w E k [x, y] (.returned (.slice (some ⟨w.heap.size, 0, none⟩) 2 2)) (w.alloc (.cells #[.int k x, .int k y] E)) :=
  ⟨_, _, rfl, World.ownsRow_lit w #[.int k x, .int k y] 2 (Nat.le_refl _) (by decide) rfl, (Below.refl _ _).alloc (Nat.le_refl _) _⟩

theorem u16_in (x : Int) (h : 0 ≤ x ∧ x ≤ 65535) : IntKind.u16.wrap x = x := by rw [IntKind.wrap_u16]; omega

theorem isRune_yes (r : Int) (w : World) (h : (0 ≤ r ∧ r < 55296) ∨ (57343 < r ∧ r ≤ 1114111)) : Calls Try.prog 21 #[.int .i32 r] w fun e w' => e = .returned (.bool true) ∧ w = w' := by
  rcases h with ⟨a, b⟩ | ⟨a, b⟩
  all_goals
    go_enter Try.func21, Try.ntmps21
    go_wp2
    all_goals go_ret
    all_goals exact ⟨ret_bool (by first | rfl | (simp; omega)), rfl⟩
theorem isRune_no (r : Int) (w : World) (h : ¬ ((0 ≤ r ∧ r < 55296) ∨ (57343 < r ∧ r ≤ 1114111))) : Calls Try.prog 21 #[.int .i32 r] w fun e w' => e = .returned (.bool false) ∧ w = w' := by
  go_enter Try.func21, Try.ntmps21
  go_wp2
  all_goals go_ret
  all_goals exact ⟨ret_bool (by first | rfl | (simp; omega)), rfl⟩

theorem words_any (r : Int) (w : World) (h : -2147483648 ≤ r ∧ r ≤ 2147483647) : Calls Try.prog 20 #[.int .i32 r] w (GivesL w 29 .u16 (words r)) := by
  obtain ⟨hlo, hhi⟩ := h
  by_cases h1 : (0 ≤ r ∧ r < 55296) ∨ (57343 < r ∧ r < 65536)
  · rw [words_one h1]
    have hw : IntKind.u16.wrap r = r := u16_in r (by omega)
    have hy := isRune_yes r w (by omega)
    have h3 : r < 65536 := by omega
    clear h1
    go_enter Try.func20, Try.ntmps20
    go_wp2_with (go_at_call 21; refine hy.mono ?_; rintro e w' ⟨rfl, rfl⟩)
    go_ret
    exact gives_lit1 w 29 .u16 r
  · by_cases h2 : 65536 ≤ r ∧ r ≤ 1114111
    · obtain ⟨a, b⟩ := h2
      rw [words_two a b]
      have hy := isRune_yes r w (by omega)
      have h3 : ¬ r < 65536 := by omega
      have e1 := u16_in ((r - 65536) / 1024) (by omega)
      have e2 := u16_in (55296 + (r - 65536) / 1024) (by omega)
      clear h1
      go_enter Try.func20, Try.ntmps20
      go_wp2_with (go_at_call 21; refine hy.mono ?_; rintro e w' ⟨rfl, rfl⟩)
      go_ret
      exact gives_lit2 w 29 .u16 _ _
    · rw [words_bad (by omega)]
      have hy := isRune_no r w (by omega)
      go_enter Try.func20, Try.ntmps20
      go_wp2_with (go_at_call 21; refine hy.mono ?_; rintro e w' ⟨rfl, rfl⟩)
      go_ret
      exact gives_lit1 w 29 .u16 _

/-- What a call leaves that appends to a row of the call's own: the row holds xs now. -/
def AppsL (w : World) (base : Nat) (E : TypeId) (k : IntKind) (v : Value) (xs : List Int) (e : Ending) (w' : World) : Prop :=
  ∃ A c, e = .returned (.slice A xs.length c) ∧ GrewL w w' base E k v (.slice A xs.length c) xs
theorem apps_of {w w' : World} {base : Nat} {E : TypeId} {k : IntKind} {v v' : Value} {xs : List Int} (h : GrewL w w' base E k v v' xs) : AppsL w base E k v xs (.returned v') w' := by
  obtain ⟨A, c, rfl⟩ := h.own.form
  exact ⟨A, c, rfl, h⟩

theorem wf_u16 {x : Int} (h : 0 ≤ x ∧ x ≤ 65535) : (Lit.int .u16 x).wf = true := by
  simp [Lit.wf, IntKind.min, IntKind.max, IntKind.bits, IntKind.signed]; omega
theorem wf_i32 {x : Int} (h : -2147483648 ≤ x ∧ x ≤ 2147483647) : (Lit.int .i32 x).wf = true := by
  simp [Lit.wf, IntKind.min, IntKind.max, IntKind.bits, IntKind.signed]; omega

theorem appendRune_any (base : Nat) (A : Option Addr) (n c : Nat) (xs : List Int) (r : Int) (w : World) (hown : OwnsL w base 29 .u16 (.slice A n c) xs) (hb : base ≤ w.heap.size)
    (hn : xs.length ≤ 2147483648) (h : -2147483648 ≤ r ∧ r ≤ 2147483647) : Calls Try.prog 35 #[.slice A n c, .int .i32 r] w (AppsL w base 29 .u16 (.slice A n c) (xs ++ words r)) := by
  obtain ⟨i0, hi, hz0, hz1, hz2⟩ := info_parts info16
  obtain ⟨hlo, hhi⟩ := h
  by_cases h1 : (0 ≤ r ∧ r < 55296) ∨ (57343 < r ∧ r < 65536)
  · rw [words_one h1]
    have hw : IntKind.u16.wrap r = r := u16_in r (by omega)
    rcases h1 with ⟨a, b⟩ | ⟨a, b⟩
    all_goals
      have h2 : decide (57344 ≤ r) = decide (57343 < r) := by simp; omega
      have h3 : r < 65536 := by omega
      go_enter Try.func35, Try.ntmps35
      go_wp2_with (at_builtin; refine wpList_append_O _ rfl _ _ 27 rfl base 29 i0 (.int .u16 0) 2 Try.underlying27 hi hz0 hz1 hz2 rfl .u16 _ xs rfl (hown.alloc _) (w.heap.size + 1) _ 1 1 [r] rfl (IsL.new1 w 29 r (wf_u16 (by omega))) (by unfold maxLen; omega) (by omega) (by simp; omega) ?_)
      intro v' w1 hg
      go_wp2
      go_ret
      exact apps_of hg.alloc_left
  · by_cases h2 : 65536 ≤ r ∧ r ≤ 1114111
    · obtain ⟨a, b⟩ := h2
      rw [words_two a b]
      have b1 := and_hi r a b
      have b2 := and_lo r a b
      have h3 : ¬ r < 65536 := by omega
      clear h1
      go_enter Try.func35, Try.ntmps35
      go_wp2_with (first | (at_builtin; refine wpList_append_O _ rfl _ _ 27 rfl base 29 i0 (.int .u16 0) 2 Try.underlying27 hi hz0 hz1 hz2 rfl .u16 _ xs rfl (hown.alloc _) (w.heap.size + 1) _ 2 2 [55296 + (r - 65536) / 1024, 56320 + (r - 65536) % 1024] rfl (IsL.new2 w 29 _ _ (wf_u16 (by omega)) (wf_u16 (by omega))) (by unfold maxLen; omega) (by omega) (by simp; omega) ?_) | go_in)
      intro v' w1 hg
      go_wp2
      go_ret
      exact apps_of hg.alloc_left
    · rw [words_bad (by omega)]
      go_enter Try.func35, Try.ntmps35
      go_wp2_with (at_builtin; refine wpList_append_O _ rfl _ _ 27 rfl base 29 i0 (.int .u16 0) 2 Try.underlying27 hi hz0 hz1 hz2 rfl .u16 _ xs rfl (hown.alloc _) (w.heap.size + 1) _ 1 1 [65533] rfl (IsL.new1 w 29 65533 (wf_u16 (by omega))) (by unfold maxLen; omega) (by omega) (by simp; omega) ?_)
      all_goals
        intro v' w1 hg
        go_wp2
        go_ret
        exact apps_of hg.alloc_left

set_option maxHeartbeats 400000 in
theorem wordsOf_any (A : Option Addr) (n c : Nat) (xs : List Int) (w : World) (h : IsL w w.heap.size .i32 A n xs) (hn : n ≤ 1000000) :
    Calls Try.prog 29 #[.slice A n c] w (GivesL w 29 .u16 (xs.flatMap words)) := by
  obtain ⟨i0, hi, hz0, hz1, hz2⟩ := info_parts info16
  have H := Lib.hid h
  clear h
  go_enter Try.func29, Try.ntmps29
  go_wp2
  go_loopw [3, 9] (fun v i wr => ∃ k : Nat, k ≤ n ∧ i = .int .i64 k ∧ OwnsL wr w.heap.size 29 .u16 v ((xs.take k).flatMap words) ∧ Below w.heap.size w wr) (fun _ i _ => n - (intOf i).toNat)
  case atStart => exact ⟨0, Nat.zero_le _, rfl, OwnsL.lit0 w 29 .u16, (Below.refl _ _).alloc (Nat.le_refl _) _⟩
  case round =>
    obtain ⟨k, hk, rfl, hown, hb⟩ := hrel
    by_cases hlt : k < n
    · obtain ⟨b, off, x, rfl, hbb, hx, hwf, hc⟩ := (H.out.below hb).at_ hlt
      have hr := rune_range hwf
      have hfl := flat_len (xs.take k)
      have hl2 : (xs.take k).length ≤ k := List.length_take_le _ _
      have htk : (xs.take (k + 1)).flatMap words = (xs.take k).flatMap words ++ words x := by
        rw [List.take_add_one, hx]; simp
      have HT := Lib.hid htk
      have HX := Lib.hid hx
      clear htk hx hwf
      have hwl := words_len x
      go_wp2_with (first
        | (go_at_call 20; refine (words_any x _ hr).mono ?_; rintro e w1 ⟨A1, c1, rfl, h1, hb1⟩; have hI := OwnsL.isL (e := 29) (k := .u16) (xs := words x) h1 (words_wf x); have hO := hown.below hb1)
        | (at_builtin; refine wpList_append_O _ rfl _ _ 27 rfl w.heap.size 29 i0 (.int .u16 0) 2 Try.underlying27 hi hz0 hz1 hz2 rfl .u16 _ ((xs.take k).flatMap words) rfl hO w1.heap.size A1 (words x).length c1 (words x) rfl hI (by unfold maxLen; omega) (by omega) (by have := hb.size; have := hb1.size; omega) ?_))
      intro v' w2 hg
      have hb2 : Below w.heap.size w w2 := (hb.trans (hb1.mono hb.size)).trans (hg.below hO (Nat.le_refl _) (by have := hb.size; have := hb1.size; omega))
      have hn2 : OwnsL w2 w.heap.size 29 .u16 v' ((xs.take (k + 1)).flatMap words) := by rw [HT.out]; exact hg.own
      clear hg hO hI h1 hb1 hown hb HT
      go_wp2
      go_roundw
      case rel => exact ⟨k + 1, by omega, by go_num, hn2, hb2⟩
      case measure => simp [intOf]; omega
    · obtain rfl : n = k := by omega
      have hl := H.out.len
      rw [List.take_of_length_le (by omega)] at hown
      go_wp2
      go_ret
      exact gives_own hown hb

end Go.Proofs.Ytkpehilgjckekaa
