/-
  Proved here: contracts of slices.Clone at []uint16 and []rune: the copy reads as the list that came in, and lies in new memory. Condition: the length is at most 2^31.
-/
import Derived.Test.YtkpehilgjckekaaRows
import Derived.Test.YtkpehilgjckekaaBase
import Derived.WalkKit
import Derived.Below
import Derived.Handy
import Derived.WalkSpells
import Derived.Lib.Hide
namespace Go.Proofs.Ytkpehilgjckekaa
open Go.RowKit

theorem info16 : (Try.prog.info? 29).map (fun i => (i.zero, i.size, i.bytes)) = some (some (.int .u16 0), 1, 2) := by kernel_rfl
theorem info32 : (Try.prog.info? 21).map (fun i => (i.zero, i.size, i.bytes)) = some (some (.int .i32 0), 1, 4) := by kernel_rfl

theorem clone16_any (A : Option Addr) (n c : Nat) (xs : List Int) (w : World) (h : IsL w w.heap.size .u16 A n xs) (hn : n ≤ 2147483648) :
    Calls Try.prog 34 #[.slice A n c] w (GivesL w 29 .u16 xs) := by
  obtain ⟨i0, hi, hz0, hz1, hz2⟩ := info_parts info16
  have q : ∀ (w : World) (a : Option Addr) (n c n' c' : Nat), (binOp .eql 27 (.slice a n c) (.slice none n' c')).run Try.prog w = .ok (.bool a.isNone) w := fun w a n c n' c' => Lib.run_eql_slice_nil w _ _ a n c n' c' Try.underlying27
  rcases A with _ | ad
  · have h0 : n = 0 := by
      rcases Nat.eq_zero_or_pos n with h0 | h0
      · exact h0
      · obtain ⟨_, _, e, _⟩ := h.2.2 h0
        cases e
    subst h0
    obtain rfl : xs = [] := List.eq_nil_of_length_eq_zero h.1
    go_enter Try.func34, Try.ntmps34
    go_wp2
    go_ret
    exact ⟨none, 0, rfl, World.ownsRow_nil _ _ _ _, Below.refl _ _⟩
  · have H := Lib.hid h
    have hl := h.1
    subst hl
    clear h
    go_enter Try.func34, Try.ntmps34
    go_wp2_with (at_builtin; refine wpList_append_L _ rfl _ _ 27 rfl w.heap.size 29 i0 (.int .u16 0) 2 Try.underlying27 hi hz0 hz1 hz2 rfl .u16 _ 0 [] rfl (World.ownsRow_made w #[] 0 (Nat.le_refl _) (Nat.zero_le _) rfl) w.heap.size (some ad) xs.length c xs rfl ((H.out).below ((Below.refl _ _).alloc (Nat.le_refl _) _)) (by unfold maxLen; omega) (by omega) (by simp) ?_)
    intro v' w1 hown hgrow
    have hb : Below w.heap.size w w1 := ((Below.refl _ w).alloc (Nat.le_refl _) _).grown hgrow (by simp) (by intro k hk; simp [Value.ownBlock] at hk; omega)
    obtain ⟨A', c', rfl⟩ := own_form hown
    go_wp2
    go_ret
    exact ⟨A', c', by simp, by simpa using hown, hb⟩

theorem clone32_any (A : Option Addr) (n c : Nat) (xs : List Int) (w : World) (h : IsL w w.heap.size .i32 A n xs) (hn : n ≤ 2147483648) :
    Calls Try.prog 36 #[.slice A n c] w (GivesL w 21 .i32 xs) := by
  obtain ⟨i0, hi, hz0, hz1, hz2⟩ := info_parts info32
  have q : ∀ (w : World) (a : Option Addr) (n c n' c' : Nat), (binOp .eql 35 (.slice a n c) (.slice none n' c')).run Try.prog w = .ok (.bool a.isNone) w := fun w a n c n' c' => Lib.run_eql_slice_nil w _ _ a n c n' c' Try.underlying35
  rcases A with _ | ad
  · have h0 : n = 0 := by
      rcases Nat.eq_zero_or_pos n with h0 | h0
      · exact h0
      · obtain ⟨_, _, e, _⟩ := h.2.2 h0
        cases e
    subst h0
    obtain rfl : xs = [] := List.eq_nil_of_length_eq_zero h.1
    go_enter Try.func36, Try.ntmps36
    go_wp2
    go_ret
    exact ⟨none, 0, rfl, World.ownsRow_nil _ _ _ _, Below.refl _ _⟩
  · have H := Lib.hid h
    have hl := h.1
    subst hl
    clear h
    go_enter Try.func36, Try.ntmps36
    go_wp2_with (at_builtin; refine wpList_append_L _ rfl _ _ 35 rfl w.heap.size 21 i0 (.int .i32 0) 4 Try.underlying35 hi hz0 hz1 hz2 rfl .i32 _ 0 [] rfl (World.ownsRow_made w #[] 0 (Nat.le_refl _) (Nat.zero_le _) rfl) w.heap.size (some ad) xs.length c xs rfl ((H.out).below ((Below.refl _ _).alloc (Nat.le_refl _) _)) (by unfold maxLen; omega) (by omega) (by simp) ?_)
    intro v' w1 hown hgrow
    have hb : Below w.heap.size w w1 := ((Below.refl _ w).alloc (Nat.le_refl _) _).grown hgrow (by simp) (by intro k hk; simp [Value.ownBlock] at hk; omega)
    obtain ⟨A', c', rfl⟩ := own_form hown
    go_wp2
    go_ret
    exact ⟨A', c', by simp, by simpa using hown, hb⟩

end Go.Proofs.Ytkpehilgjckekaa
