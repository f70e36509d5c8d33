/-
  Proved here: contracts of goutf8.AppendRune, impl.AppendRune and impl.EncodeRune: the bytes of a number, for every number. Condition: AppendRune onto at most 2^30 bytes.
-/
import Derived.Test.YtincmkjffohekaaDoorEnc
import Derived.Test.YtincmkjffohekaaDoorRow
namespace Go.Proofs.YtincmkjffohekaaDoor
open Go.RowKit

/-- What a call leaves that appends to a row of the call's own: the row holds xs now. -/
def AppsL (w : World) (base : Nat) (E : TypeId) (k : IntKind) (v : Value) (xs : List Int) (e : Ending) (w' : World) : Prop :=
  ∃ A c, e = .returned (.slice A xs.length c) ∧ GrewL w w' base E k v (.slice A xs.length c) xs
theorem apps_of {w w' : World} {base : Nat} {E : TypeId} {k : IntKind} {v v' : Value} {xs : List Int} (h : GrewL w w' base E k v v' xs) : AppsL w base E k v xs (.returned v') w' := by
  obtain ⟨A, c, rfl⟩ := h.own.form
  exact ⟨A, c, rfl, h⟩

theorem low6 (r : Int) : bits .and .u8 (IntKind.u8.wrap r) 63 = r % 64 := by
  rw [IntKind.wrap_u8]
  exact (u8_and63 (x := r % 256) (by omega) (by omega)).trans (by omega)
theorem u8_small (r : Int) (h : 0 ≤ r ∧ r ≤ 255) : IntKind.u8.wrap r = r := by rw [IntKind.wrap_u8]; omega
theorem u32_pos (r : Int) (h : 0 ≤ r ∧ r ≤ 2147483647) : IntKind.u32.wrap r = r := by rw [IntKind.wrap_u32]; omega
theorem u32_neg (r : Int) (h : -2147483648 ≤ r ∧ r < 0) : IntKind.u32.wrap r = r + 4294967296 := by rw [IntKind.wrap_u32]; omega
theorem appendNon_2 (base : Nat) (A : Option Addr) (n c : Nat) (xs : List Int) (r : Int) (w : World) (hown : OwnsL w base 5 .u8 (.slice A n c) xs) (hb : base ≤ w.heap.size)
    (hn : xs.length ≤ 1073741824) (h : 128 ≤ r ∧ r < 2048) :
    Calls Tryd.prog 60 #[.slice A n c, .int .i32 r] w (AppsL w base 5 .u8 (.slice A n c) (xs ++ enc r)) := by
  obtain ⟨i0, hi, hz0, hz1, hz2⟩ := info_parts info8
  rw [enc_2 h]
  have e0 := u32_pos r (by omega)
  have e1 := u8_small (r / 64) (by omega)
  have e2 := u8_or192 (y := r / 64) (by omega) (by omega)
  have e3 := low6 r
  have e4 := u8_or128 (y := r % 64) (by omega) (by omega)
  obtain ⟨p, q⟩ := h
  all_goals
    skip
    have b1 : r ≤ 65535 ∨ 65535 < r := by omega
    all_goals
      clear b1
      go_enter Tryd.func60, Tryd.ntmps60
      go_wp2_with (at_builtin; refine wpList_append_O _ rfl _ _ 22 rfl base 5 i0 (.int .u8 0) 1 Tryd.underlying22 hi hz0 hz1 hz2 rfl .u8 _ xs rfl (hown.alloc _) (w.heap.size + 1) _ 2 2 [192 + r / 64, 128 + r % 64] rfl (IsL.new2 w 5 _ _ (wf_u8 (by omega)) (wf_u8 (by omega))) (by unfold maxLen; omega) (by omega) (by simp; omega) ?_)
      intro v' w1 hg
      go_wp2
      go_ret
      exact apps_of hg.alloc_left
theorem appendNon_3 (base : Nat) (A : Option Addr) (n c : Nat) (xs : List Int) (r : Int) (w : World) (hown : OwnsL w base 5 .u8 (.slice A n c) xs) (hb : base ≤ w.heap.size)
    (hn : xs.length ≤ 1073741824) (h : (2048 ≤ r ∧ r < 55296) ∨ (57343 < r ∧ r < 65536)) :
    Calls Tryd.prog 60 #[.slice A n c, .int .i32 r] w (AppsL w base 5 .u8 (.slice A n c) (xs ++ enc r)) := by
  obtain ⟨i0, hi, hz0, hz1, hz2⟩ := info_parts info8
  rw [enc_3 h]
  have e0 := u32_pos r (by omega)
  have e1 := u8_small (r / 4096) (by omega)
  have e2 := u8_or224 (y := r / 4096) (by omega) (by omega)
  have e3 := low6 r
  have e4 := u8_or128 (y := r % 64) (by omega) (by omega)
  have e5 := low6 (r / 64)
  have e6 := u8_or128 (y := r / 64 % 64) (by omega) (by omega)
  rcases h with h | h
  all_goals
    obtain ⟨p, q⟩ := h
    skip
    have b1 : r ≤ 65535 ∨ 65535 < r := by omega
    all_goals
      clear b1
      go_enter Tryd.func60, Tryd.ntmps60
      go_wp2_with (at_builtin; refine wpList_append_O _ rfl _ _ 22 rfl base 5 i0 (.int .u8 0) 1 Tryd.underlying22 hi hz0 hz1 hz2 rfl .u8 _ xs rfl (hown.alloc _) (w.heap.size + 1) _ 3 3 [224 + r / 4096, 128 + r / 64 % 64, 128 + r % 64] rfl (IsL.new3 w 5 _ _ _ (wf_u8 (by omega)) (wf_u8 (by omega)) (wf_u8 (by omega))) (by unfold maxLen; omega) (by omega) (by simp; omega) ?_)
      intro v' w1 hg
      go_wp2
      go_ret
      exact apps_of hg.alloc_left
theorem appendNon_4 (base : Nat) (A : Option Addr) (n c : Nat) (xs : List Int) (r : Int) (w : World) (hown : OwnsL w base 5 .u8 (.slice A n c) xs) (hb : base ≤ w.heap.size)
    (hn : xs.length ≤ 1073741824) (h : 65536 ≤ r ∧ r ≤ 1114111) :
    Calls Tryd.prog 60 #[.slice A n c, .int .i32 r] w (AppsL w base 5 .u8 (.slice A n c) (xs ++ enc r)) := by
  obtain ⟨i0, hi, hz0, hz1, hz2⟩ := info_parts info8
  rw [enc_4 h]
  have e0 := u32_pos r (by omega)
  have e1 := u8_small (r / 262144) (by omega)
  have e2 := u8_or240 (y := r / 262144) (by omega) (by omega)
  have e3 := low6 r
  have e4 := u8_or128 (y := r % 64) (by omega) (by omega)
  have e5 := low6 (r / 64)
  have e6 := u8_or128 (y := r / 64 % 64) (by omega) (by omega)
  have e7 := low6 (r / 4096)
  have e8 := u8_or128 (y := r / 4096 % 64) (by omega) (by omega)
  obtain ⟨p, q⟩ := h
  all_goals
    skip
    have b1 : r ≤ 65535 ∨ 65535 < r := by omega
    all_goals
      clear b1
      go_enter Tryd.func60, Tryd.ntmps60
      go_wp2_with (at_builtin; refine wpList_append_O _ rfl _ _ 22 rfl base 5 i0 (.int .u8 0) 1 Tryd.underlying22 hi hz0 hz1 hz2 rfl .u8 _ xs rfl (hown.alloc _) (w.heap.size + 1) _ 4 4 [240 + r / 262144, 128 + r / 4096 % 64, 128 + r / 64 % 64, 128 + r % 64] rfl (IsL.new4 w 5 _ _ _ _ (wf_u8 (by omega)) (wf_u8 (by omega)) (wf_u8 (by omega)) (wf_u8 (by omega))) (by unfold maxLen; omega) (by omega) (by simp; omega) ?_)
      intro v' w1 hg
      go_wp2
      go_ret
      exact apps_of hg.alloc_left
theorem appendNon_bad (base : Nat) (A : Option Addr) (n c : Nat) (xs : List Int) (r : Int) (w : World) (hown : OwnsL w base 5 .u8 (.slice A n c) xs) (hb : base ≤ w.heap.size)
    (hn : xs.length ≤ 1073741824) (hr : -2147483648 ≤ r ∧ r ≤ 2147483647) (h : ¬ ((0 ≤ r ∧ r < 55296) ∨ (57343 < r ∧ r ≤ 1114111))) :
    Calls Tryd.prog 60 #[.slice A n c, .int .i32 r] w (AppsL w base 5 .u8 (.slice A n c) (xs ++ enc r)) := by
  obtain ⟨i0, hi, hz0, hz1, hz2⟩ := info_parts info8
  rw [enc_bad h]
  by_cases hneg : r < 0
  · have e0 := u32_neg r (by omega)
    clear h
    all_goals
      go_enter Tryd.func60, Tryd.ntmps60
      go_wp2_with (at_builtin; refine wpList_append_O _ rfl _ _ 22 rfl base 5 i0 (.int .u8 0) 1 Tryd.underlying22 hi hz0 hz1 hz2 rfl .u8 _ xs rfl (hown.alloc _) (w.heap.size + 1) _ 3 3 [239, 191, 189] rfl (IsL.new3 w 5 _ _ _ (wf_u8 (by omega)) (wf_u8 (by omega)) (wf_u8 (by omega))) (by unfold maxLen; omega) (by omega) (by simp; omega) ?_)
      intro v' w1 hg
      go_wp2
      go_ret
      exact apps_of hg.alloc_left
  · have e0 := u32_pos r (by omega)
    by_cases h2 : r ≤ 57343
    · have p1 : 55296 ≤ r := by omega
      clear h
      go_enter Tryd.func60, Tryd.ntmps60
      go_wp2_with (at_builtin; refine wpList_append_O _ rfl _ _ 22 rfl base 5 i0 (.int .u8 0) 1 Tryd.underlying22 hi hz0 hz1 hz2 rfl .u8 _ xs rfl (hown.alloc _) (w.heap.size + 1) _ 3 3 [239, 191, 189] rfl (IsL.new3 w 5 _ _ _ (wf_u8 (by omega)) (wf_u8 (by omega)) (wf_u8 (by omega))) (by unfold maxLen; omega) (by omega) (by simp; omega) ?_)
      intro v' w1 hg
      go_wp2
      go_ret
      exact apps_of hg.alloc_left
    · have p1 : 1114111 < r := by omega
      clear h
      go_enter Tryd.func60, Tryd.ntmps60
      go_wp2_with (at_builtin; refine wpList_append_O _ rfl _ _ 22 rfl base 5 i0 (.int .u8 0) 1 Tryd.underlying22 hi hz0 hz1 hz2 rfl .u8 _ xs rfl (hown.alloc _) (w.heap.size + 1) _ 3 3 [239, 191, 189] rfl (IsL.new3 w 5 _ _ _ (wf_u8 (by omega)) (wf_u8 (by omega)) (wf_u8 (by omega))) (by unfold maxLen; omega) (by omega) (by simp; omega) ?_)
      intro v' w1 hg
      go_wp2
      go_ret
      exact apps_of hg.alloc_left
theorem appendNon_any (base : Nat) (A : Option Addr) (n c : Nat) (xs : List Int) (r : Int) (w : World) (hown : OwnsL w base 5 .u8 (.slice A n c) xs) (hb : base ≤ w.heap.size)
    (hn : xs.length ≤ 1073741824) (hr : -2147483648 ≤ r ∧ r ≤ 2147483647) (h : ¬ (0 ≤ r ∧ r < 128)) :
    Calls Tryd.prog 60 #[.slice A n c, .int .i32 r] w (AppsL w base 5 .u8 (.slice A n c) (xs ++ enc r)) := by
  rcases enc_cases r with h1 | h1 | h1 | h1 | h1
  · exact absurd h1 h
  · exact appendNon_2 base A n c xs r w hown hb hn h1
  · exact appendNon_3 base A n c xs r w hown hb hn h1
  · exact appendNon_4 base A n c xs r w hown hb hn h1
  · exact appendNon_bad base A n c xs r w hown hb hn hr h1

theorem appendRune_any (base : Nat) (A : Option Addr) (n c : Nat) (xs : List Int) (r : Int) (w : World) (hown : OwnsL w base 5 .u8 (.slice A n c) xs) (hb : base ≤ w.heap.size)
    (hn : xs.length ≤ 1073741824) (hr : -2147483648 ≤ r ∧ r ≤ 2147483647) :
    Calls Tryd.prog 52 #[.slice A n c, .int .i32 r] w (AppsL w base 5 .u8 (.slice A n c) (xs ++ enc r)) := by
  obtain ⟨i0, hi, hz0, hz1, hz2⟩ := info_parts info8
  by_cases h : 0 ≤ r ∧ r < 128
  · rw [enc_1 h]
    have e0 := u32_pos r (by omega)
    have e1 := u8_small r (by omega)
    obtain ⟨p, q⟩ := h
    all_goals
      go_enter Tryd.func52, Tryd.ntmps52
      go_wp2_with (at_builtin; refine wpList_append_O _ rfl _ _ 22 rfl base 5 i0 (.int .u8 0) 1 Tryd.underlying22 hi hz0 hz1 hz2 rfl .u8 _ xs rfl (hown.alloc _) (w.heap.size + 1) _ 1 1 [r] rfl (IsL.new1 w 5 _ (wf_u8 (by omega))) (by unfold maxLen; omega) (by omega) (by simp; omega) ?_)
      intro v' w1 hg
      go_wp2
      go_ret
      exact apps_of hg.alloc_left
  · have hN := appendNon_any base A n c xs r w hown hb hn hr h
    obtain ⟨u, hu, hu1⟩ : ∃ u, IntKind.u32.wrap r = u ∧ 127 < u := by
      by_cases hneg : r < 0
      · exact ⟨_, u32_neg r (by omega), by omega⟩
      · exact ⟨_, u32_pos r (by omega), by omega⟩
    generalize xs ++ enc r = ys at *
    clear h
    go_enter Tryd.func52, Tryd.ntmps52
    go_wp2_with (go_at_call 60; refine hN.mono ?_; rintro e w' ⟨A1, c1, rfl, g1⟩; have R : AppsL w base 5 .u8 (.slice A n c) ys (.returned (.slice A1 ys.length c1)) w' := ⟨A1, c1, rfl, g1⟩; clear g1)
    go_ret
    exact R

theorem implAppend_any (A : Option Addr) (n c : Nat) (xs : List Int) (r : Int) (w : World) (h : IsL w w.heap.size .u8 A n xs) (hn : n ≤ 1073741824) (hr : -2147483648 ≤ r ∧ r ≤ 2147483647) :
    Calls Tryd.prog 37 #[.slice A n c, .int .i32 r] w (GivesL w 5 .u8 (xs ++ enc r)) := by
  have hl := h.len
  have HC := clone8_any A n c xs w h (by omega)
  have HA := Lib.hid (fun (w1 : World) (A1 : Option Addr) (c1 : Nat) h1 hb => appendRune_any w.heap.size A1 xs.length c1 xs r w1 h1 hb (by omega) hr)
  generalize xs ++ enc r = ys at *
  clear h hl
  go_enter Tryd.func37, Tryd.ntmps37
  go_wp2_with fail
  refine HC.mono ?_
  rintro e w1 ⟨A1, c1, rfl, h1, hb1⟩
  go_wp2_with fail
  refine (HA.out w1 A1 c1 h1 hb1.size).mono ?_
  rintro e w2 ⟨A2, c2, rfl, h2⟩
  have hb2 : Below w.heap.size w1 w2 := h2.below h1 (Nat.le_refl _) hb1.size
  have R := gives_own h2.own (hb1.trans hb2)
  clear h2 h1
  go_wp2
  go_ret
  exact R

theorem own_take (w : World) (e : TypeId) (k : IntKind) (xs : List Int) (n : Nat) (hx : xs.length = 4) (hn : n ≤ 4) :
    OwnsL (w.alloc (.cells (xs.map (Value.int k)).toArray e)) w.heap.size e k (.slice (some ⟨w.heap.size, 0, none⟩) n 4) (xs.take n) := by
  have h : RowN (w.alloc (.cells (xs.map (Value.int k)).toArray e)) w.heap.size e k w.heap.size 4 xs := by
    have := World.ownsRow_lit (base := w.heap.size) (e := e) (size := 1) w (xs.map (Value.int k)).toArray 4 (Nat.le_refl _) (by decide) (by simp [hx])
    simpa [RowN] using this
  exact h.take hn
/-- What impl.EncodeRune leaves: the bytes, and how many. -/
def GivesN (w : World) (E : TypeId) (xs : List Int) (e : Ending) (w' : World) : Prop :=
  ∃ A c, e = .returned (.tuple #[.slice A xs.length c, .int .i64 xs.length]) ∧ OwnsL w' w.heap.size E .u8 (.slice A xs.length c) xs ∧ Below w.heap.size w w'

set_option maxHeartbeats 1000000 in
theorem implEncode_1 (r : Int) (w : World) (h : 0 ≤ r ∧ r < 128) : Calls Tryd.prog 23 #[.int .i32 r] w (GivesN w 5 (enc r)) := by
  rw [enc_1 h]
  have e0 := u32_pos r (by omega)
  have e1 := u8_small r (by omega)
  obtain ⟨p, q⟩ := h
  all_goals
    have hmk : ∀ w, (Instr.makeSlice 22 (.int .i64 4) (.int .i64 4)).run Tryd.prog w = .ok (.slice (some ⟨w.heap.size, 0, none⟩) 4 4) (w.alloc (.cells #[.int .u8 0, .int .u8 0, .int .u8 0, .int .u8 0] 5)) := fun _ => by kernel_rfl
    go_enter Tryd.func23, Tryd.ntmps23
    go_wp2
    go_ret2
    exact ⟨_, _, rfl, own_take w 5 .u8 [r, 0, 0, 0] 1 rfl (by decide), (Below.refl _ _).alloc (Nat.le_refl _) _⟩
set_option maxHeartbeats 1000000 in
theorem implEncode_2 (r : Int) (w : World) (h : 128 ≤ r ∧ r < 2048) : Calls Tryd.prog 23 #[.int .i32 r] w (GivesN w 5 (enc r)) := by
  rw [enc_2 h]
  have e0 := u32_pos r (by omega)
  have e1 := u8_small (r / 64) (by omega)
  have e2 := u8_or192 (y := r / 64) (by omega) (by omega)
  have e3 := low6 r
  have e4 := u8_or128 (y := r % 64) (by omega) (by omega)
  obtain ⟨p, q⟩ := h
  all_goals
    have hmk : ∀ w, (Instr.makeSlice 22 (.int .i64 4) (.int .i64 4)).run Tryd.prog w = .ok (.slice (some ⟨w.heap.size, 0, none⟩) 4 4) (w.alloc (.cells #[.int .u8 0, .int .u8 0, .int .u8 0, .int .u8 0] 5)) := fun _ => by kernel_rfl
    go_enter Tryd.func23, Tryd.ntmps23
    go_wp2
    go_ret2
    exact ⟨_, _, rfl, own_take w 5 .u8 [192 + r / 64, 128 + r % 64, 0, 0] 2 rfl (by decide), (Below.refl _ _).alloc (Nat.le_refl _) _⟩
set_option maxHeartbeats 1000000 in
theorem implEncode_3 (r : Int) (w : World) (h : (2048 ≤ r ∧ r < 55296) ∨ (57343 < r ∧ r < 65536)) : Calls Tryd.prog 23 #[.int .i32 r] w (GivesN w 5 (enc r)) := by
  rw [enc_3 h]
  have e0 := u32_pos r (by omega)
  have e1 := u8_small (r / 4096) (by omega)
  have e2 := u8_or224 (y := r / 4096) (by omega) (by omega)
  have e3 := low6 r
  have e4 := u8_or128 (y := r % 64) (by omega) (by omega)
  have e5 := low6 (r / 64)
  have e6 := u8_or128 (y := r / 64 % 64) (by omega) (by omega)
  rcases h with h | h
  all_goals
    obtain ⟨p, q⟩ := h
    have hmk : ∀ w, (Instr.makeSlice 22 (.int .i64 4) (.int .i64 4)).run Tryd.prog w = .ok (.slice (some ⟨w.heap.size, 0, none⟩) 4 4) (w.alloc (.cells #[.int .u8 0, .int .u8 0, .int .u8 0, .int .u8 0] 5)) := fun _ => by kernel_rfl
    go_enter Tryd.func23, Tryd.ntmps23
    go_wp2
    go_ret2
    exact ⟨_, _, rfl, own_take w 5 .u8 [224 + r / 4096, 128 + r / 64 % 64, 128 + r % 64, 0] 3 rfl (by decide), (Below.refl _ _).alloc (Nat.le_refl _) _⟩
set_option maxHeartbeats 1000000 in
theorem implEncode_4 (r : Int) (w : World) (h : 65536 ≤ r ∧ r ≤ 1114111) : Calls Tryd.prog 23 #[.int .i32 r] w (GivesN w 5 (enc r)) := by
  rw [enc_4 h]
  have e0 := u32_pos r (by omega)
  have e1 := u8_small (r / 262144) (by omega)
  have e2 := u8_or240 (y := r / 262144) (by omega) (by omega)
  have e3 := low6 r
  have e4 := u8_or128 (y := r % 64) (by omega) (by omega)
  have e5 := low6 (r / 64)
  have e6 := u8_or128 (y := r / 64 % 64) (by omega) (by omega)
  have e7 := low6 (r / 4096)
  have e8 := u8_or128 (y := r / 4096 % 64) (by omega) (by omega)
  obtain ⟨p, q⟩ := h
  all_goals
    have hmk : ∀ w, (Instr.makeSlice 22 (.int .i64 4) (.int .i64 4)).run Tryd.prog w = .ok (.slice (some ⟨w.heap.size, 0, none⟩) 4 4) (w.alloc (.cells #[.int .u8 0, .int .u8 0, .int .u8 0, .int .u8 0] 5)) := fun _ => by kernel_rfl
    go_enter Tryd.func23, Tryd.ntmps23
    go_wp2
    go_ret2
    exact ⟨_, _, rfl, own_take w 5 .u8 [240 + r / 262144, 128 + r / 4096 % 64, 128 + r / 64 % 64, 128 + r % 64] 4 rfl (by decide), (Below.refl _ _).alloc (Nat.le_refl _) _⟩
set_option maxHeartbeats 1000000 in
theorem implEncode_bad (r : Int) (w : World) (hr : -2147483648 ≤ r ∧ r ≤ 2147483647) (h : ¬ ((0 ≤ r ∧ r < 55296) ∨ (57343 < r ∧ r ≤ 1114111))) : Calls Tryd.prog 23 #[.int .i32 r] w (GivesN w 5 (enc r)) := by
  rw [enc_bad h]
  by_cases hneg : r < 0
  · have e0 := u32_neg r (by omega)
    clear h
    have hmk : ∀ w, (Instr.makeSlice 22 (.int .i64 4) (.int .i64 4)).run Tryd.prog w = .ok (.slice (some ⟨w.heap.size, 0, none⟩) 4 4) (w.alloc (.cells #[.int .u8 0, .int .u8 0, .int .u8 0, .int .u8 0] 5)) := fun _ => by kernel_rfl
    go_enter Tryd.func23, Tryd.ntmps23
    go_wp2
    go_ret2
    exact ⟨_, _, rfl, own_take w 5 .u8 [239, 191, 189, 0] 3 rfl (by decide), (Below.refl _ _).alloc (Nat.le_refl _) _⟩
  · have e0 := u32_pos r (by omega)
    by_cases h2 : r ≤ 57343
    · have p1 : 55296 ≤ r := by omega
      clear h
      have hmk : ∀ w, (Instr.makeSlice 22 (.int .i64 4) (.int .i64 4)).run Tryd.prog w = .ok (.slice (some ⟨w.heap.size, 0, none⟩) 4 4) (w.alloc (.cells #[.int .u8 0, .int .u8 0, .int .u8 0, .int .u8 0] 5)) := fun _ => by kernel_rfl
      go_enter Tryd.func23, Tryd.ntmps23
      go_wp2
      go_ret2
      exact ⟨_, _, rfl, own_take w 5 .u8 [239, 191, 189, 0] 3 rfl (by decide), (Below.refl _ _).alloc (Nat.le_refl _) _⟩
    · have p1 : 1114111 < r := by omega
      clear h
      have hmk : ∀ w, (Instr.makeSlice 22 (.int .i64 4) (.int .i64 4)).run Tryd.prog w = .ok (.slice (some ⟨w.heap.size, 0, none⟩) 4 4) (w.alloc (.cells #[.int .u8 0, .int .u8 0, .int .u8 0, .int .u8 0] 5)) := fun _ => by kernel_rfl
      go_enter Tryd.func23, Tryd.ntmps23
      go_wp2
      go_ret2
      exact ⟨_, _, rfl, own_take w 5 .u8 [239, 191, 189, 0] 3 rfl (by decide), (Below.refl _ _).alloc (Nat.le_refl _) _⟩

theorem implEncode_any (r : Int) (w : World) (hr : -2147483648 ≤ r ∧ r ≤ 2147483647) : Calls Tryd.prog 23 #[.int .i32 r] w (GivesN w 5 (enc r)) := by
  rcases enc_cases r with h | h | h | h | h
  · exact implEncode_1 r w h
  · exact implEncode_2 r w h
  · exact implEncode_3 r w h
  · exact implEncode_4 r w h
  · exact implEncode_bad r w hr h

end Go.Proofs.YtincmkjffohekaaDoor
