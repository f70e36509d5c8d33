/-
  Proved here: the model's own decoder tells the first number of a list of bytes; contracts of goutf8.RuneCountInString, impl.RuneCountInString, goutf8.RuneCount, impl.RuneCount. Condition: at most 1000000 bytes.
-/
import Derived.Test.YtincmkjffohekaaDoorNum
import Derived.Lib.DecodeN
import Derived.Lib.RuneCount
import Derived.Laws.RangeString
import Derived.Laws.RangeAny
namespace Go.Proofs.YtincmkjffohekaaDoor
open Go.RowKit

/-- The bytes of a string as numbers. -/
def bsL (s : ByteArray) : List Int := s.data.toList.map (fun b => (b.toNat : Int))
theorem bsL_len (s : ByteArray) : (bsL s).length = s.size := by
  unfold bsL
  rw [List.length_map, Array.length_toList]
  rfl
theorem bsL_byte (s : ByteArray) : ∀ x ∈ bsL s, 0 ≤ x ∧ x ≤ 255 := by
  intro x hx
  obtain ⟨b, _, rfl⟩ := List.mem_map.1 hx
  have := b.toNat_lt
  omega
theorem bsL_at (s : ByteArray) (k : Nat) (h : k < s.size) : (bsL s)[k]? = some ((s[k]'h).toNat : Int) := by
  have h' : k < s.data.toList.length := by rw [Array.length_toList]; exact h
  unfold bsL
  rw [List.getElem?_map, List.getElem?_eq_getElem h']
  rfl
theorem bsL_str (xs : List Int) (hf : ∀ x ∈ xs, 0 ≤ x ∧ x ≤ 255) : bsL (strOf xs) = xs := by
  unfold bsL strOf
  simp only [List.map_map]
  conv => rhs; rw [← List.map_id xs]
  refine List.map_congr_left fun x hx => ?_
  exact byteOf_back (hf x hx)

theorem first_1 (a : Int) : firstL [a] = if a < 128 then (a, 1) else (65533, 1) := by
  unfold firstL
  simp only [List.take, tell_e1, raw]
  by_cases h : a < 128 <;> simp [h]
theorem first_2 (a b : Int) : firstL [a, b] = if a < 128 then (a, 1) else if two a b = true then (raw [a, b], 2) else (65533, 1) := by
  unfold firstL
  simp only [List.take, tell_e1, tell_e2]
  by_cases h : a < 128
  · simp [h, raw]
  · by_cases h2 : two a b = true <;> simp [h, h2]
theorem first_3 (a b c : Int) : firstL [a, b, c] = if a < 128 then (a, 1) else if two a b = true then (raw [a, b], 2) else if three a b c = true then (raw [a, b, c], 3) else (65533, 1) := by
  unfold firstL
  simp only [List.take, tell_e1, tell_e2, tell_e3]
  by_cases h : a < 128
  · simp [h, raw]
  · by_cases h2 : two a b = true
    · simp [h, h2]
    · by_cases h3 : three a b c = true <;> simp [h, h2, h3]
theorem first_4 (a b c d : Int) (t : List Int) : firstL (a :: b :: c :: d :: t) = if a < 128 then (a, 1) else if two a b = true then (raw [a, b], 2) else if three a b c = true then (raw [a, b, c], 3) else if four a b c d = true then (raw [a, b, c, d], 4) else (65533, 1) := by
  unfold firstL
  simp only [List.take, tell_e1, tell_e2, tell_e3, tell_e4]
  by_cases h : a < 128
  · simp [h, raw]
  · by_cases h2 : two a b = true
    · simp [h, h2]
    · by_cases h3 : three a b c = true
      · simp [h, h2, h3]
      · by_cases h4 : four a b c d = true
        · simp [h, h2, h3, h4]
        · simp [h, h2, h3, h4]

/-- A pair as whole numbers. -/
def ofN (p : Nat × Nat) : Int × Nat := ((p.1 : Int), p.2)
set_option maxHeartbeats 4000000 in
theorem first_decN1 (a b c d : Nat) (ha : a < 256) : firstL [(a : Int)] = ofN (Lib.decodeN 1 a b c d) := by
  rw [first_1]
  unfold Lib.decodeN ofN
  by_cases h : a < 128
  · have : (a : Int) < 128 := by omega
    simp [h, this]
  · have : ¬ (a : Int) < 128 := by omega
    simp [h, this]
set_option maxHeartbeats 4000000 in
theorem first_decN2 (a b c d : Nat) (ha : a < 256) (hb : b < 256) : firstL [(a : Int), (b : Int)] = ofN (Lib.decodeN 2 a b c d) := by
  rw [first_2]
  unfold Lib.decodeN ofN
  by_cases h : a < 128
  · have : (a : Int) < 128 := by omega
    simp [h, this]
  · have h' : ¬ (a : Int) < 128 := by omega
    rw [if_neg h', if_neg h]
    by_cases h2 : two (a : Int) (b : Int) = true
    · have h2' := h2
      simp only [two, decide_eq_true_eq] at h2'
      rw [if_pos h2, if_pos (by omega), if_pos (by omega)]
      simp [raw]
    · rw [if_neg h2]
      simp only [two, decide_eq_true_eq] at h2
      split
      · rw [if_neg (by omega)]; rfl
      · rw [if_neg (by omega), if_neg (by omega)]; rfl
set_option maxHeartbeats 4000000 in
theorem first_decN3 (a b c d : Nat) (ha : a < 256) (hb : b < 256) (hc : c < 256) : firstL [(a : Int), (b : Int), (c : Int)] = ofN (Lib.decodeN 3 a b c d) := by
  rw [first_3]
  unfold Lib.decodeN ofN
  by_cases h : a < 128
  · have : (a : Int) < 128 := by omega
    simp [h, this]
  · have h' : ¬ (a : Int) < 128 := by omega
    rw [if_neg h', if_neg h]
    by_cases h2 : two (a : Int) (b : Int) = true
    · have h2' := h2
      simp only [two, decide_eq_true_eq] at h2'
      rw [if_pos h2, if_pos (by omega), if_pos (by omega)]
      simp [raw]
    · rw [if_neg h2]
      simp only [two, decide_eq_true_eq] at h2
      by_cases h3 : three (a : Int) (b : Int) (c : Int) = true
      · have h3' := h3
        simp only [three, decide_eq_true_eq] at h3'
        rw [if_pos h3, if_neg (by omega), if_pos (by omega), if_pos (by omega)]
        simp [raw]; omega
      · rw [if_neg h3]
        simp only [three, decide_eq_true_eq] at h3
        split
        · rw [if_neg (by omega)]; rfl
        · split
          · rw [if_neg (by omega)]; rfl
          · rw [if_neg (by omega)]; rfl
set_option maxHeartbeats 8000000 in
theorem first_decN4 (a b c d n : Nat) (t : List Int) (hn : 4 ≤ n) (ha : a < 256) (hb : b < 256) (hc : c < 256) (hd : d < 256) : firstL ((a : Int) :: (b : Int) :: (c : Int) :: (d : Int) :: t) = ofN (Lib.decodeN n a b c d) := by
  rw [first_4]
  unfold Lib.decodeN ofN
  by_cases h : a < 128
  · have : (a : Int) < 128 := by omega
    simp [h, this]
  · have h' : ¬ (a : Int) < 128 := by omega
    rw [if_neg h', if_neg h]
    by_cases h2 : two (a : Int) (b : Int) = true
    · have h2' := h2
      simp only [two, decide_eq_true_eq] at h2'
      rw [if_pos h2, if_pos (by omega), if_pos (by omega)]
      simp [raw]
    · rw [if_neg h2]
      simp only [two, decide_eq_true_eq] at h2
      by_cases h3 : three (a : Int) (b : Int) (c : Int) = true
      · have h3' := h3
        simp only [three, decide_eq_true_eq] at h3'
        rw [if_pos h3, if_neg (by omega), if_pos (by omega), if_pos (by omega)]
        simp [raw]; omega
      · rw [if_neg h3]
        simp only [three, decide_eq_true_eq] at h3
        by_cases h4 : four (a : Int) (b : Int) (c : Int) (d : Int) = true
        · have h4' := h4
          simp only [four, decide_eq_true_eq] at h4'
          rw [if_pos h4, if_neg (by omega), if_neg (by omega), if_pos (by omega), if_pos (by omega)]
          simp [raw]; omega
        · rw [if_neg h4]
          simp only [four, decide_eq_true_eq] at h4
          split
          · rw [if_neg (by omega)]; rfl
          · split
            · rw [if_neg (by omega)]; rfl
            · split
              · rw [if_neg (by omega)]; rfl
              · rfl

theorem get!_lt (s : ByteArray) (k : Nat) (h : k < s.size) : s.get! k = s[k]'h := by
  cases s with
  | mk d => exact getElem!_pos d k h
/-- The model's own decoder, at place pos of a string. -/
theorem decode_first (s : ByteArray) (pos : Nat) (h : pos < s.size) : firstL ((bsL s).drop pos) = ofN (Utf8.decode s pos) := by
  rw [Lib.decode_at]
  have hat : ∀ j, pos + j < s.size → (bsL s)[pos + j]? = some ((s.get! (pos + j)).toNat : Int) := fun j hj => by rw [bsL_at s _ hj, get!_lt s _ hj]
  have hlen := bsL_len s
  have l0 := (s.get! pos).toNat_lt; have l1 := (s.get! (pos + 1)).toNat_lt; have l2 := (s.get! (pos + 2)).toNat_lt; have l3 := (s.get! (pos + 3)).toNat_lt
  have d0 : (bsL s).drop pos = ((s.get! pos).toNat : Int) :: (bsL s).drop (pos + 1) := by
    obtain ⟨h1, h2⟩ := List.getElem?_eq_some_iff.1 (hat 0 (by omega))
    simp only [Nat.add_zero] at h1 h2
    rw [List.drop_eq_getElem_cons h1, h2]
  by_cases h1 : pos + 1 < s.size
  · have d1 : (bsL s).drop (pos + 1) = ((s.get! (pos + 1)).toNat : Int) :: (bsL s).drop (pos + 2) := by
      obtain ⟨g1, g2⟩ := List.getElem?_eq_some_iff.1 (hat 1 h1)
      rw [List.drop_eq_getElem_cons g1, g2]
    by_cases h2 : pos + 2 < s.size
    · have d2 : (bsL s).drop (pos + 2) = ((s.get! (pos + 2)).toNat : Int) :: (bsL s).drop (pos + 3) := by
        obtain ⟨g1, g2⟩ := List.getElem?_eq_some_iff.1 (hat 2 h2)
        rw [List.drop_eq_getElem_cons g1, g2]
      by_cases h3 : pos + 3 < s.size
      · have d3 : (bsL s).drop (pos + 3) = ((s.get! (pos + 3)).toNat : Int) :: (bsL s).drop (pos + 4) := by
          obtain ⟨g1, g2⟩ := List.getElem?_eq_some_iff.1 (hat 3 h3)
          rw [List.drop_eq_getElem_cons g1, g2]
        rw [d0, d1, d2, d3]
        exact first_decN4 _ _ _ _ _ _ (by omega) l0 l1 l2 l3
      · have d3 : (bsL s).drop (pos + 3) = [] := List.drop_eq_nil_of_le (by omega)
        rw [d0, d1, d2, d3, show s.size - pos = 3 from by omega]
        exact first_decN3 _ _ _ _ l0 l1 l2
    · have d2 : (bsL s).drop (pos + 2) = [] := List.drop_eq_nil_of_le (by omega)
      rw [d0, d1, d2, show s.size - pos = 2 from by omega]
      exact first_decN2 _ _ _ _ l0 l1
  · have d1 : (bsL s).drop (pos + 1) = [] := List.drop_eq_nil_of_le (by omega)
    rw [d0, d1, show s.size - pos = 1 from by omega]
    exact first_decN1 _ _ _ _ l0

theorem count_next {s : ByteArray} {pos acc : Nat} (h : pos < s.size) (hc : acc + (numbers ((bsL s).drop pos)).length = (numbers (bsL s)).length) : acc + 1 + (numbers ((bsL s).drop (pos + (Utf8.decode s pos).2))).length = (numbers (bsL s)).length := by
  rw [← hc, numbers_cons (l := (bsL s).drop pos) (by rw [List.length_drop, bsL_len]; omega), decode_first s pos h, List.drop_drop, List.length_cons]
  simp only [ofN]
  omega

set_option maxHeartbeats 1000000 in
theorem countString_any (s : ByteArray) (w : World) (hs : s.size ≤ 2147483648) :
    Calls Tryd.prog 50 #[.string s] w fun e w' => e = .returned (.int .i64 ((numbers (bsL s)).length : Int)) ∧ Below w.heap.size w w' := by
  go_enter Tryd.func50, Tryd.ntmps50
  go_wp2
  go_loopw [2] (fun n w' => ∃ (pos acc : Nat), w' = w.iter s pos ∧ n = .int .i64 acc ∧ Hid (acc + (numbers ((bsL s).drop pos)).length = (numbers (bsL s)).length) ∧ acc ≤ pos) (fun _ w' => s.size - w'.iterPos w.heap.size)
  case atStart => exact ⟨0, 0, rfl, rfl, by simp [Hid], Nat.le_refl _⟩
  case round =>
    obtain ⟨pos, acc, rfl, rfl, hc, ha⟩ := hrel
    by_cases hp : pos < s.size
    · have hnx : ∀ ty, (Instr.next (.pointer (some ⟨w.heap.size, 0, none⟩)) true ty).run Tryd.prog (w.iter s pos) = _ := fun ty => run_next_any w s pos ty hp
      have hwd := Lib.decode_width_pos s pos hp
      have HN := Lib.hid (count_next hp hc.out)
      clear hc
      go_wp2
      go_roundw
      case rel => exact ⟨pos + (Utf8.decode s pos).2, acc + 1, rfl, by go_num, HN.out, by omega⟩
      case measure =>
        simp
        omega
    · have hnx : ∀ ty, (Instr.next (.pointer (some ⟨w.heap.size, 0, none⟩)) true ty).run Tryd.prog (w.iter s pos) = _ := fun ty => run_next_end w s pos ty hp
      have he := hc.out
      rw [List.drop_eq_nil_of_le (by rw [bsL_len]; omega)] at he
      have HE : Hid (acc = (numbers (bsL s)).length) := he
      clear hc he
      go_wp2
      go_ret
      exact ⟨ret_int (by rw [← HE.out]), (Below.refl _ _).alloc (Nat.le_refl _) _⟩

end Go.Proofs.YtincmkjffohekaaDoor
