/-
  Proved here: plain lemmas on the first number of a list of bytes, on all its numbers, on its validity, with no program in sight. No conditions beyond each lemma's own.
-/
import Derived.Test.YtincmkjffohekaaDoorP8
namespace Go.Proofs.YtincmkjffohekaaDoor

/-- The number whose bytes stand first, and how many they are. -/
def firstL (l : List Int) : Int × Nat :=
  if (tell (l.take 1)).isSome = true then (raw (l.take 1), 1)
  else if (tell (l.take 2)).isSome = true then (raw (l.take 2), 2)
  else if (tell (l.take 3)).isSome = true then (raw (l.take 3), 3)
  else if (tell (l.take 4)).isSome = true then (raw (l.take 4), 4)
  else (65533, min 1 l.length)
/-- The number whose bytes stand last. -/
def lastL (l : List Int) : Int × Nat :=
  if (tell (l.drop (l.length - 1))).isSome = true then (raw (l.drop (l.length - 1)), 1)
  else if (tell (l.drop (l.length - 2))).isSome = true then (raw (l.drop (l.length - 2)), 2)
  else if (tell (l.drop (l.length - 3))).isSome = true then (raw (l.drop (l.length - 3)), 3)
  else if (tell (l.drop (l.length - 4))).isSome = true then (raw (l.drop (l.length - 4)), 4)
  else (65533, min 1 l.length)

theorem tell_nil : tell [] = none := rfl
theorem tell_take_short {l : List Int} {j : Nat} (h1 : ∀ i, 1 ≤ i → i ≤ l.length → i ≤ j → tell (l.take i) = none) : tell (l.take j) = none := by
  by_cases hj : j ≤ l.length
  · by_cases h0 : 1 ≤ j
    · exact h1 j h0 hj (Nat.le_refl _)
    · obtain rfl : j = 0 := by omega
      exact tell_nil
  · rw [List.take_of_length_le (by omega)]
    by_cases h0 : 1 ≤ l.length
    · have := h1 l.length h0 (Nat.le_refl _) (by omega)
      rwa [List.take_length] at this
    · obtain rfl : l = [] := List.eq_nil_of_length_eq_zero (by omega)
      exact tell_nil
theorem firstL_at {l : List Int} {k : Nat} (h1 : 1 ≤ k) (h4 : k ≤ 4) (hn : ∀ j, 1 ≤ j → j < k → j ≤ l.length → tell (l.take j) = none) (hs : (tell (l.take k)).isSome = true) : firstL l = (raw (l.take k), k) := by
  have hno : ∀ j, j < k → ¬ (tell (l.take j)).isSome = true := fun j hj => by
    rw [tell_take_short (fun i hi hl hij => hn i hi (by omega) hl)]; simp
  unfold firstL
  match k, h1, h4, hs, hno with
  | 1, _, _, hs, _ => rw [if_pos hs]
  | 2, _, _, hs, hno => rw [if_neg (hno 1 (by omega)), if_pos hs]
  | 3, _, _, hs, hno => rw [if_neg (hno 1 (by omega)), if_neg (hno 2 (by omega)), if_pos hs]
  | 4, _, _, hs, hno => rw [if_neg (hno 1 (by omega)), if_neg (hno 2 (by omega)), if_neg (hno 3 (by omega)), if_pos hs]
theorem firstL_none {l : List Int} (hn : ∀ j, 1 ≤ j → j ≤ 4 → j ≤ l.length → tell (l.take j) = none) : firstL l = (65533, min 1 l.length) := by
  have hno : ∀ j, j ≤ 4 → ¬ (tell (l.take j)).isSome = true := fun j hj => by
    rw [tell_take_short (fun i hi hl hij => hn i hi (by omega) hl)]; simp
  unfold firstL
  rw [if_neg (hno 1 (by omega)), if_neg (hno 2 (by omega)), if_neg (hno 3 (by omega)), if_neg (hno 4 (by omega))]
theorem tell_drop_short {l : List Int} {j : Nat} (h1 : ∀ i, 1 ≤ i → i ≤ l.length → i ≤ j → tell (l.drop (l.length - i)) = none) : tell (l.drop (l.length - j)) = none := by
  by_cases hj : j ≤ l.length
  · by_cases h0 : 1 ≤ j
    · exact h1 j h0 hj (Nat.le_refl _)
    · obtain rfl : j = 0 := by omega
      rw [Nat.sub_zero, List.drop_length]; exact tell_nil
  · by_cases h0 : 1 ≤ l.length
    · have := h1 l.length h0 (Nat.le_refl _) (by omega)
      rw [Nat.sub_self] at this
      rwa [show l.length - j = 0 from by omega]
    · obtain rfl : l = [] := List.eq_nil_of_length_eq_zero (by omega)
      simpa using tell_nil
theorem lastL_at {l : List Int} {k : Nat} (h1 : 1 ≤ k) (h4 : k ≤ 4) (hn : ∀ j, 1 ≤ j → j < k → j ≤ l.length → tell (l.drop (l.length - j)) = none) (hs : (tell (l.drop (l.length - k))).isSome = true) : lastL l = (raw (l.drop (l.length - k)), k) := by
  have hno : ∀ j, j < k → ¬ (tell (l.drop (l.length - j))).isSome = true := fun j hj => by
    rw [tell_drop_short (fun i hi hl hij => hn i hi (by omega) hl)]; simp
  unfold lastL
  match k, h1, h4, hs, hno with
  | 1, _, _, hs, _ => rw [if_pos hs]
  | 2, _, _, hs, hno => rw [if_neg (hno 1 (by omega)), if_pos hs]
  | 3, _, _, hs, hno => rw [if_neg (hno 1 (by omega)), if_neg (hno 2 (by omega)), if_pos hs]
  | 4, _, _, hs, hno => rw [if_neg (hno 1 (by omega)), if_neg (hno 2 (by omega)), if_neg (hno 3 (by omega)), if_pos hs]
theorem lastL_none {l : List Int} (hn : ∀ j, 1 ≤ j → j ≤ 4 → j ≤ l.length → tell (l.drop (l.length - j)) = none) : lastL l = (65533, min 1 l.length) := by
  have hno : ∀ j, j ≤ 4 → ¬ (tell (l.drop (l.length - j))).isSome = true := fun j hj => by
    rw [tell_drop_short (fun i hi hl hij => hn i hi (by omega) hl)]; simp
  unfold lastL
  rw [if_neg (hno 1 (by omega)), if_neg (hno 2 (by omega)), if_neg (hno 3 (by omega)), if_neg (hno 4 (by omega))]

theorem tell_len {l : List Int} (h : (tell l).isSome = true) : 1 ≤ l.length ∧ l.length ≤ 4 := by
  match l, h with
  | [a], _ => simp
  | [a, b], _ => simp
  | [a, b, c], _ => simp
  | [a, b, c, d], _ => simp
/-- How many bytes the first number has. -/
theorem firstL_size {l : List Int} (h : 1 ≤ l.length) : 1 ≤ (firstL l).2 ∧ (firstL l).2 ≤ l.length ∧ (firstL l).2 ≤ 4 := by
  by_cases hall : ∀ j, 1 ≤ j → j ≤ 4 → j ≤ l.length → tell (l.take j) = none
  · rw [firstL_none hall]; simp; omega
  · -- the least j
    have key : ∀ k, k ≤ 4 → (∀ j, 1 ≤ j → j ≤ k → j ≤ l.length → tell (l.take j) = none) ∨ ∃ j, 1 ≤ j ∧ j ≤ 4 ∧ j ≤ l.length ∧ firstL l = (raw (l.take j), j) := by
      intro k
      induction k with
      | zero => intro _; exact .inl (fun j h1 h2 => by omega)
      | succ k ih =>
        intro hk
        rcases ih (by omega) with ih | ih
        · by_cases hs : (tell (l.take (k + 1))).isSome = true
          · by_cases hkl : k + 1 ≤ l.length
            · exact .inr ⟨k + 1, by omega, hk, hkl, firstL_at (by omega) hk (fun j h1 h2 h3 => ih j h1 (by omega) h3) hs⟩
            · left
              intro j h1 h2 h3
              exact ih j h1 (by omega) h3
          · left
            intro j h1 h2 h3
            by_cases hj : j = k + 1
            · subst hj
              cases ht : tell (l.take (k + 1)) with
              | none => rfl
              | some v => rw [ht] at hs; simp at hs
            · exact ih j h1 (by omega) h3
        · exact .inr ih
    rcases key 4 (Nat.le_refl _) with h4 | ⟨j, h1, h2, h3, h4⟩
    · exact absurd h4 hall
    · rw [h4]; exact ⟨h1, h3, h2⟩
theorem firstL_nil : firstL [] = (65533, 0) := by decide

/-- All numbers of a list of bytes; f: at most so many. -/
def numbersF : Nat → List Int → List Int
  | 0, _ => []
  | f + 1, l => if l = [] then [] else (firstL l).1 :: numbersF f (l.drop (firstL l).2)
def numbers (l : List Int) : List Int := numbersF l.length l
theorem numbersF_more : ∀ (f g : Nat) (l : List Int), l.length ≤ f → l.length ≤ g → numbersF f l = numbersF g l
  | 0, g, l, hf, _ => by
    obtain rfl : l = [] := List.eq_nil_of_length_eq_zero (by omega)
    cases g <;> simp [numbersF]
  | f + 1, 0, l, _, hg => by
    obtain rfl : l = [] := List.eq_nil_of_length_eq_zero (by omega)
    simp [numbersF]
  | f + 1, g + 1, l, hf, hg => by
    unfold numbersF
    by_cases h : l = []
    · simp [h]
    · have hl : 1 ≤ l.length := List.length_pos_iff.2 h
      have hs := firstL_size hl
      rw [if_neg h, if_neg h, numbersF_more f g (l.drop (firstL l).2) (by rw [List.length_drop]; omega) (by rw [List.length_drop]; omega)]
theorem numbers_nil : numbers [] = [] := rfl
theorem numbers_cons {l : List Int} (h : 1 ≤ l.length) : numbers l = (firstL l).1 :: numbers (l.drop (firstL l).2) := by
  have hne : l ≠ [] := by rintro rfl; simp at h
  have hs := firstL_size h
  unfold numbers
  obtain ⟨m, hm⟩ : ∃ m, l.length = m + 1 := ⟨l.length - 1, by omega⟩
  rw [hm]
  show (if l = [] then [] else (firstL l).1 :: numbersF m (l.drop (firstL l).2)) = _
  rw [if_neg hne]
  congr 1
  exact numbersF_more _ _ _ (by rw [List.length_drop]; omega) (Nat.le_refl _)
theorem numbers_len : ∀ (f : Nat) (l : List Int), l.length ≤ f → (numbers l).length ≤ l.length
  | 0, l, hf => by
    obtain rfl : l = [] := List.eq_nil_of_length_eq_zero (by omega)
    simp [numbers_nil]
  | f + 1, l, hf => by
    by_cases h : 1 ≤ l.length
    · have hs := firstL_size h
      have ih := numbers_len f (l.drop (firstL l).2) (by rw [List.length_drop]; omega)
      rw [numbers_cons h, List.length_cons]
      rw [List.length_drop] at ih
      omega
    · obtain rfl : l = [] := List.eq_nil_of_length_eq_zero (by omega)
      simp [numbers_nil]

/-- Whether there are encodings alone. -/
def validF : Nat → List Int → Bool
  | 0, _ => true
  | f + 1, l => if l = [] then true else if (firstL l).1 = 65533 ∧ (firstL l).2 = 1 then false else validF f (l.drop (firstL l).2)
def valid (l : List Int) : Bool := validF l.length l
theorem validF_more : ∀ (f g : Nat) (l : List Int), l.length ≤ f → l.length ≤ g → validF f l = validF g l
  | 0, g, l, hf, _ => by
    obtain rfl : l = [] := List.eq_nil_of_length_eq_zero (by omega)
    cases g <;> simp [validF]
  | f + 1, 0, l, _, hg => by
    obtain rfl : l = [] := List.eq_nil_of_length_eq_zero (by omega)
    simp [validF]
  | f + 1, g + 1, l, hf, hg => by
    unfold validF
    by_cases h : l = []
    · simp [h]
    · have hl : 1 ≤ l.length := List.length_pos_iff.2 h
      have hs := firstL_size hl
      rw [if_neg h, if_neg h, validF_more f g (l.drop (firstL l).2) (by rw [List.length_drop]; omega) (by rw [List.length_drop]; omega)]
theorem valid_nil : valid [] = true := rfl
theorem valid_cons {l : List Int} (h : 1 ≤ l.length) : valid l = if (firstL l).1 = 65533 ∧ (firstL l).2 = 1 then false else valid (l.drop (firstL l).2) := by
  have hne : l ≠ [] := by rintro rfl; simp at h
  have hs := firstL_size h
  unfold valid
  obtain ⟨m, hm⟩ : ∃ m, l.length = m + 1 := ⟨l.length - 1, by omega⟩
  rw [hm]
  show (if l = [] then true else if (firstL l).1 = 65533 ∧ (firstL l).2 = 1 then false else validF m (l.drop (firstL l).2)) = _
  rw [if_neg hne]
  by_cases hb : (firstL l).1 = 65533 ∧ (firstL l).2 = 1
  · rw [if_pos hb, if_pos hb]
  · rw [if_neg hb, if_neg hb]
    exact validF_more _ _ _ (by rw [List.length_drop]; omega) (Nat.le_refl _)

theorem firstL_range (l : List Int) (hf : ∀ x ∈ l, 0 ≤ x ∧ x ≤ 255) : 0 ≤ (firstL l).1 ∧ (firstL l).1 ≤ 2097151 := by
  have hr := fun j => raw_range (l.take j) (fun x hx => hf x (List.mem_of_mem_take hx))
  unfold firstL
  split
  · exact hr 1
  · split
    · exact hr 2
    · split
      · exact hr 3
      · split
        · exact hr 4
        · simp
theorem lastL_range (l : List Int) (hf : ∀ x ∈ l, 0 ≤ x ∧ x ≤ 255) : 0 ≤ (lastL l).1 ∧ (lastL l).1 ≤ 2097151 := by
  have hr := fun j => raw_range (l.drop j) (fun x hx => hf x (List.mem_of_mem_drop hx))
  unfold lastL
  split
  · exact hr _
  · split
    · exact hr _
    · split
      · exact hr _
      · split
        · exact hr _
        · simp
theorem numbers_fit : ∀ (f : Nat) (l : List Int), l.length ≤ f → (∀ x ∈ l, 0 ≤ x ∧ x ≤ 255) → ∀ x ∈ numbers l, (Lit.int .i32 x).wf = true
  | 0, l, hf, _ => by
    obtain rfl : l = [] := List.eq_nil_of_length_eq_zero (by omega)
    simp [numbers_nil]
  | f + 1, l, hf, hb => by
    by_cases h : 1 ≤ l.length
    · have hs := firstL_size h
      have ih := numbers_fit f (l.drop (firstL l).2) (by rw [List.length_drop]; omega) (fun x hx => hb x (List.mem_of_mem_drop hx))
      rw [numbers_cons h]
      intro x hx
      rcases List.mem_cons.1 hx with rfl | hx
      · have := firstL_range l hb
        exact wf_i32 (by omega)
      · exact ih x hx
    · obtain rfl : l = [] := List.eq_nil_of_length_eq_zero (by omega)
      simp [numbers_nil]

end Go.Proofs.YtincmkjffohekaaDoor
