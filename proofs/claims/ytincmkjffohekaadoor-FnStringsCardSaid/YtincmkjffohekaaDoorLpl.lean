/-
  Proved here: plain lemmas on the number whose bytes stand last: how a search back from the end for the byte that may begin one finds it. No conditions beyond each lemma's own.
-/
import Derived.Test.YtincmkjffohekaaDoorDpl
namespace Go.Proofs.YtincmkjffohekaaDoor

theorem tell_tail {a : Int} {t : List Int} (h : (tell (a :: t)).isSome = true) : ∀ x ∈ t, 128 ≤ x ∧ x ≤ 191 := by
  match t, h with
  | [], _ => intro x hx; cases hx
  | [b], h =>
    rw [tell_e2] at h
    by_cases h2 : two a b = true
    · simp only [two, decide_eq_true_eq] at h2
      intro x hx; simp at hx; subst hx; omega
    · rw [if_neg h2] at h; cases h
  | [b, c], h =>
    rw [tell_e3] at h
    by_cases h2 : three a b c = true
    · simp only [three, decide_eq_true_eq] at h2
      intro x hx; simp at hx; rcases hx with rfl | rfl <;> omega
    · rw [if_neg h2] at h; cases h
  | [b, c, d], h =>
    rw [tell_e4] at h
    by_cases h2 : four a b c d = true
    · simp only [four, decide_eq_true_eq] at h2
      intro x hx; simp at hx; rcases hx with rfl | rfl | rfl <;> omega
    · rw [if_neg h2] at h; cases h
theorem tell_head {a b : Int} {t : List Int} (h : (tell (a :: b :: t)).isSome = true) : 194 ≤ a := by
  match t, h with
  | [], h =>
    rw [tell_e2] at h
    by_cases h2 : two a b = true
    · simp only [two, decide_eq_true_eq] at h2; omega
    · rw [if_neg h2] at h; cases h
  | [c], h =>
    rw [tell_e3] at h
    by_cases h2 : three a b c = true
    · simp only [three, decide_eq_true_eq] at h2; omega
    · rw [if_neg h2] at h; cases h
  | [c, d], h =>
    rw [tell_e4] at h
    by_cases h2 : four a b c d = true
    · simp only [four, decide_eq_true_eq] at h2; omega
    · rw [if_neg h2] at h; cases h
theorem tell_one {a : Int} (h : 128 ≤ a) : tell [a] = none := by rw [tell_e1, if_neg (by omega)]
theorem none_of {o : Option Int} (h : ¬ o.isSome = true) : o = none := by
  cases o with
  | none => rfl
  | some v => simp at h
/-- No proper first part of an encoding is one. -/
theorem tell_prefix {l : List Int} {j : Nat} (h : (tell l).isSome = true) (h1 : 1 ≤ j) (hj : j < l.length) : tell (l.take j) = none := by
  match l, h, hj with
  | [a], _, hj => simp at hj; omega
  | [a, b], h, hj =>
    obtain rfl : j = 1 := by simp at hj; omega
    exact tell_one (by have := tell_head h; omega)
  | [a, b, c], h, hj =>
    rw [tell_e3] at h
    by_cases h2 : three a b c = true
    · simp only [three, decide_eq_true_eq] at h2
      have hj' : j = 1 ∨ j = 2 := by simp at hj; omega
      rcases hj' with rfl | rfl
      · exact tell_one (by omega)
      · show tell [a, b] = none
        rw [tell_e2, if_neg (by simp only [two, decide_eq_true_eq]; omega)]
    · rw [if_neg h2] at h; cases h
  | [a, b, c, d], h, hj =>
    rw [tell_e4] at h
    by_cases h2 : four a b c d = true
    · simp only [four, decide_eq_true_eq] at h2
      have hj' : j = 1 ∨ j = 2 ∨ j = 3 := by simp at hj; omega
      rcases hj' with rfl | rfl | rfl
      · exact tell_one (by omega)
      · show tell [a, b] = none
        rw [tell_e2, if_neg (by simp only [two, decide_eq_true_eq]; omega)]
      · show tell [a, b, c] = none
        rw [tell_e3, if_neg (by simp only [three, decide_eq_true_eq]; omega)]
    · rw [if_neg h2] at h; cases h
  | a :: b :: c :: d :: e :: t, h, _ => exact absurd (tell_len h).2 (by simp)

/-- What the first number is: an encoding that is a first part, or the wrong one. -/
theorem firstL_cases (l : List Int) : (∃ k, 1 ≤ k ∧ k ≤ 4 ∧ k ≤ l.length ∧ firstL l = (raw (l.take k), k) ∧ (tell (l.take k)).isSome = true) ∨ ((∀ j, 1 ≤ j → j ≤ 4 → tell (l.take j) = none) ∧ firstL l = (65533, min 1 l.length)) := by
  by_cases hall : ∀ j, 1 ≤ j → j ≤ 4 → tell (l.take j) = none
  · exact .inr ⟨hall, firstL_none fun j h1 h2 _ => hall j h1 h2⟩
  · left
    have key : ∀ m, m ≤ 4 → (∀ j, 1 ≤ j → j ≤ m → tell (l.take j) = none) ∨ ∃ k, 1 ≤ k ∧ k ≤ 4 ∧ k ≤ l.length ∧ firstL l = (raw (l.take k), k) ∧ (tell (l.take k)).isSome = true := by
      intro m
      induction m with
      | zero => intro _; exact .inl (fun j h1 h2 => by omega)
      | succ m ih =>
        intro hm
        rcases ih (by omega) with ih | ih
        · by_cases hs : (tell (l.take (m + 1))).isSome = true
          · right
            have hl : m + 1 ≤ l.length := by
              rcases Nat.lt_or_ge l.length (m + 1) with h | h
              · exfalso
                have e : l.take (m + 1) = l.take m := by rw [List.take_of_length_le (by omega), List.take_of_length_le (by omega)]
                rw [e] at hs
                by_cases h0 : 1 ≤ m
                · rw [ih m h0 (Nat.le_refl _)] at hs; cases hs
                · obtain rfl : m = 0 := by omega
                  simp [tell_nil] at hs
              · exact h
            exact ⟨m + 1, by omega, hm, hl, firstL_at (by omega) hm (fun j h1 h2 _ => ih j h1 (by omega)) hs, hs⟩
          · left
            intro j h1 h2
            by_cases hj : j = m + 1
            · subst hj; exact none_of hs
            · exact ih j h1 (by omega)
        · exact .inr ih
    rcases key 4 (Nat.le_refl _) with h | h
    · exact absurd h hall
    · exact h

section
variable {l : List Int} {s : Nat}
theorem drop_cons {j : Nat} (h : j < l.length) : l.drop j = l[j]'h :: l.drop (j + 1) := List.drop_eq_getElem_cons h
/-- Back from the end: between place s and the last byte no byte may begin an encoding; the byte at s may, or there are no more than four bytes from s on .. -/
def BackTo (l : List Int) (s : Nat) : Prop :=
  1 ≤ l.length ∧ s < l.length ∧ (∀ x, l[l.length - 1]? = some x → 128 ≤ x) ∧ (∀ j x, s < j → j < l.length - 1 → l[j]? = some x → 128 ≤ x ∧ x ≤ 191) ∧
  ((s + 2 ≤ l.length ∧ l.length ≤ s + 4 ∧ ∀ x, l[s]? = some x → x < 128 ∨ 191 < x) ∨ l.length = s + 5 ∨ (s = 0 ∧ l.length ≤ 4 ∧ ∀ x, l[0]? = some x → 128 ≤ x ∧ (x ≤ 191 ∨ l.length = 1)))

theorem back_none (h : BackTo l s) {j : Nat} (h1 : 1 ≤ j) (h4 : j ≤ 4) (hl : j ≤ l.length) (hj : j ≠ l.length - s) : tell (l.drop (l.length - j)) = none := by
  obtain ⟨h0, hs, hlast, hmid, hcase⟩ := h
  refine none_of fun ht => ?_
  have hlt : l.length - j < l.length := by omega
  rw [drop_cons hlt] at ht
  by_cases j1 : j = 1
  · subst j1
    have hx := hlast _ (List.getElem?_eq_getElem hlt)
    rw [show l.length - 1 + 1 = l.length from by omega, List.drop_length, tell_one hx] at ht
    cases ht
  · have hlt2 : l.length - j + 1 < l.length := by omega
    rcases Nat.lt_or_ge (l.length - j) s with hc | hc
    · -- the byte at s lies within
      have hin : l[s]'hs ∈ l.drop (l.length - j + 1) := by
        rw [List.mem_iff_getElem?]
        exact ⟨s - (l.length - j + 1), by rw [List.getElem?_drop, show l.length - j + 1 + (s - (l.length - j + 1)) = s from by omega]; exact List.getElem?_eq_getElem hs⟩
      have hb := tell_tail ht _ hin
      rcases hcase with ⟨_, _, hx⟩ | h5 | ⟨h6, _⟩
      · have := hx _ (List.getElem?_eq_getElem hs); omega
      · omega
      · omega
    · have hm := hmid (l.length - j) _ (by omega) (by omega) (List.getElem?_eq_getElem hlt)
      rw [drop_cons hlt2] at ht
      have := tell_head ht
      omega

/-- The number that stands last is found from there. -/
theorem back_last (h : BackTo l s) : lastL l = if s + (firstL (l.drop s)).2 = l.length then firstL (l.drop s) else (65533, 1) := by
  have hb := h
  obtain ⟨h0, hs, hlast, hmid, hcase⟩ := h
  by_cases h4 : l.length - s ≤ 4 ∧ (tell (l.drop s)).isSome = true
  · obtain ⟨h4, ht⟩ := h4
    have e : l.drop (l.length - (l.length - s)) = l.drop s := by rw [show l.length - (l.length - s) = s from by omega]
    have e1 := lastL_at (l := l) (k := l.length - s) (by omega) h4 (fun j h1 h2 h3 => back_none hb h1 (by omega) h3 (by omega)) (by rw [e]; exact ht)
    have hlen : (l.drop s).length = l.length - s := List.length_drop
    have ew : (l.drop s).take (l.length - s) = l.drop s := List.take_of_length_le (by omega)
    have e2 := firstL_at (l := l.drop s) (k := l.length - s) (by omega) h4 (fun j h1 h2 _ => tell_prefix ht h1 (by omega)) (by rw [ew]; exact ht)
    rw [e1, e2, ew, e, if_pos (by show s + (l.length - s) = l.length; omega)]
  · have hnone : lastL l = (65533, 1) := by
      rw [lastL_none (l := l) fun j h1 h2 h3 => ?_]
      · rw [Nat.min_eq_left h0]
      · by_cases hj : j = l.length - s
        · subst hj
          rw [show l.length - (l.length - s) = s from by omega]
          exact none_of fun ht => h4 ⟨h2, ht⟩
        · exact back_none hb h1 h2 h3 hj
    rw [hnone]
    have hlen : (l.drop s).length = l.length - s := List.length_drop
    rcases firstL_cases (l.drop s) with ⟨k, k1, k4, kl, ke, kt⟩ | ⟨_, ke⟩
    · rw [ke]
      by_cases hk : k = l.length - s
      · exfalso
        refine h4 ⟨by omega, ?_⟩
        rw [List.take_of_length_le (by omega)] at kt
        exact kt
      · rw [if_neg (by show ¬ s + k = l.length; omega)]
    · rw [ke, hlen, Nat.min_eq_left (by omega)]
      split <;> rfl
theorem lastL_ascii {x : Int} (hx : l[l.length - 1]? = some x) (h : x < 128) : lastL l = (x, 1) := by
  obtain ⟨hlt, rfl⟩ := List.getElem?_eq_some_iff.1 hx
  have e : l.drop (l.length - 1) = [l[l.length - 1]'hlt] := by rw [drop_cons hlt, show l.length - 1 + 1 = l.length from by omega, List.drop_length]
  have := lastL_at (l := l) (k := 1) (by omega) (by omega) (fun j h1 h2 => by omega) (by rw [e, tell_e1, if_pos h]; rfl)
  rw [this, e]
  rfl
end
theorem lastL_nil : lastL [] = (65533, 0) := by decide

end Go.Proofs.YtincmkjffohekaaDoor
