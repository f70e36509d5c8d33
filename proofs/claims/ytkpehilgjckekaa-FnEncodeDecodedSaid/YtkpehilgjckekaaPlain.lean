/-
  Proved here: plain lemmas on numbers and words of UTF-16, with no program in sight. No conditions beyond each lemma's own.
-/
import Derived.WalkKit
namespace Go.Proofs.Ytkpehilgjckekaa

def isRune (r : Int) : Bool := decide ((0 ≤ r ∧ r < 55296) ∨ (57343 < r ∧ r ≤ 1114111))
def words (r : Int) : List Int := if isRune r = true then (if r < 65536 then [r] else [55296 + (r - 65536) / 1024, 56320 + (r - 65536) % 1024]) else [65533]
def isHalf (r : Int) : Bool := decide (55296 ≤ r ∧ r ≤ 57343)
def isPair (a b : Int) : Bool := decide (55296 ≤ a ∧ a ≤ 56319 ∧ 56320 ≤ b ∧ b ≤ 57343)
def joined (a b : Int) : Int := 65536 + (a - 55296) * 1024 + b - 56320
def lone (a : Int) : Int := if isHalf a = true then 65533 else a
def ofWords : List Int → List Int
  | [] => []
  | [a] => [lone a]
  | a :: b :: t => if isPair a b = true then joined a b :: ofWords t else lone a :: ofWords (b :: t)
def shown (r : Int) : Int := if isRune r = true then r else 65533

theorem isRune_iff {r : Int} : isRune r = true ↔ (0 ≤ r ∧ r < 55296) ∨ (57343 < r ∧ r ≤ 1114111) := by simp [isRune]
theorem isRune_not {r : Int} : isRune r = false ↔ ¬ ((0 ≤ r ∧ r < 55296) ∨ (57343 < r ∧ r ≤ 1114111)) := by simp [isRune]
theorem words_bad {r : Int} (h : ¬ ((0 ≤ r ∧ r < 55296) ∨ (57343 < r ∧ r ≤ 1114111))) : words r = [65533] := by
  unfold words; rw [if_neg (by rw [isRune_iff]; exact h)]
theorem words_one {r : Int} (h : (0 ≤ r ∧ r < 55296) ∨ (57343 < r ∧ r < 65536)) : words r = [r] := by
  unfold words; rw [if_pos (by rw [isRune_iff]; omega), if_pos (by omega)]
theorem words_two {r : Int} (h1 : 65536 ≤ r) (h2 : r ≤ 1114111) : words r = [55296 + (r - 65536) / 1024, 56320 + (r - 65536) % 1024] := by
  unfold words; rw [if_pos (by rw [isRune_iff]; omega), if_neg (by omega)]
theorem words_len (r : Int) : 1 ≤ (words r).length ∧ (words r).length ≤ 2 := by
  unfold words; split <;> (try split) <;> simp
theorem words_wf (r : Int) : ∀ x ∈ words r, (Lit.int .u16 x).wf = true := by
  intro x hx
  unfold words at hx
  split at hx
  · rename_i h
    rw [isRune_iff] at h
    split at hx
    · simp at hx; subst hx; simp [Lit.wf, IntKind.min, IntKind.max, IntKind.bits, IntKind.signed]; omega
    · simp at hx; simp [Lit.wf, IntKind.min, IntKind.max, IntKind.bits, IntKind.signed]; omega
  · simp at hx; subst hx; decide
theorem flat_wf (xs : List Int) : ∀ x ∈ xs.flatMap words, (Lit.int .u16 x).wf = true := by
  intro x hx
  obtain ⟨r, _, hr⟩ := List.mem_flatMap.1 hx
  exact words_wf r x hr
theorem flat_len (xs : List Int) : xs.length ≤ (xs.flatMap words).length ∧ (xs.flatMap words).length ≤ 2 * xs.length := by
  induction xs with
  | nil => simp
  | cons a t ih => have := words_len a; simp only [List.flatMap_cons, List.length_append, List.length_cons]; omega

/-! The numbers of the words of numbers are the numbers, the wrong one in the place of what may not be encoded. -/
theorem ofWords_one (a : Int) (t : List Int) (h : isHalf a = false) : ofWords (a :: t) = a :: ofWords t := by
  cases t with
  | nil => simp [ofWords, lone, h]
  | cons b t =>
    have hp : isPair a b = false := by
      simp only [isHalf, decide_eq_false_iff_not] at h
      simp only [isPair, decide_eq_false_iff_not]
      omega
    simp [ofWords, hp, lone, h]
theorem ofWords_words (r : Int) (t : List Int) : ofWords (words r ++ t) = shown r :: ofWords t := by
  by_cases h : isRune r = true
  · have hs : shown r = r := by simp [shown, h]
    have h' := isRune_iff.1 h
    by_cases h1 : r < 65536
    · rw [words_one (by omega), hs]
      exact ofWords_one r t (by simp only [isHalf, decide_eq_false_iff_not]; omega)
    · rw [words_two (by omega) (by omega), hs]
      have hp : isPair (55296 + (r - 65536) / 1024) (56320 + (r - 65536) % 1024) = true := by
        simp only [isPair, decide_eq_true_eq]
        omega
      simp only [List.cons_append, List.nil_append, ofWords, hp, if_true]
      congr 1
      unfold joined
      omega
  · have h2 : isRune r = false := by simpa using h
    rw [words_bad (isRune_not.1 h2)]
    have hs : shown r = 65533 := by simp [shown, h2]
    rw [hs]
    exact ofWords_one 65533 t (by decide)
theorem ofWords_flat (xs : List Int) : ofWords (xs.flatMap words) = xs.map shown := by
  induction xs with
  | nil => simp [ofWords]
  | cons a t ih => rw [List.flatMap_cons, ofWords_words, ih, List.map_cons]
theorem ofWords_len : ∀ xs : List Int, (ofWords xs).length ≤ xs.length
  | [] => by simp [ofWords]
  | [a] => by simp [ofWords]
  | a :: b :: t => by
    have h1 := ofWords_len t
    have h2 := ofWords_len (b :: t)
    unfold ofWords
    split <;> simp only [List.length_cons] at * <;> omega
theorem ofWords_wf : ∀ xs : List Int, (∀ x ∈ xs, (Lit.int .u16 x).wf = true) → ∀ x ∈ ofWords xs, (Lit.int .i32 x).wf = true
  | [], _ => by simp [ofWords]
  | [a], h => by
    intro x hx
    have ha := h a (by simp)
    simp [Lit.wf, IntKind.min, IntKind.max, IntKind.bits, IntKind.signed] at ha
    simp only [ofWords, List.mem_singleton] at hx
    subst hx
    unfold lone
    split <;> simp [Lit.wf, IntKind.min, IntKind.max, IntKind.bits, IntKind.signed]
    omega
  | a :: b :: t, h => by
    intro x hx
    have ha := h a (by simp)
    simp [Lit.wf, IntKind.min, IntKind.max, IntKind.bits, IntKind.signed] at ha
    have i1 := ofWords_wf t (fun y hy => h y (by simp [hy]))
    have i2 := ofWords_wf (b :: t) (fun y hy => h y (by simp at hy ⊢; exact .inr hy))
    unfold ofWords at hx
    split at hx
    · rename_i hp
      simp only [isPair, decide_eq_true_eq] at hp
      rcases List.mem_cons.1 hx with rfl | hx
      · simp [Lit.wf, IntKind.min, IntKind.max, IntKind.bits, IntKind.signed, joined]; omega
      · exact i1 x hx
    · rcases List.mem_cons.1 hx with rfl | hx
      · unfold lone
        split <;> simp [Lit.wf, IntKind.min, IntKind.max, IntKind.bits, IntKind.signed]
        omega
      · exact i2 x hx

end Go.Proofs.Ytkpehilgjckekaa
