/-
  Proved here: plain lemmas on encodings that are written, read, cut short, joined and walked from either end. No conditions beyond each lemma's own.
-/
import Derived.Test.YtincmkjffohekaaDoorVpl
namespace Go.Proofs.YtincmkjffohekaaDoor

def Bts (l : List Int) : Prop := ∀ x ∈ l, 0 ≤ x ∧ x ≤ 255
theorem enc_bts (r : Int) : Bts (enc r) := enc_byte r
/-- What is written of a number is what is written of this one. -/
def rune (r : Int) : Int := if isRune r = true then r else 65533
theorem rune_is (r : Int) : isRune (rune r) = true := by
  unfold rune
  split
  · assumption
  · decide
theorem enc_rune (r : Int) : enc (rune r) = enc r := by
  unfold rune
  split
  · rfl
  · rename_i h
    rw [enc_bad (fun h' => h (isRune_iff.2 h'))]
    decide
theorem raw_tell {l : List Int} {r : Int} (hf : Bts l) (h : tell l = some r) : raw l = r := by
  have hl := tell_some hf h
  rw [tell_raw l hf hl.1 hl.2.1] at h
  split at h
  · exact Option.some.inj h
  · cases h
theorem tell_enc_some {r : Int} (h : isRune r = true) : (tell (enc r)).isSome = true := by rw [tell_enc h]; rfl
theorem first_enc {r : Int} (h : isRune r = true) (t : List Int) : firstL (enc r ++ t) = (r, (enc r).length) := by
  have hl := enc_len r
  have e : (enc r ++ t).take (enc r).length = enc r := List.take_left' rfl
  rw [firstL_at (k := (enc r).length) hl.1 hl.2 (fun j h1 h2 _ => ?_) (by rw [e]; exact tell_enc_some h), e, raw_tell (enc_bts r) (tell_enc h)]
  rw [List.take_append_of_le_length (by omega)]
  exact tell_prefix (tell_enc_some h) h1 h2
theorem first_enc0 {r : Int} (h : isRune r = true) : firstL (enc r) = (r, (enc r).length) := by
  have := first_enc h []
  rwa [List.append_nil] at this
theorem cut_tell {l : List Int} (h : (tell l).isSome = true) : cutL l = false := by
  match l, h with
  | [a], h =>
    rw [tell_e1] at h
    by_cases c : a < 128
    · simp only [cutL, decide_eq_false_iff_not]; omega
    · rw [if_neg c] at h; cases h
  | [a, b], h =>
    rw [tell_e2] at h
    by_cases c : two a b = true
    · simp only [two, decide_eq_true_eq] at c
      simp only [cutL, three, four, Bool.or_eq_false_iff, decide_eq_false_iff_not]
      omega
    · rw [if_neg c] at h; cases h
  | [a, b, c], h =>
    rw [tell_e3] at h
    by_cases d : three a b c = true
    · simp only [three, decide_eq_true_eq] at d
      simp only [cutL, four, decide_eq_false_iff_not]
      omega
    · rw [if_neg d] at h; cases h
  | _ :: _ :: _ :: _ :: _, _ => rfl
theorem full_enc {r : Int} (h : isRune r = true) : fullL (enc r) = true := by
  have hl := enc_len r
  unfold fullL
  rw [cut_tell (tell_enc_some h), decide_eq_true (by omega)]
  rfl
theorem not_wrong {r : Int} : ¬ (r = 65533 ∧ (enc r).length = 1) := by
  rintro ⟨rfl, h⟩
  revert h
  decide
theorem valid_enc {r : Int} (h : isRune r = true) (t : List Int) : valid (enc r ++ t) = valid t := by
  have hl := enc_len r
  rw [valid_cons (by rw [List.length_append]; omega), first_enc h t, if_neg not_wrong]
  show valid ((enc r ++ t).drop (enc r).length) = valid t
  rw [List.drop_left' rfl]
theorem numbers_enc {r : Int} (h : isRune r = true) (t : List Int) : numbers (enc r ++ t) = r :: numbers t := by
  have hl := enc_len r
  rw [numbers_cons (by rw [List.length_append]; omega), first_enc h t]
  show r :: numbers ((enc r ++ t).drop (enc r).length) = _
  rw [List.drop_left' rfl]
theorem valid_enc0 {r : Int} (h : isRune r = true) : valid (enc r) = true := by
  have := valid_enc h []
  rw [List.append_nil] at this
  rw [this]; rfl
theorem tell_suffix {l : List Int} {j : Nat} (h : (tell l).isSome = true) (h1 : 1 ≤ j) (hj : j < l.length) : tell (l.drop (l.length - j)) = none := by
  match l, h with
  | a :: t, h =>
    have ht := tell_tail h
    simp only [List.length_cons] at hj ⊢
    have e : (a :: t).drop (t.length + 1 - j) = t.drop (t.length - j) := by
      rw [show t.length + 1 - j = t.length - j + 1 by omega, List.drop_succ_cons]
    rw [e]
    have hlt : t.length - j < t.length := by omega
    have hm := ht (t[t.length - j]'hlt) (List.getElem_mem hlt)
    rw [List.drop_eq_getElem_cons hlt]
    generalize t[t.length - j]'hlt = x at hm ⊢
    match t.drop (t.length - j + 1) with
    | [] => exact tell_one hm.1
    | y :: s => exact none_of fun hs => by have := tell_head hs; omega
theorem last_enc {r : Int} (h : isRune r = true) (s : List Int) : lastL (s ++ enc r) = (r, (enc r).length) := by
  have hl := enc_len r
  have e : (s ++ enc r).drop ((s ++ enc r).length - (enc r).length) = enc r := by
    rw [List.length_append, Nat.add_sub_cancel]
    exact List.drop_left' rfl
  rw [lastL_at (k := (enc r).length) hl.1 hl.2 (fun j h1 h2 _ => ?_) (by rw [e]; exact tell_enc_some h), e, raw_tell (enc_bts r) (tell_enc h)]
  have e2 : (s ++ enc r).drop ((s ++ enc r).length - j) = (enc r).drop ((enc r).length - j) := by
    rw [List.length_append, show s.length + (enc r).length - j = s.length + ((enc r).length - j) by omega, List.drop_append]
    rw [List.drop_eq_nil_of_le (by omega), List.nil_append]
    congr 1
    omega
  rw [e2]
  exact tell_suffix (tell_enc_some h) h1 h2
theorem last_enc0 {r : Int} (h : isRune r = true) : lastL (enc r) = (r, (enc r).length) := by
  have := last_enc h []
  rwa [List.nil_append] at this
/-- The first number, where it is not the wrong one: the text begins with its bytes. -/
theorem first_right {l : List Int} (hf : Bts l) (h1 : 1 ≤ l.length) (h : ¬ ((firstL l).1 = 65533 ∧ (firstL l).2 = 1)) : isRune (firstL l).1 = true ∧ enc (firstL l).1 = l.take (firstL l).2 ∧ (firstL l).2 ≤ l.length := by
  rcases firstL_cases l with ⟨k, k1, k4, kl, ke, kt⟩ | ⟨_, ke⟩
  · have hb : Bts (l.take k) := fun x hx => hf x (List.mem_of_mem_take hx)
    obtain ⟨r, hr⟩ := Option.isSome_iff_exists.1 kt
    have hs := tell_some hb hr
    have hraw := raw_tell hb hr
    rw [ke]
    show isRune (raw (l.take k)) = true ∧ enc (raw (l.take k)) = l.take k ∧ k ≤ l.length
    rw [hraw]
    exact ⟨hs.2.2.1, hs.2.2.2, kl⟩
  · exfalso
    rw [ke] at h
    exact h ⟨rfl, by show min 1 l.length = 1; omega⟩
theorem split_first {l : List Int} (hf : Bts l) (h1 : 1 ≤ l.length) (hv : valid l = true) : ∃ r t, isRune r = true ∧ l = enc r ++ t ∧ valid t = true ∧ t.length < l.length := by
  rw [valid_cons h1] at hv
  by_cases h : (firstL l).1 = 65533 ∧ (firstL l).2 = 1
  · rw [if_pos h] at hv; cases hv
  · rw [if_neg h] at hv
    obtain ⟨h2, h3, h4⟩ := first_right hf h1 h
    have := (firstL_size h1).1
    exact ⟨_, l.drop (firstL l).2, h2, by rw [h3, List.take_append_drop], hv, by rw [List.length_drop]; omega⟩
/-- Two texts, the first one valid. -/
theorem joined : ∀ (f : Nat) (l t : List Int), l.length ≤ f → Bts l → valid l = true → valid (l ++ t) = valid t ∧ numbers (l ++ t) = numbers l ++ numbers t
  | f, l, t, hl, hf, hv => by
    rcases Nat.eq_zero_or_pos l.length with h0 | h0
    · obtain rfl := List.eq_nil_of_length_eq_zero h0
      simp [numbers_nil]
    · obtain ⟨r, u, hr, rfl, hu, hlt⟩ := split_first hf h0 hv
      match f, hl with
      | 0, hl => omega
      | f + 1, hl =>
        have ih := joined f u t (by omega) (fun x hx => hf x (List.mem_append_right _ hx)) hu
        rw [List.append_assoc, valid_enc hr, numbers_enc hr, numbers_enc hr, ih.1, ih.2]
        exact ⟨rfl, rfl⟩
theorem numbers_pos {l : List Int} (h : 1 ≤ l.length) : 1 ≤ (numbers l).length := by rw [numbers_cons h]; simp
/-- A valid text from behind. -/
theorem split_last : ∀ (f : Nat) (l : List Int), l.length ≤ f → Bts l → valid l = true → 1 ≤ l.length → ∃ s r, isRune r = true ∧ l = s ++ enc r ∧ valid s = true ∧ numbers l = numbers s ++ [r]
  | f, l, hl, hf, hv, h0 => by
    obtain ⟨r, u, hr, rfl, hu, hlt⟩ := split_first hf h0 hv
    match f, hl with
    | 0, hl => omega
    | f + 1, hl =>
      rcases Nat.eq_zero_or_pos u.length with hz | hz
      · obtain rfl := List.eq_nil_of_length_eq_zero hz
        exact ⟨[], r, hr, by simp, rfl, by rw [numbers_enc hr]; rfl⟩
      · obtain ⟨s, q, hq, e, hs, hn⟩ := split_last f u (by omega) (fun x hx => hf x (List.mem_append_right _ hx)) hu hz
        refine ⟨enc r ++ s, q, hq, by rw [e, List.append_assoc], by rw [valid_enc hr, hs], ?_⟩
        rw [numbers_enc hr, numbers_enc hr, hn]
        rfl
/-- One round of a walk from behind. -/
theorem back_round {l : List Int} {m : Nat} (hf : Bts l) (hm : m ≤ l.length) (h0 : 1 ≤ m) (hv : valid (l.take m) = true) :
    ∃ r, ∃ k, lastL (l.take m) = (r, k) ∧ 1 ≤ k ∧ k ≤ 4 ∧ k ≤ m ∧ valid (l.take (m - k)) = true ∧ numbers (l.take m) = numbers (l.take (m - k)) ++ [r] := by
  have hb : Bts (l.take m) := fun x hx => hf x (List.mem_of_mem_take hx)
  have hlen : (l.take m).length = m := by rw [List.length_take]; omega
  obtain ⟨s, r, hr, e, hs, hn⟩ := split_last _ _ (Nat.le_refl _) hb hv (by omega)
  have hl := enc_len r
  have hlen2 : s.length + (enc r).length = m := by rw [← hlen, e, List.length_append]
  have es : l.take (m - (enc r).length) = s := by
    have : (l.take m).take (m - (enc r).length) = s := by
      rw [e, show m - (enc r).length = s.length by omega]
      exact List.take_left' rfl
    rw [← this, List.take_take, Nat.min_eq_left (by omega)]
  refine ⟨r, (enc r).length, by rw [e, last_enc hr], hl.1, hl.2, by omega, by rw [es]; exact hs, by rw [es]; exact hn⟩
theorem cut_prefix {l : List Int} {j : Nat} (h : (tell l).isSome = true) (h1 : 1 ≤ j) (hj : j < l.length) : cutL (l.take j) = true := by
  match l, h, hj with
  | [a], _, hj => simp at hj; omega
  | [a, b], h, hj =>
    obtain rfl : j = 1 := by simp at hj; omega
    rw [tell_e2] at h
    by_cases c : two a b = true
    · simp only [two, decide_eq_true_eq] at c
      show cutL [a] = true
      simp only [cutL, decide_eq_true_eq]; omega
    · rw [if_neg c] at h; cases h
  | [a, b, c], h, hj =>
    rw [tell_e3] at h
    by_cases d : three a b c = true
    · simp only [three, decide_eq_true_eq] at d
      have hj' : j = 1 ∨ j = 2 := by simp at hj; omega
      rcases hj' with rfl | rfl
      · show cutL [a] = true
        simp only [cutL, decide_eq_true_eq]; omega
      · show cutL [a, b] = true
        simp only [cutL, three, four, Bool.or_eq_true, decide_eq_true_eq]; omega
    · rw [if_neg d] at h; cases h
  | [a, b, c, d], h, hj =>
    rw [tell_e4] at h
    by_cases e : four a b c d = true
    · simp only [four, decide_eq_true_eq] at e
      have hj' : j = 1 ∨ j = 2 ∨ j = 3 := by simp at hj; omega
      rcases hj' with rfl | rfl | rfl
      · show cutL [a] = true
        simp only [cutL, decide_eq_true_eq]; omega
      · show cutL [a, b] = true
        simp only [cutL, three, four, Bool.or_eq_true, decide_eq_true_eq]; omega
      · show cutL [a, b, c] = true
        simp only [cutL, four, decide_eq_true_eq]; omega
    · rw [if_neg e] at h; cases h
  | _ :: _ :: _ :: _ :: _ :: _, h, _ => exact absurd (tell_len h).2 (by simp)
theorem short_full {r : Int} {j : Nat} (h : isRune r = true) (hj : j < (enc r).length) : fullL ((enc r).take j) = false := by
  unfold fullL
  rcases Nat.eq_zero_or_pos j with rfl | h1
  · rfl
  · rw [cut_prefix (tell_enc_some h) h1 hj]; simp
theorem short_valid {r : Int} {j : Nat} (h : isRune r = true) (hj : j < (enc r).length) : valid ((enc r).take j) = decide (j = 0) := by
  rcases Nat.eq_zero_or_pos j with rfl | h1
  · rfl
  · have hl : ((enc r).take j).length = j := by rw [List.length_take]; omega
    have e : firstL ((enc r).take j) = (65533, 1) := by
      rw [firstL_none (fun i i1 i4 il => ?_), hl, Nat.min_eq_left h1]
      rw [List.take_take, Nat.min_eq_left (by omega)]
      exact tell_prefix (tell_enc_some h) i1 (by omega)
    rw [valid_cons (by omega), e, if_pos ⟨rfl, rfl⟩, decide_eq_false (by omega)]

end Go.Proofs.YtincmkjffohekaaDoor
