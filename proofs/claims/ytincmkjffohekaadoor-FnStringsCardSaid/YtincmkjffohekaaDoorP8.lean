/-
  Proved here: plain lemmas on UTF-8 over lists of numbers, with no program in sight. No conditions beyond each lemma's own.
-/
import Derived.WalkKit
namespace Go.Proofs.YtincmkjffohekaaDoor

def isRune (r : Int) : Bool := decide ((0 ≤ r ∧ r < 55296) ∨ (57343 < r ∧ r ≤ 1114111))
theorem isRune_iff {r : Int} : isRune r = true ↔ (0 ≤ r ∧ r < 55296) ∨ (57343 < r ∧ r ≤ 1114111) := by simp [isRune]
theorem isRune_not {r : Int} : isRune r = false ↔ ¬ ((0 ≤ r ∧ r < 55296) ∨ (57343 < r ∧ r ≤ 1114111)) := by simp [isRune]

/-- The bytes of a number; of the wrong one where it may not be encoded. -/
def enc (r : Int) : List Int :=
  if 0 ≤ r ∧ r < 128 then [r]
  else if 128 ≤ r ∧ r < 2048 then [192 + r / 64, 128 + r % 64]
  else if (2048 ≤ r ∧ r < 55296) ∨ (57343 < r ∧ r < 65536) then [224 + r / 4096, 128 + r / 64 % 64, 128 + r % 64]
  else if 65536 ≤ r ∧ r ≤ 1114111 then [240 + r / 262144, 128 + r / 4096 % 64, 128 + r / 64 % 64, 128 + r % 64]
  else [239, 191, 189]
theorem enc_1 {r : Int} (h : 0 ≤ r ∧ r < 128) : enc r = [r] := by unfold enc; rw [if_pos h]
theorem enc_2 {r : Int} (h : 128 ≤ r ∧ r < 2048) : enc r = [192 + r / 64, 128 + r % 64] := by unfold enc; rw [if_neg (by omega), if_pos h]
theorem enc_3 {r : Int} (h : (2048 ≤ r ∧ r < 55296) ∨ (57343 < r ∧ r < 65536)) : enc r = [224 + r / 4096, 128 + r / 64 % 64, 128 + r % 64] := by
  unfold enc; rw [if_neg (by omega), if_neg (by omega), if_pos h]
theorem enc_4 {r : Int} (h : 65536 ≤ r ∧ r ≤ 1114111) : enc r = [240 + r / 262144, 128 + r / 4096 % 64, 128 + r / 64 % 64, 128 + r % 64] := by
  unfold enc; rw [if_neg (by omega), if_neg (by omega), if_neg (by omega), if_pos h]
theorem enc_bad {r : Int} (h : ¬ ((0 ≤ r ∧ r < 55296) ∨ (57343 < r ∧ r ≤ 1114111))) : enc r = [239, 191, 189] := by
  unfold enc; rw [if_neg (by omega), if_neg (by omega), if_neg (by omega), if_neg (by omega)]
theorem enc_cases (r : Int) : (0 ≤ r ∧ r < 128) ∨ (128 ≤ r ∧ r < 2048) ∨ ((2048 ≤ r ∧ r < 55296) ∨ (57343 < r ∧ r < 65536)) ∨ (65536 ≤ r ∧ r ≤ 1114111) ∨ ¬ ((0 ≤ r ∧ r < 55296) ∨ (57343 < r ∧ r ≤ 1114111)) := by omega
theorem enc_len (r : Int) : 1 ≤ (enc r).length ∧ (enc r).length ≤ 4 := by
  rcases enc_cases r with h | h | h | h | h
  · rw [enc_1 h]; simp
  · rw [enc_2 h]; simp
  · rw [enc_3 h]; simp
  · rw [enc_4 h]; simp
  · rw [enc_bad h]; simp
theorem wf_u8 {x : Int} (h : 0 ≤ x ∧ x ≤ 255) : (Lit.int .u8 x).wf = true := by
  simp [Lit.wf, IntKind.min, IntKind.max, IntKind.bits, IntKind.signed]; omega
theorem wf_i32 {x : Int} (h : -2147483648 ≤ x ∧ x ≤ 2147483647) : (Lit.int .i32 x).wf = true := by
  simp [Lit.wf, IntKind.min, IntKind.max, IntKind.bits, IntKind.signed]; omega
theorem byte_range {r : Int} (h : (Lit.int .u8 r).wf = true) : 0 ≤ r ∧ r ≤ 255 := by
  simp [Lit.wf, IntKind.min, IntKind.max, IntKind.bits, IntKind.signed] at h
  omega
theorem rune_range {r : Int} (h : (Lit.int .i32 r).wf = true) : -2147483648 ≤ r ∧ r ≤ 2147483647 := by
  simp [Lit.wf, IntKind.min, IntKind.max, IntKind.bits, IntKind.signed] at h
  omega
theorem enc_byte (r : Int) : ∀ x ∈ enc r, 0 ≤ x ∧ x ≤ 255 := by
  intro x hx
  rcases enc_cases r with h | h | h | h | h
  · rw [enc_1 h] at hx; simp at hx; omega
  · rw [enc_2 h] at hx; simp at hx; omega
  · rw [enc_3 h] at hx; simp at hx; omega
  · rw [enc_4 h] at hx; simp at hx; omega
  · rw [enc_bad h] at hx; simp at hx; omega
theorem enc_wf (r : Int) : ∀ x ∈ enc r, (Lit.int .u8 x).wf = true := fun x hx => wf_u8 (enc_byte r x hx)

/-! What one to four bytes tell. -/
def two (a b : Int) : Bool := decide (194 ≤ a ∧ a ≤ 223 ∧ 128 ≤ b ∧ b ≤ 191)
def three (a b c : Int) : Bool := decide (224 ≤ a ∧ a ≤ 239 ∧ 128 ≤ b ∧ b ≤ 191 ∧ 128 ≤ c ∧ c ≤ 191 ∧ (a = 224 → 160 ≤ b) ∧ (a = 237 → b ≤ 159))
def four (a b c d : Int) : Bool := decide (240 ≤ a ∧ a ≤ 244 ∧ 128 ≤ b ∧ b ≤ 191 ∧ 128 ≤ c ∧ c ≤ 191 ∧ 128 ≤ d ∧ d ≤ 191 ∧ (a = 240 → 144 ≤ b) ∧ (a = 244 → b ≤ 143))
def v2 (a b : Int) : Int := (a - 192) * 64 + (b - 128)
def v3 (a b c : Int) : Int := (a - 224) * 4096 + (b - 128) * 64 + (c - 128)
def v4 (a b c d : Int) : Int := (a - 240) * 262144 + (b - 128) * 4096 + (c - 128) * 64 + (d - 128)
/-- The number whose bytes are just these. -/
def tell : List Int → Option Int
  | [a] => if a < 128 then some a else none
  | [a, b] => if two a b = true then some (v2 a b) else none
  | [a, b, c] => if three a b c = true then some (v3 a b c) else none
  | [a, b, c, d] => if four a b c d = true then some (v4 a b c d) else none
  | _ => none
/-- What the bytes tell before it is asked whether they are the number's own: the reckoning with masks. -/
def raw : List Int → Int
  | [a] => a
  | [a, b] => a % 32 * 64 + b % 64
  | [a, b, c] => (a % 16 * 64 + b % 64) * 64 + c % 64
  | [a, b, c, d] => ((a % 8 * 64 + b % 64) * 64 + c % 64) * 64 + d % 64
  | _ => 0

theorem tell_e1 (a : Int) : tell [a] = if a < 128 then some a else none := rfl
theorem tell_e2 (a b : Int) : tell [a, b] = if two a b = true then some (v2 a b) else none := rfl
theorem tell_e3 (a b c : Int) : tell [a, b, c] = if three a b c = true then some (v3 a b c) else none := rfl
theorem tell_e4 (a b c d : Int) : tell [a, b, c, d] = if four a b c d = true then some (v4 a b c d) else none := rfl

theorem tell_1 (a : Int) (ha : 0 ≤ a ∧ a ≤ 255) : tell [a] = if isRune (raw [a]) = true ∧ enc (raw [a]) = [a] then some (raw [a]) else none := by
  have hr : raw [a] = a := rfl
  rw [hr, tell_e1]
  by_cases h : a < 128
  · rw [if_pos h, if_pos ⟨isRune_iff.2 (by omega), enc_1 (by omega)⟩]
  · have h2 : enc a ≠ [a] := by rw [enc_2 (by omega)]; simp
    rw [if_neg h, if_neg (fun hh => h2 hh.2)]

theorem tell_2 (a b : Int) (ha : 0 ≤ a ∧ a ≤ 255) (hb : 0 ≤ b ∧ b ≤ 255) : tell [a, b] = if isRune (raw [a, b]) = true ∧ enc (raw [a, b]) = [a, b] then some (raw [a, b]) else none := by
  have hr : raw [a, b] = a % 32 * 64 + b % 64 := rfl
  generalize raw [a, b] = r at hr ⊢
  rw [tell_e2]
  by_cases h : two a b = true
  · have h' := h
    simp only [two, decide_eq_true_eq] at h'
    have e : r = v2 a b := by unfold v2; omega
    have e2 : enc r = [a, b] := by
      rw [enc_2 (by omega)]
      simp only [List.cons.injEq, and_true]
      omega
    rw [if_pos h, if_pos ⟨isRune_iff.2 (by omega), e2⟩, e]
  · rw [if_neg h, if_neg]
    rintro ⟨h1, h2⟩
    have h1' := isRune_iff.1 h1
    apply h
    simp only [two, decide_eq_true_eq]
    by_cases hs : r < 128
    · rw [enc_1 (by omega)] at h2; simp at h2
    · rw [enc_2 (by omega)] at h2
      simp only [List.cons.injEq, and_true] at h2
      omega

theorem tell_3 (a b c : Int) (ha : 0 ≤ a ∧ a ≤ 255) (hb : 0 ≤ b ∧ b ≤ 255) (hc : 0 ≤ c ∧ c ≤ 255) : tell [a, b, c] = if isRune (raw [a, b, c]) = true ∧ enc (raw [a, b, c]) = [a, b, c] then some (raw [a, b, c]) else none := by
  have hr : raw [a, b, c] = (a % 16 * 64 + b % 64) * 64 + c % 64 := rfl
  generalize raw [a, b, c] = r at hr ⊢
  rw [tell_e3]
  by_cases h : three a b c = true
  · have h' := h
    simp only [three, decide_eq_true_eq] at h'
    have e : r = v3 a b c := by unfold v3; omega
    have e2 : enc r = [a, b, c] := by
      rw [enc_3 (by omega)]
      simp only [List.cons.injEq, and_true]
      omega
    rw [if_pos h, if_pos ⟨isRune_iff.2 (by omega), e2⟩, e]
  · rw [if_neg h, if_neg]
    rintro ⟨h1, h2⟩
    have h1' := isRune_iff.1 h1
    apply h
    simp only [three, decide_eq_true_eq]
    by_cases hs : r < 128
    · rw [enc_1 (by omega)] at h2; simp at h2
    · by_cases hs2 : r < 2048
      · rw [enc_2 (by omega)] at h2; simp at h2
      · rw [enc_3 (by omega)] at h2
        simp only [List.cons.injEq, and_true] at h2
        omega

theorem tell_4 (a b c d : Int) (ha : 0 ≤ a ∧ a ≤ 255) (hb : 0 ≤ b ∧ b ≤ 255) (hc : 0 ≤ c ∧ c ≤ 255) (hd : 0 ≤ d ∧ d ≤ 255) :
    tell [a, b, c, d] = if isRune (raw [a, b, c, d]) = true ∧ enc (raw [a, b, c, d]) = [a, b, c, d] then some (raw [a, b, c, d]) else none := by
  have hr : raw [a, b, c, d] = ((a % 8 * 64 + b % 64) * 64 + c % 64) * 64 + d % 64 := rfl
  generalize raw [a, b, c, d] = r at hr ⊢
  rw [tell_e4]
  by_cases h : four a b c d = true
  · have h' := h
    simp only [four, decide_eq_true_eq] at h'
    have e : r = v4 a b c d := by unfold v4; omega
    have e2 : enc r = [a, b, c, d] := by
      rw [enc_4 (by omega)]
      simp only [List.cons.injEq, and_true]
      omega
    rw [if_pos h, if_pos ⟨isRune_iff.2 (by omega), e2⟩, e]
  · rw [if_neg h, if_neg]
    rintro ⟨h1, h2⟩
    have h1' := isRune_iff.1 h1
    apply h
    simp only [four, decide_eq_true_eq]
    by_cases hs : r < 128
    · rw [enc_1 (by omega)] at h2; simp at h2
    · by_cases hs2 : r < 2048
      · rw [enc_2 (by omega)] at h2; simp at h2
      · by_cases hs3 : r < 65536
        · rw [enc_3 (by omega)] at h2; simp at h2
        · rw [enc_4 (by omega)] at h2
          simp only [List.cons.injEq, and_true] at h2
          omega

/-- All four lengths. -/
theorem tell_raw (l : List Int) (hf : ∀ x ∈ l, 0 ≤ x ∧ x ≤ 255) (h1 : 1 ≤ l.length) (h4 : l.length ≤ 4) : tell l = if isRune (raw l) = true ∧ enc (raw l) = l then some (raw l) else none := by
  match l, h1, h4, hf with
  | [a], _, _, hf => exact tell_1 a (hf a (by simp))
  | [a, b], _, _, hf => exact tell_2 a b (hf a (by simp)) (hf b (by simp))
  | [a, b, c], _, _, hf => exact tell_3 a b c (hf a (by simp)) (hf b (by simp)) (hf c (by simp))
  | [a, b, c, d], _, _, hf => exact tell_4 a b c d (hf a (by simp)) (hf b (by simp)) (hf c (by simp)) (hf d (by simp))
theorem raw_range (l : List Int) (hf : ∀ x ∈ l, 0 ≤ x ∧ x ≤ 255) : 0 ≤ raw l ∧ raw l ≤ 2097151 := by
  match l, hf with
  | [], _ => simp [raw]
  | [a], hf => have := hf a (by simp); simp only [raw]; omega
  | [a, b], hf => simp only [raw]; omega
  | [a, b, c], hf => simp only [raw]; omega
  | [a, b, c, d], hf => simp only [raw]; omega
  | _ :: _ :: _ :: _ :: _ :: _, _ => simp [raw]
theorem tell_some {l : List Int} {r : Int} (hf : ∀ x ∈ l, 0 ≤ x ∧ x ≤ 255) (h : tell l = some r) : 1 ≤ l.length ∧ l.length ≤ 4 ∧ isRune r = true ∧ enc r = l := by
  have hl : 1 ≤ l.length ∧ l.length ≤ 4 := by
    match l, h with
    | [a], _ => simp
    | [a, b], _ => simp
    | [a, b, c], _ => simp
    | [a, b, c, d], _ => simp
  rw [tell_raw l hf hl.1 hl.2] at h
  split at h
  · rename_i hh
    obtain rfl := Option.some.inj h
    exact ⟨hl.1, hl.2, hh⟩
  · cases h
theorem tell_enc {r : Int} (h : isRune r = true) : tell (enc r) = some r := by
  have h' := isRune_iff.1 h
  by_cases h1 : r < 128
  · rw [enc_1 (by omega), tell_e1, if_pos h1]
  · by_cases h2 : r < 2048
    · rw [enc_2 (by omega), tell_e2, if_pos (by simp only [two, decide_eq_true_eq]; omega)]
      congr 1; unfold v2; omega
    · by_cases h3 : r < 65536
      · rw [enc_3 (by omega)]
        rw [tell_e3, if_pos (by simp only [three, decide_eq_true_eq]; omega)]
        congr 1; unfold v3; omega
      · rw [enc_4 (by omega), tell_e4, if_pos (by simp only [four, decide_eq_true_eq]; omega)]
        congr 1; unfold v4; omega

end Go.Proofs.YtincmkjffohekaaDoor
