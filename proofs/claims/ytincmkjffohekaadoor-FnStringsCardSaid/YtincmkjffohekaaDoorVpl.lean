/-
  Proved here: plain lemmas on whole, cut and valid encodings in the terms of the program's tables (class of the first byte), and on the fast road's eight bytes. No conditions beyond each lemma's own.
-/
import Derived.Test.YtincmkjffohekaaDoorCn2
import Derived.Test.YtincmkjffohekaaDoorLpl
import Derived.Lib.ValidAsc
namespace Go.Proofs.YtincmkjffohekaaDoor

/-- Byte j of a list of bytes. -/
def bt (l : List Int) (j : Nat) : Nat := (l.getD j 0).toNat
theorem bt_at {l : List Int} {j : Nat} {a : Nat} (h : l[j]? = some (a : Int)) : bt l j = a := by
  unfold bt
  rw [List.getD, h]
  simp
theorem bt_lt {l : List Int} (hf : ∀ x ∈ l, 0 ≤ x ∧ x ≤ 255) (j : Nat) : bt l j < 256 := by
  unfold bt
  by_cases h : j < l.length
  · have := hf (l[j]'h) (List.getElem_mem h)
    simp only [List.getD, List.getElem?_eq_getElem h, Option.getD_some]
    omega
  · simp [List.getD, List.getElem?_eq_none (show l.length ≤ j by omega)]
theorem bt_get {l : List Int} (hf : ∀ x ∈ l, 0 ≤ x ∧ x ≤ 255) {j : Nat} (h : j < l.length) : l[j]? = some (bt l j : Int) := by
  have := hf (l[j]'h) (List.getElem_mem h)
  unfold bt
  rw [List.getElem?_eq_getElem h]
  simp only [List.getD, List.getElem?_eq_getElem h, Option.getD_some]
  rw [Int.toNat_of_nonneg this.1]
theorem bt_drop (l : List Int) (k j : Nat) : bt (l.drop k) j = bt l (k + j) := by
  unfold bt
  simp [List.getD]
theorem first_dec {l : List Int} (hf : ∀ x ∈ l, 0 ≤ x ∧ x ≤ 255) (h1 : 1 ≤ l.length) : firstL l = ofN (Lib.decodeN l.length (bt l 0) (bt l 1) (bt l 2) (bt l 3)) := by
  have hl := bt_lt hf
  have hg := fun j h => bt_get (j := j) hf h
  have e0 := drop_at (hg 0 (by omega))
  rw [List.drop_zero] at e0
  by_cases h2 : 2 ≤ l.length
  · have e1 := drop_at (hg 1 (by omega))
    by_cases h3 : 3 ≤ l.length
    · have e2 := drop_at (hg 2 (by omega))
      by_cases h4 : 4 ≤ l.length
      · have e3 := drop_at (hg 3 (by omega))
        conv => lhs; rw [e0, e1, e2, e3]
        exact first_decN4 _ _ _ _ _ _ h4 (hl 0) (hl 1) (hl 2) (hl 3)
      · have e3 : l.drop 3 = [] := List.drop_eq_nil_of_le (by omega)
        conv => lhs; rw [e0, e1, e2, e3]
        rw [show l.length = 3 by omega]
        exact first_decN3 _ _ _ _ (hl 0) (hl 1) (hl 2)
    · have e2 : l.drop 2 = [] := List.drop_eq_nil_of_le (by omega)
      conv => lhs; rw [e0, e1, e2]
      rw [show l.length = 2 by omega]
      exact first_decN2 _ _ _ _ (hl 0) (hl 1)
  · have e1 : l.drop 1 = [] := List.drop_eq_nil_of_le (by omega)
    conv => lhs; rw [e0, e1]
    rw [show l.length = 1 by omega]
    exact first_decN1 _ _ _ _ (hl 0)
/-- Validity at a first byte from 128 on. -/
theorem valid_lead {l : List Int} (hf : ∀ x ∈ l, 0 ≤ x ∧ x ≤ 255) (h1 : 1 ≤ l.length) (h0 : 128 ≤ bt l 0) :
    valid l = match Lib.checkN l.length (bt l 1) (bt l 2) (bt l 3) (Lib.firstT (bt l 0) % 8) (Lib.accLo (Lib.firstT (bt l 0) / 16)) (Lib.accHi (Lib.firstT (bt l 0) / 16)) with
      | none => false
      | some k => valid (l.drop k) := by
  have hl := bt_lt hf
  rw [valid_cons h1, first_dec hf h1]
  rcases Lib.check_decode l.length (bt l 0) (bt l 1) (bt l 2) (bt l 3) h1 h0 (hl 0) (hl 1) (hl 2) (hl 3) with ⟨hc, hd⟩ | ⟨k, hk, hc, hd⟩
  · rw [hc, hd]; simp [ofN]
  · rw [hc]
    have e2 : (ofN (Lib.decodeN l.length (bt l 0) (bt l 1) (bt l 2) (bt l 3))).2 = k := hd
    rw [if_neg (fun h => by rw [e2] at h; omega), e2]

/-- The first k bytes are below 128. -/
def AscL (l : List Int) (k : Nat) : Prop := ∀ x ∈ l.take k, x < 128
theorem ascL_add {l : List Int} {a b : Nat} (ha : AscL l a) (hb : AscL (l.drop a) b) : AscL l (a + b) := by
  unfold AscL at *
  rw [List.take_add]
  intro x hx
  rcases List.mem_append.1 hx with h | h
  · exact ha x h
  · exact hb x h
theorem valid_one {x : Int} {t : List Int} (h : x < 128) : valid (x :: t) = valid t := by
  rw [valid_cons (by simp), first_ascii h, if_neg (fun h2 => by have h3 : x = 65533 := h2.1; omega)]
  rfl
theorem valid_asc : ∀ (k : Nat) {l : List Int}, AscL l k → valid (l.drop k) = valid l
  | 0, l, _ => by simp
  | k + 1, [], _ => by simp
  | k + 1, x :: t, h => by
    rw [List.drop_succ_cons, valid_one (h x (by simp)), valid_asc k (fun y hy => h y (by simp [hy]))]
theorem ascL_one {l : List Int} {a : Nat} (h : l[0]? = some (a : Int)) (ha : a < 128) : AscL l 1 := by
  unfold AscL
  match l, h with
  | x :: t, h =>
    simp at h
    subst h
    intro y hy
    simp at hy
    omega

/-- What eight bytes spell, the least first. -/
def leL (l : List Int) : Nat := Lib.leNat ((l.take 8).map byteOf)
theorem leL_lt {l : List Int} : leL l < 18446744073709551616 := by
  have h := Lib.leNat_lt ((l.take 8).map byteOf)
  have h8 : ((l.take 8).map byteOf).length ≤ 8 := by simp; omega
  have : 256 ^ ((l.take 8).map byteOf).length ≤ 256 ^ 8 := Nat.pow_le_pow_right (by omega) h8
  unfold leL
  omega
theorem leL_asc {l : List Int} (hf : ∀ x ∈ l, 0 ≤ x ∧ x ≤ 255) (h8 : 8 ≤ l.length) : leL l &&& 9259542123273814144 = 0 ↔ AscL l 8 := by
  have h := Lib.leNat_mask ((l.take 8).map byteOf)
  rw [show ((l.take 8).map byteOf).length = 8 by simp; omega, Lib.maskN8] at h
  unfold leL
  rw [h]
  unfold AscL
  constructor
  · intro h x hx
    have := h (byteOf x) (List.mem_map_of_mem hx)
    have hb := byteOf_back (hf x (List.mem_of_mem_take hx))
    omega
  · intro h b hb
    obtain ⟨x, hx, rfl⟩ := List.mem_map.1 hb
    have := h x hx
    have hb := byteOf_back (hf x (List.mem_of_mem_take hx))
    omega

/-! Cut and whole. -/
/-- Whether bytes are the first ones, but not all, of an encoding. -/
def cutL : List Int → Bool
  | [a] => decide (194 ≤ a ∧ a ≤ 244)
  | [a, b] => three a b 128 || four a b 128 128
  | [a, b, c] => four a b c 128
  | _ => false
def fullL (l : List Int) : Bool := decide (0 < l.length) && !cutL l
theorem cut_of {l : List Int} {n : Nat} {v : Int} (h1 : 1 ≤ l.length) (hn : l.length + 1 ≤ n) (h4 : n ≤ 4) (h : (tell (l ++ v :: List.replicate (n - l.length - 1) 128)).isSome = true) : cutL l = true := by
  match l, h1, hn, h with
  | [a], _, hn, h =>
    simp only [List.length_cons, List.length_nil] at hn h
    have hn' : n = 2 ∨ n = 3 ∨ n = 4 := by omega
    simp only [cutL, decide_eq_true_eq]
    rcases hn' with rfl | rfl | rfl
    · have h' : (tell [a, v]).isSome = true := h
      rw [tell_e2] at h'
      by_cases c : two a v = true
      · simp only [two, decide_eq_true_eq] at c; omega
      · rw [if_neg c] at h'; cases h'
    · have h' : (tell [a, v, 128]).isSome = true := h
      rw [tell_e3] at h'
      by_cases c : three a v 128 = true
      · simp only [three, decide_eq_true_eq] at c; omega
      · rw [if_neg c] at h'; cases h'
    · have h' : (tell [a, v, 128, 128]).isSome = true := h
      rw [tell_e4] at h'
      by_cases c : four a v 128 128 = true
      · simp only [four, decide_eq_true_eq] at c; omega
      · rw [if_neg c] at h'; cases h'
  | [a, b], _, hn, h =>
    simp only [List.length_cons, List.length_nil] at hn h
    have hn' : n = 3 ∨ n = 4 := by omega
    simp only [cutL, Bool.or_eq_true]
    rcases hn' with rfl | rfl
    · have h' : (tell [a, b, v]).isSome = true := h
      rw [tell_e3] at h'
      by_cases c : three a b v = true
      · left
        simp only [three, decide_eq_true_eq] at c ⊢; omega
      · rw [if_neg c] at h'; cases h'
    · have h' : (tell [a, b, v, 128]).isSome = true := h
      rw [tell_e4] at h'
      by_cases c : four a b v 128 = true
      · right
        simp only [four, decide_eq_true_eq] at c ⊢; omega
      · rw [if_neg c] at h'; cases h'
  | [a, b, c], _, hn, h =>
    simp only [List.length_cons, List.length_nil] at hn h
    obtain rfl : n = 4 := by omega
    have h' : (tell [a, b, c, v]).isSome = true := h
    rw [tell_e4] at h'
    simp only [cutL]
    by_cases d : four a b c v = true
    · simp only [four, decide_eq_true_eq] at d ⊢; omega
    · rw [if_neg d] at h'; cases h'
  | _ :: _ :: _ :: _ :: t, _, hn, _ => simp at hn; omega
theorem cut_none {l : List Int} (h : ∀ n v, l.length + 1 ≤ n → n ≤ 4 → 128 ≤ v → v ≤ 191 → tell (l ++ v :: List.replicate (n - l.length - 1) 128) = none) : cutL l = false := by
  match l, h with
  | [], _ => rfl
  | [a], h =>
    simp only [cutL, decide_eq_false_iff_not]
    intro hc
    by_cases c2 : a ≤ 223
    · have e := h 2 128 (by simp) (by omega) (by omega) (by omega)
      have e' : tell [a, 128] = none := e
      rw [tell_e2, if_pos (by simp only [two, decide_eq_true_eq]; omega)] at e'
      cases e'
    · by_cases c3 : a ≤ 239
      · by_cases c4 : a = 224
        · have e : tell [a, 160, 128] = none := h 3 160 (by simp) (by omega) (by omega) (by omega)
          rw [tell_e3, if_pos (by simp only [three, decide_eq_true_eq]; omega)] at e
          cases e
        · have e : tell [a, 128, 128] = none := h 3 128 (by simp) (by omega) (by omega) (by omega)
          rw [tell_e3, if_pos (by simp only [three, decide_eq_true_eq]; omega)] at e
          cases e
      · by_cases c4 : a = 240
        · have e : tell [a, 144, 128, 128] = none := h 4 144 (by simp) (by omega) (by omega) (by omega)
          rw [tell_e4, if_pos (by simp only [four, decide_eq_true_eq]; omega)] at e
          cases e
        · have e : tell [a, 128, 128, 128] = none := h 4 128 (by simp) (by omega) (by omega) (by omega)
          rw [tell_e4, if_pos (by simp only [four, decide_eq_true_eq]; omega)] at e
          cases e
  | [a, b], h =>
    simp only [cutL, Bool.or_eq_false_iff]
    constructor
    · have e : tell [a, b, 128] = none := h 3 128 (by simp) (by omega) (by omega) (by omega)
      rw [tell_e3] at e
      by_cases c : three a b 128 = true
      · rw [if_pos c] at e; cases e
      · simpa using c
    · have e : tell [a, b, 128, 128] = none := h 4 128 (by simp) (by omega) (by omega) (by omega)
      rw [tell_e4] at e
      by_cases c : four a b 128 128 = true
      · rw [if_pos c] at e; cases e
      · simpa using c
  | [a, b, c], h =>
    simp only [cutL]
    have e : tell [a, b, c, 128] = none := h 4 128 (by simp) (by omega) (by omega) (by omega)
    rw [tell_e4] at e
    by_cases d : four a b c 128 = true
    · rw [if_pos d] at e; cases e
    · simpa using d
  | _ :: _ :: _ :: _ :: t, _ => rfl
theorem cut_long {l : List Int} (h : 4 ≤ l.length) : cutL l = false := by
  match l, h with
  | _ :: _ :: _ :: _ :: t, _ => rfl

/-- What the library asks. -/
def fullN (n b c sz lo hi : Nat) : Bool := decide (sz ≤ n ∨ (1 < n ∧ (b < lo ∨ hi < b)) ∨ (2 < n ∧ (c < 128 ∨ 191 < c)))
theorem full_class (n a b c sz lo hi : Nat) (e1 : Lib.firstT a % 8 = sz) (e2 : Lib.accLo (Lib.firstT a / 16) = lo) (e3 : Lib.accHi (Lib.firstT a / 16) = hi) : fullN n b c (Lib.firstT a % 8) (Lib.accLo (Lib.firstT a / 16)) (Lib.accHi (Lib.firstT a / 16)) = fullN n b c sz lo hi := by rw [e1, e2, e3]
set_option maxHeartbeats 4000000 in
/-- Five classes of first bytes. -/
theorem lead_cases (a : Nat) (ha : a < 256) :
    (Lib.firstT a % 8 ≤ 1 ∧ ¬ (194 ≤ a ∧ a ≤ 244)) ∨
    (Lib.firstT a % 8 = 2 ∧ 194 ≤ a ∧ a ≤ 223) ∨
    (Lib.firstT a % 8 = 3 ∧ 224 ≤ a ∧ a ≤ 239 ∧ (∀ b, (b < Lib.accLo (Lib.firstT a / 16) ∨ Lib.accHi (Lib.firstT a / 16) < b) ↔ ¬ (128 ≤ b ∧ b ≤ 191 ∧ (a = 224 → 160 ≤ b) ∧ (a = 237 → b ≤ 159)))) ∨
    (Lib.firstT a % 8 = 4 ∧ 240 ≤ a ∧ a ≤ 244 ∧ (∀ b, (b < Lib.accLo (Lib.firstT a / 16) ∨ Lib.accHi (Lib.firstT a / 16) < b) ↔ ¬ (128 ≤ b ∧ b ≤ 191 ∧ (a = 240 → 144 ≤ b) ∧ (a = 244 → b ≤ 143)))) := by
  have key : ∀ t, Lib.firstT a = t → (t = 240 ∧ a < 128) ∨ (t = 241 ∧ ((128 ≤ a ∧ a < 194) ∨ 244 < a)) ∨ (t = 2 ∧ 194 ≤ a ∧ a ≤ 223) ∨ (t = 19 ∧ a = 224) ∨ (t = 3 ∧ ((225 ≤ a ∧ a ≤ 236) ∨ (238 ≤ a ∧ a ≤ 239))) ∨ (t = 35 ∧ a = 237) ∨ (t = 52 ∧ a = 240) ∨ (t = 4 ∧ 241 ≤ a ∧ a ≤ 243) ∨ (t = 68 ∧ a = 244) := fun t ht => by
    unfold Lib.firstT at ht
    repeat' split at ht
    all_goals omega
  obtain ⟨t, ht⟩ : ∃ t, Lib.firstT a = t := ⟨_, rfl⟩
  have hk := key t ht
  rw [ht]
  clear key ht
  rcases hk with ⟨rfl, h⟩ | ⟨rfl, h⟩ | ⟨rfl, h⟩ | ⟨rfl, h⟩ | ⟨rfl, h⟩ | ⟨rfl, h⟩ | ⟨rfl, h⟩ | ⟨rfl, h⟩ | ⟨rfl, h⟩
  · exact .inl ⟨by decide, by omega⟩
  · exact .inl ⟨by decide, by omega⟩
  · exact .inr (.inl ⟨by decide, h⟩)
  · have e1 : Lib.accLo (19 / 16) = 160 := by decide
    have e2 : Lib.accHi (19 / 16) = 191 := by decide
    rw [e1, e2]
    exact .inr (.inr (.inl ⟨by decide, by omega, by omega, fun b => by omega⟩))
  · have e1 : Lib.accLo (3 / 16) = 128 := by decide
    have e2 : Lib.accHi (3 / 16) = 191 := by decide
    rw [e1, e2]
    exact .inr (.inr (.inl ⟨by decide, by omega, by omega, fun b => by omega⟩))
  · have e1 : Lib.accLo (35 / 16) = 128 := by decide
    have e2 : Lib.accHi (35 / 16) = 159 := by decide
    rw [e1, e2]
    exact .inr (.inr (.inl ⟨by decide, by omega, by omega, fun b => by omega⟩))
  · have e1 : Lib.accLo (52 / 16) = 144 := by decide
    have e2 : Lib.accHi (52 / 16) = 191 := by decide
    rw [e1, e2]
    exact .inr (.inr (.inr ⟨by decide, by omega, by omega, fun b => by omega⟩))
  · have e1 : Lib.accLo (4 / 16) = 128 := by decide
    have e2 : Lib.accHi (4 / 16) = 191 := by decide
    rw [e1, e2]
    exact .inr (.inr (.inr ⟨by decide, by omega, by omega, fun b => by omega⟩))
  · have e1 : Lib.accLo (68 / 16) = 128 := by decide
    have e2 : Lib.accHi (68 / 16) = 143 := by decide
    rw [e1, e2]
    exact .inr (.inr (.inr ⟨by decide, by omega, by omega, fun b => by omega⟩))
theorem full_lead {l : List Int} (hf : ∀ x ∈ l, 0 ≤ x ∧ x ≤ 255) (h1 : 1 ≤ l.length) :
    fullL l = fullN l.length (bt l 1) (bt l 2) (Lib.firstT (bt l 0) % 8) (Lib.accLo (Lib.firstT (bt l 0) / 16)) (Lib.accHi (Lib.firstT (bt l 0) / 16)) := by
  have hl := bt_lt hf
  have hg := fun j h => bt_get (j := j) hf h
  have e0 := drop_at (hg 0 (by omega))
  rw [List.drop_zero] at e0
  have hc := lead_cases (bt l 0) (hl 0)
  generalize Lib.firstT (bt l 0) % 8 = sz at hc ⊢
  generalize Lib.accLo (Lib.firstT (bt l 0) / 16) = lo at hc ⊢
  generalize Lib.accHi (Lib.firstT (bt l 0) / 16) = hi at hc ⊢
  unfold fullL fullN
  rw [decide_eq_true (show 0 < l.length by omega), Bool.true_and]
  have l0 := hl 0; have l1 := hl 1; have l2 := hl 2
  by_cases h4 : 4 ≤ l.length
  · rw [cut_long h4, decide_eq_true (by omega)]; rfl
  by_cases h2 : 2 ≤ l.length
  · have e1 := drop_at (hg 1 (by omega))
    by_cases h3 : 3 ≤ l.length
    · have e2 := drop_at (hg 2 (by omega))
      have e3 : l.drop 3 = [] := List.drop_eq_nil_of_le (by omega)
      have el : l = [(bt l 0 : Int), (bt l 1 : Int), (bt l 2 : Int)] := by conv => lhs; rw [e0, e1, e2, e3]
      have ec : cutL l = four (bt l 0) (bt l 1) (bt l 2) 128 := (congrArg cutL el).trans rfl
      rw [ec, show l.length = 3 by omega]
      generalize bt l 0 = a at *; generalize bt l 1 = b at *; generalize bt l 2 = c at *
      unfold four
      rw [← decide_not]
      refine decide_eq_decide.2 ?_
      rcases hc with h | h | ⟨h, h', h'', hb⟩ | ⟨h, h', h'', hb⟩
      · omega
      · omega
      · have := hb b; omega
      · have := hb b; omega
    · have e2 : l.drop 2 = [] := List.drop_eq_nil_of_le (by omega)
      have el : l = [(bt l 0 : Int), (bt l 1 : Int)] := by conv => lhs; rw [e0, e1, e2]
      have ec : cutL l = (three (bt l 0) (bt l 1) 128 || four (bt l 0) (bt l 1) 128 128) := (congrArg cutL el).trans rfl
      rw [ec, show l.length = 2 by omega]
      generalize bt l 0 = a at *; generalize bt l 1 = b at *
      unfold three four
      rw [← Bool.decide_or, ← decide_not]
      refine decide_eq_decide.2 ?_
      rcases hc with h | h | ⟨h, h', h'', hb⟩ | ⟨h, h', h'', hb⟩
      · omega
      · omega
      · have := hb b; omega
      · have := hb b; omega
  · have e1 : l.drop 1 = [] := List.drop_eq_nil_of_le (by omega)
    have el : l = [(bt l 0 : Int)] := by conv => lhs; rw [e0, e1]
    have ec : cutL l = decide (194 ≤ (bt l 0 : Int) ∧ (bt l 0 : Int) ≤ 244) := (congrArg cutL el).trans rfl
    rw [ec, show l.length = 1 by omega]
    rw [← decide_not]
    refine decide_eq_decide.2 ?_
    rcases hc with h | h | ⟨h, h', h'', hb⟩ | ⟨h, h', h'', hb⟩ <;> omega

end Go.Proofs.YtincmkjffohekaaDoor
