/-
  Proved here: plain lemmas on what goutf8's decoder tells by the class of the first byte. No conditions beyond each lemma's own.
-/
import Derived.Test.YtincmkjffohekaaDoorCn2
import Derived.Test.YtincmkjffohekaaDoorTab
namespace Go.Proofs.YtincmkjffohekaaDoor
open Go.RowKit

def d2 (a b : Int) : Int × Nat := if two a b = true then (raw [a, b], 2) else (65533, 1)
def d3 (a b c : Int) : Int × Nat := if three a b c = true then (raw [a, b, c], 3) else (65533, 1)
def d4 (a b c d : Int) : Int × Nat := if four a b c d = true then (raw [a, b, c, d], 4) else (65533, 1)
theorem d2_yes {a b : Int} (h : 194 ≤ a ∧ a ≤ 223 ∧ 128 ≤ b ∧ b ≤ 191) : d2 a b = (a % 32 * 64 + b % 64, 2) := by
  unfold d2; rw [if_pos (by simp only [two, decide_eq_true_eq]; exact h)]; rfl
theorem d2_no {a b : Int} (h : ¬ (194 ≤ a ∧ a ≤ 223 ∧ 128 ≤ b ∧ b ≤ 191)) : d2 a b = (65533, 1) := by
  unfold d2; rw [if_neg (by simp only [two, decide_eq_true_eq]; exact h)]
theorem d3_yes {a b c : Int} (h : 224 ≤ a ∧ a ≤ 239 ∧ 128 ≤ b ∧ b ≤ 191 ∧ 128 ≤ c ∧ c ≤ 191 ∧ (a = 224 → 160 ≤ b) ∧ (a = 237 → b ≤ 159)) : d3 a b c = (a % 16 * 4096 + b % 64 * 64 + c % 64, 3) := by
  unfold d3; rw [if_pos (by simp only [three, decide_eq_true_eq]; exact h)]; simp only [raw, Prod.mk.injEq, and_true]; omega
theorem d3_no {a b c : Int} (h : ¬ (224 ≤ a ∧ a ≤ 239 ∧ 128 ≤ b ∧ b ≤ 191 ∧ 128 ≤ c ∧ c ≤ 191 ∧ (a = 224 → 160 ≤ b) ∧ (a = 237 → b ≤ 159))) : d3 a b c = (65533, 1) := by
  unfold d3; rw [if_neg (by simp only [three, decide_eq_true_eq]; exact h)]
theorem d4_yes {a b c d : Int} (h : 240 ≤ a ∧ a ≤ 244 ∧ 128 ≤ b ∧ b ≤ 191 ∧ 128 ≤ c ∧ c ≤ 191 ∧ 128 ≤ d ∧ d ≤ 191 ∧ (a = 240 → 144 ≤ b) ∧ (a = 244 → b ≤ 143)) : d4 a b c d = (a % 8 * 262144 + b % 64 * 4096 + c % 64 * 64 + d % 64, 4) := by
  unfold d4; rw [if_pos (by simp only [four, decide_eq_true_eq]; exact h)]; simp only [raw, Prod.mk.injEq, and_true]; omega
theorem d4_no {a b c d : Int} (h : ¬ (240 ≤ a ∧ a ≤ 244 ∧ 128 ≤ b ∧ b ≤ 191 ∧ 128 ≤ c ∧ c ≤ 191 ∧ 128 ≤ d ∧ d ≤ 191 ∧ (a = 240 → 144 ≤ b) ∧ (a = 244 → b ≤ 143))) : d4 a b c d = (65533, 1) := by
  unfold d4; rw [if_neg (by simp only [four, decide_eq_true_eq]; exact h)]

theorem two_not {a b : Int} (h : ¬ (194 ≤ a ∧ a ≤ 223)) : ¬ two a b = true := by simp only [two, decide_eq_true_eq]; omega
theorem three_not {a b c : Int} (h : ¬ (224 ≤ a ∧ a ≤ 239)) : ¬ three a b c = true := by simp only [three, decide_eq_true_eq]; omega
theorem four_not {a b c d : Int} (h : ¬ (240 ≤ a ∧ a ≤ 244)) : ¬ four a b c d = true := by simp only [four, decide_eq_true_eq]; omega
/-- The first number by the class of the first byte. -/
theorem first_bad {a : Int} {t : List Int} (h : 128 ≤ a ∧ (a < 194 ∨ 244 < a)) : firstL (a :: t) = (65533, 1) := by
  have h1 : ¬ a < 128 := by omega
  match t with
  | [] => rw [first_1, if_neg h1]
  | [b] => rw [first_2, if_neg h1, if_neg (two_not (by omega))]
  | [b, c] => rw [first_3, if_neg h1, if_neg (two_not (by omega)), if_neg (three_not (by omega))]
  | b :: c :: d :: t => rw [first_4, if_neg h1, if_neg (two_not (by omega)), if_neg (three_not (by omega)), if_neg (four_not (by omega))]
theorem first_c2 {a b : Int} {t : List Int} (h : 194 ≤ a ∧ a ≤ 223) : firstL (a :: b :: t) = d2 a b := by
  have h1 : ¬ a < 128 := by omega
  unfold d2
  match t with
  | [] => rw [first_2, if_neg h1]
  | [c] => rw [first_3, if_neg h1, if_neg (three_not (by omega))]
  | c :: d :: t => rw [first_4, if_neg h1, if_neg (three_not (by omega)), if_neg (four_not (by omega))]
theorem first_c3 {a b c : Int} {t : List Int} (h : 224 ≤ a ∧ a ≤ 239) : firstL (a :: b :: c :: t) = d3 a b c := by
  have h1 : ¬ a < 128 := by omega
  unfold d3
  match t with
  | [] => rw [first_3, if_neg h1, if_neg (two_not (by omega))]
  | d :: t => rw [first_4, if_neg h1, if_neg (two_not (by omega)), if_neg (four_not (by omega))]
theorem first_c4 {a b c d : Int} {t : List Int} (h : 240 ≤ a ∧ a ≤ 244) : firstL (a :: b :: c :: d :: t) = d4 a b c d := by
  have h1 : ¬ a < 128 := by omega
  unfold d4
  rw [first_4, if_neg h1, if_neg (two_not (by omega)), if_neg (three_not (by omega))]
theorem first_s2 {a : Int} (h : 194 ≤ a ∧ a ≤ 223) : firstL [a] = (65533, 1) := by rw [first_1, if_neg (by omega)]
theorem first_s3 {a : Int} {t : List Int} (h : 224 ≤ a ∧ a ≤ 239) (ht : t.length ≤ 1) : firstL (a :: t) = (65533, 1) := by
  match t, ht with
  | [], _ => rw [first_1, if_neg (by omega)]
  | [b], _ => rw [first_2, if_neg (by omega), if_neg (two_not (by omega))]
theorem first_s4 {a : Int} {t : List Int} (h : 240 ≤ a ∧ a ≤ 244) (ht : t.length ≤ 2) : firstL (a :: t) = (65533, 1) := by
  match t, ht with
  | [], _ => rw [first_1, if_neg (by omega)]
  | [b], _ => rw [first_2, if_neg (by omega), if_neg (two_not (by omega))]
  | [b, c], _ => rw [first_3, if_neg (by omega), if_neg (two_not (by omega)), if_neg (three_not (by omega))]

theorem ret_pair {v kI : Int} {k : Nat} {p : Int × Nat} (h : p = (v, k)) (hk : kI = (k : Int)) : Ending.returned (.tuple #[.int .i32 v, .int .i64 kI]) = .returned (.tuple #[.int .i32 p.1, .int .i64 (p.2 : Int)]) := by
  rw [h, hk]
theorem mask240 : wrap32 515396075520 / 2147483648 = 0 := by unfold wrap32; omega
theorem mask241 : wrap32 517543559168 / 2147483648 = -1 := by unfold wrap32; omega
set_option maxRecDepth 100000 in
theorem drop_fin : ∀ x : Fin 256, bits .or .i32 (bits .andNot .i32 ((x.val : Nat) : Int) (-1)) (bits .and .i32 65533 (-1)) = 65533 := by decide
set_option maxRecDepth 100000 in
theorem keep_fin : ∀ x : Fin 256, bits .or .i32 (bits .andNot .i32 ((x.val : Nat) : Int) 0) (bits .and .i32 65533 0) = ((x.val : Nat) : Int) := by decide

end Go.Proofs.YtincmkjffohekaaDoor
