/-
  Proved here: the contract of spec.First: the number whose bytes stand first, and how many they are. Condition: the slice's length is at most its capacity and at most 2^31.
-/
import Derived.Test.YtincmkjffohekaaDoorTel
import Derived.Test.YtincmkjffohekaaDoorP9
namespace Go.Proofs.YtincmkjffohekaaDoor
open Go.RowKit

section
variable {w : World} {B : Nat} {k : IntKind} {A : Option Addr} {n : Nat} {xs : List Int}
theorem IsL.take {m : Nat} (h : IsL w B k A n xs) (hm : m ≤ n) : IsL w B k A m (xs.take m) := by
  have hl := h.len
  refine ⟨by simp; omega, fun x hx => h.2.1 x (List.mem_of_mem_take hx), fun hp => ?_⟩
  obtain ⟨b, off, e, hb, hc⟩ := h.2.2 (by omega)
  refine ⟨b, off, e, hb, fun j hj => ?_⟩
  rw [hc j (by omega)]
  simp [List.getD, hj]
theorem IsL.drop {b off m : Nat} (h : IsL w B k (some ⟨b, off, none⟩) n xs) (hm : m ≤ n) : IsL w B k (some ⟨b, off + m, none⟩) (n - m) (xs.drop m) := by
  have hl := h.len
  refine ⟨by simp; omega, fun x hx => h.2.1 x (List.mem_of_mem_drop hx), fun hp => ?_⟩
  obtain ⟨b', off', e, hb, hc⟩ := h.2.2 (by omega)
  simp only [Option.some.injEq, Addr.mk.injEq, and_true] at e
  obtain ⟨rfl, rfl⟩ := e
  refine ⟨b, off + m, rfl, hb, fun j hj => ?_⟩
  rw [Nat.add_assoc, hc (m + j) (by omega)]
  simp [List.getD]
end
theorem OwnsL.cap {w : World} {base : Nat} {e : TypeId} {k : IntKind} {A : Option Addr} {n c : Nat} {xs : List Int} (h : OwnsL w base e k (.slice A n c) xs) : n ≤ c := by
  rcases h.2 with ⟨hv, _⟩ | ⟨g, cap, cur, hv, _, _, h1, _⟩
  · simp only [Value.slice.injEq] at hv; omega
  · simp only [Value.slice.injEq] at hv; omega

set_option maxHeartbeats 1000000 in
theorem first_any (A : Option Addr) (n c : Nat) (xs : List Int) (w : World) (h : IsL w w.heap.size .u8 A n xs) (hcap : n ≤ c) (hn : n ≤ 2147483648) :
    Calls Tryd.prog 34 #[.slice A n c] w fun e w' => e = .returned (.tuple #[.int .i32 (firstL xs).1, .int .i64 ((firstL xs).2 : Int)]) ∧ Below w.heap.size w w' := by
  have H := Lib.hid h
  have hl := h.len
  have HL := Lib.hid hl
  clear h hl
  go_enter Tryd.func34, Tryd.ntmps34
  go_wp2
  go_loopw [4] (fun i wr => ∃ k : Nat, 1 ≤ k ∧ k ≤ 5 ∧ i = .int .i64 k ∧ Hid (∀ j, 1 ≤ j → j < k → j ≤ xs.length → tell (xs.take j) = none) ∧ Below w.heap.size w wr) (fun i _ => 5 - (intOf i).toNat)
  case atStart => exact ⟨1, by omega, by omega, rfl, (fun j h1 h2 => by omega), Below.refl _ _⟩
  case round =>
    obtain ⟨k, hk1, hk5, rfl, hno, hb⟩ := hrel
    by_cases h4 : k ≤ 4
    · by_cases hkn : k ≤ n
      · obtain ⟨b, off, hA, hbb, _⟩ := H.out.2.2 (by omega)
        subst hA
        have hT := tells_any (some ⟨b, off, none⟩) k c (xs.take k) wr (((H.out.below hb).more hb.size).take hkn) hk1 h4
        have HT := Lib.hid hT
        clear hT
        have hkc : k ≤ c := by omega
        go_wp2_with fail
        refine HT.out.mono ?_
        rintro e w1 ⟨rfl, b1⟩
        have hb1 := hb.trans (b1.mono hb.size)
        by_cases hs : (tell (xs.take k)).isSome = true
        · have hfl := firstL_at hk1 h4 hno.out hs
          have e1 : raw (xs.take k) = (firstL xs).1 := by rw [hfl]
          have e2 : (k : Int) = ((firstL xs).2 : Int) := by rw [hfl]
          rw [hs]
          have HE := Lib.hid (And.intro e1 e2)
          clear hs hfl e1 e2 hno
          generalize raw (xs.take k) = q at *
          go_wp2
          go_ret2
          exact ⟨by rw [← HE.out.1, ← HE.out.2]; rfl, hb1⟩
        · have hs' : (tell (xs.take k)).isSome = false := by simpa using hs
          have HN : Hid (∀ j, 1 ≤ j → j < k + 1 → j ≤ xs.length → tell (xs.take j) = none) := by
            intro j h1 h2 h3
            by_cases hj : j = k
            · subst hj
              cases ht : tell (xs.take j) with
              | none => rfl
              | some v => rw [ht] at hs'; simp at hs'
            · exact hno.out j h1 (by omega) h3
          rw [hs']
          clear hs hs' hno
          generalize raw (xs.take k) = q at *
          go_wp2
          go_roundw
          case rel => exact ⟨k + 1, by omega, by omega, by go_num, HN.out, hb1⟩
          case measure => simp [intOf]; omega
      · have hfl := firstL_none (l := xs) (fun j h1 h2 h3 => hno.out j h1 (by have := HL.out; omega) h3)
        have HF := Lib.hid hfl
        clear hfl hno
        go_wp2
        all_goals
          go_ret2
          refine ⟨?_, hb⟩
          rw [HF.out, HL.out]
          first | rfl | (simp; done) | (simp; omega)
    · have hfl := firstL_none (l := xs) (fun j h1 h2 h3 => hno.out j h1 (by omega) h3)
      have HF := Lib.hid hfl
      clear hfl hno
      go_wp2
      all_goals
        go_ret2
        refine ⟨?_, hb⟩
        rw [HF.out, HL.out]
        first | rfl | (simp; done) | (simp; omega)

end Go.Proofs.YtincmkjffohekaaDoor
