/-
  Proved here: contracts of goutf8.RuneCount and of impl's two counts. Condition: at most 1000000 bytes.
-/
import Derived.Test.YtincmkjffohekaaDoorCnt
namespace Go.Proofs.YtincmkjffohekaaDoor
open Go.RowKit

theorem first_ascii {a : Int} {t : List Int} (h : a < 128) : firstL (a :: t) = (a, 1) := by
  unfold firstL
  simp [tell_e1, raw, h]
theorem drop_at {xs : List Int} {k : Nat} {x : Int} (hx : xs[k]? = some x) : xs.drop k = x :: xs.drop (k + 1) := by
  obtain ⟨hk, rfl⟩ := List.getElem?_eq_some_iff.1 hx
  exact List.drop_eq_getElem_cons hk
theorem count_ascii {xs : List Int} {k : Nat} {x : Int} (hx : xs[k]? = some x) (h : x < 128) (hi : k + (numbers (xs.drop k)).length = (numbers xs).length) : k + 1 + (numbers (xs.drop (k + 1))).length = (numbers xs).length := by
  have hk := (List.getElem?_eq_some_iff.1 hx).1
  rw [← hi, numbers_cons (l := xs.drop k) (by rw [List.length_drop]; omega)]
  have e : firstL (xs.drop k) = (x, 1) := by rw [drop_at hx]; exact first_ascii h
  rw [e, List.drop_drop, List.length_cons]
  show k + 1 + (numbers (xs.drop (k + 1))).length = k + ((numbers (xs.drop (k + 1))).length + 1)
  omega
theorem strOf_size (xs : List Int) : (strOf xs).size = xs.length := by
  show (xs.map byteOf).toArray.size = _
  simp

theorem implCountString_any (s : ByteArray) (w : World) (hs : s.size ≤ 2147483648) :
    Calls Tryd.prog 32 #[.string s] w fun e w' => e = .returned (.int .i64 ((numbers (bsL s)).length : Int)) ∧ Below w.heap.size w w' := by
  have HC := Lib.hid (countString_any s w hs)
  generalize (numbers (bsL s)).length = q at *
  go_enter Tryd.func32, Tryd.ntmps32
  go_wp2_with fail
  refine HC.out.mono ?_
  rintro e w1 ⟨rfl, b1⟩
  go_wp2
  go_ret
  exact ⟨rfl, b1⟩

set_option maxHeartbeats 1000000 in
theorem count_any (A : Option Addr) (n c : Nat) (xs : List Int) (w : World) (h : IsL w w.heap.size .u8 A n xs) (hcap : n ≤ c) (hn : n ≤ 1000000) :
    Calls Tryd.prog 49 #[.slice A n c] w fun e w' => e = .returned (.int .i64 ((numbers xs).length : Int)) ∧ Below w.heap.size w w' := by
  have H := Lib.hid h
  have HL := Lib.hid h.len
  have HB := Lib.hid h.fit.bytes
  have hnl := numbers_len xs.length xs (Nat.le_refl _)
  rw [h.len] at hnl
  have HNL := Lib.hid hnl
  clear h hnl
  go_enter Tryd.func49, Tryd.ntmps49
  go_wp2
  go_loop [4] (fun i => ∃ k : Nat, k ≤ n ∧ i = .int .i64 k ∧ Hid (k + (numbers (xs.drop k)).length = (numbers xs).length)) (fun i => n - (intOf i).toNat)
  case atStart => exact ⟨0, Nat.zero_le _, rfl, by simp [Hid]⟩
  case round =>
    obtain ⟨k, hk, rfl, hc⟩ := hrel
    by_cases hlt : k < n
    · obtain ⟨b, off, x, hA, hbb, hx, hwf, hcell⟩ := H.out.at_ hlt
      subst hA
      have hkk : (k : Int) < (n : Int) := by omega
      by_cases h8 : x < 128
      · have HN := Lib.hid (count_ascii hx h8 hc.out)
        clear hx hwf hc
        go_wp2
        go_round
        case rel => exact ⟨k + 1, by omega, by go_num, HN.out⟩
        case measure => simp [intOf]; omega
      · have hck : ¬ c = k := by omega
        have hkc : (k : Int) ≤ (c : Int) := by omega
        have hI := H.out.drop hk
        have hconv := run_string_L w 22 9 5 hI (c - k) Tryd.underlying22 Tryd.underlying5 Tryd.underlying9
        have hcl : (numbers (bsL (strOf (xs.drop k)))).length = (numbers (xs.drop k)).length := by rw [bsL_str _ (fun y hy => HB.out y (List.mem_of_mem_drop hy))]
        have HC := Lib.hid (countString_any (strOf (xs.drop k)) w (by rw [strOf_size, List.length_drop, HL.out]; omega))
        rw [hcl] at HC
        have hq1 : (numbers (xs.drop k)).length ≤ 1000000 := by have := hc.out; have := HNL.out; omega
        have HQ : Hid (k + (numbers (xs.drop k)).length = (numbers xs).length) := hc
        clear hx hwf hc hI hcl
        generalize (numbers (xs.drop k)).length = q at *
        go_wp2_with fail
        refine HC.out.mono ?_
        rintro e w1 ⟨rfl, b1⟩
        go_wp2
        go_ret
        exact ⟨ret_int (by rw [← HQ.out]; omega), b1⟩
    · obtain rfl : n = k := by omega
      have he := hc.out
      rw [List.drop_eq_nil_of_le (by rw [HL.out]; omega)] at he
      have HE : Hid (n = (numbers xs).length) := he
      clear hc he
      go_wp2
      go_ret
      exact ⟨ret_int (by rw [← HE.out]), Below.refl _ _⟩

theorem implCount_any (A : Option Addr) (n c : Nat) (xs : List Int) (w : World) (h : IsL w w.heap.size .u8 A n xs) (hn : n ≤ 1000000) :
    Calls Tryd.prog 31 #[.slice A n c] w fun e w' => e = .returned (.int .i64 ((numbers xs).length : Int)) ∧ Below w.heap.size w w' := by
  have hl := h.len
  have hf : FitL .u8 xs := h.fit
  have HC := Lib.hid (clone8_any A n c xs w h (by omega))
  have HA := Lib.hid (fun (w1 : World) (A1 : Option Addr) (c1 : Nat) h1 hc => count_any A1 xs.length c1 xs w1 h1 hc (by omega))
  generalize (numbers xs).length = q at *
  clear h hl
  go_enter Tryd.func31, Tryd.ntmps31
  go_wp2_with fail
  refine HC.out.mono ?_
  rintro e w1 ⟨A1, c1, rfl, h1, b1⟩
  have i1 := OwnsL.isL (e := 5) (k := .u8) h1 hf
  have hc1 : xs.length ≤ c1 := OwnsL.cap (e := 5) (k := .u8) (xs := xs) h1
  clear h1
  go_wp2_with fail
  refine (HA.out w1 A1 c1 i1 hc1).mono ?_
  rintro e w2 ⟨rfl, b2⟩
  go_wp2
  go_ret
  exact ⟨rfl, b1.trans (b2.mono b1.size)⟩

end Go.Proofs.YtincmkjffohekaaDoor
