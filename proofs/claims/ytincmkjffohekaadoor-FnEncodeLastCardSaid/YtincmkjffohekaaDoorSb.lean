/-
  Proved here: what []byte(s) leaves: a slice that reads as the string's bytes, in new memory. No conditions.
-/
import Derived.Test.YtincmkjffohekaaDoorCnt
import Derived.Lib.ConvBytes
namespace Go.Proofs.YtincmkjffohekaaDoor
open Go.RowKit

theorem bytes_isL (w : World) (e : TypeId) (s : ByteArray) : IsL (Lib.bytesWorld w e s) (Lib.bytesWorld w e s).heap.size .u8 (some ⟨w.heap.size, 0, none⟩) s.size (bsL s) := by
  refine ⟨bsL_len s, fun x hx => wf_u8 (bsL_byte s x hx), fun _ => ⟨w.heap.size, 0, rfl, by rw [Lib.bytesWorld_size]; omega, fun j hj => ?_⟩⟩
  rw [Nat.zero_add, Lib.bytesWorld_cell w e s j hj]
  have h' : j < s.data.toList.length := by rw [Array.length_toList]; exact hj
  have h2 := bsL_at s j hj
  simp only [List.getD, h2, Option.getD_some]
  congr 3
  rw [List.getElem?_eq_getElem h']
  rfl
theorem bytes_below (w : World) (e : TypeId) (s : ByteArray) : Below w.heap.size w (Lib.bytesWorld w e s) :=
  ⟨rfl, rfl, rfl, by rw [Lib.bytesWorld_size]; omega, fun k hk => Lib.bytesWorld_at_old w e s k hk⟩

end Go.Proofs.YtincmkjffohekaaDoor
