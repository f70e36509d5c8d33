/-
  Proved here: three closed facts that every row of the seat asks of the program's head (it enters, it lifts nothing, it is cut), and its sum. No conditions.
-/
import Derived.Test.YtincmkjffohekaaDoorRows
import Derived.Test.YtincmkjffohekaaDoorCards
import Derived.JoinedOf
namespace Go.Proofs.YtincmkjffohekaaDoor
open Go.ChangeShapes Go.WideShapes

def harnessWord : List Char := [Char.ofNat 104, Char.ofNat 97, Char.ofNat 114, Char.ofNat 110, Char.ofNat 101, Char.ofNat 115, Char.ofNat 115]
def cutWord : List Char := [Char.ofNat 99, Char.ofNat 117, Char.ofNat 116]
/-- What is asked of the head's signs and of the sum's: the first words, and that no lift stands among the others. -/
def Told (l s : List Char) : Prop :=
  wordsSigns l = harnessWord :: s :: cutWord :: (wordsSigns l).drop 3 ∧ behindMainWord (wordsSigns l) = cutWord :: (wordsSigns l).drop 3 ∧
  stripLifts liftWords (cutWord :: (wordsSigns l).drop 3) = ([], cutWord :: (wordsSigns l).drop 3) ∧ isSumSigns s = true
/-- The signs of a string are those that it is made of: the unifier finds them, and no string is taken apart by reckoning. -/
theorem told_of {a b : String} {l s : List Char} (ha : a = String.ofList l) (hb : b = String.ofList s) (h : Told l s) : Told a.toList b.toList := by
  rw [ha, hb, String.toList_ofList, String.toList_ofList]; exact h
def headSum : String := Rows.fnWalkCard.stood.harness.2
set_option maxRecDepth 100000 in
theorem head_told : Told Tryd.prog.initOrder.toList headSum.toList :=
  told_of rfl rfl ⟨by kernel_rfl, by kernel_rfl, by kernel_rfl, by kernel_rfl⟩
theorem enter_of {P : Program} {rest : List (List Char)} (h : behindMainWord (wordsSigns P.initOrder.toList) = cutWord :: rest) (hs : stripLifts liftWords (cutWord :: rest) = ([], cutWord :: rest))
    (hl : P.laysLater = false) (hr : P.bearsReflect = false) (hd : P.doorFits [] = true) : P.mayEnter = true := by
  unfold Program.mayEnter
  rw [h]
  unfold cutWord at hs ⊢
  simp only [hs, hl, hr, hd]
  simp
theorem lifts_of {P : Program} {rest : List (List Char)} (h : behindMainWord (wordsSigns P.initOrder.toList) = cutWord :: rest) (hs : stripLifts liftWords (cutWord :: rest) = ([], cutWord :: rest)) : P.liftsFinal = false := by
  unfold Program.liftsFinal Program.headLifts
  rw [h, hs]
  unfold cutWord
  simp
theorem make_of {P : Program} {rest : List (List Char)} (h : behindMainWord (wordsSigns P.initOrder.toList) = cutWord :: rest) : P.make = some .cut := by
  unfold Program.make
  rw [h]
  unfold cutWord
  simp
theorem main_of {P : Program} {s : List Char} {rest : List (List Char)} (h : wordsSigns P.initOrder.toList = harnessWord :: s :: rest) (hs : isSumSigns s = true) : P.mainIs = some (true, s) := by
  unfold Program.mainIs
  rw [h]
  unfold harnessWord
  simp [hs]
theorem head_later : Tryd.prog.laysLater = false := by kernel_rfl
theorem head_reflect : Tryd.prog.bearsReflect = false := by kernel_rfl
theorem head_door : Tryd.prog.doorFits [] = true := by kernel_rfl
theorem head_enter : Tryd.prog.mayEnter = true := enter_of head_told.2.1 head_told.2.2.1 head_later head_reflect head_door
theorem head_lifts : Tryd.prog.liftsFinal = false := lifts_of head_told.2.1 head_told.2.2.1
theorem head_make : Tryd.prog.make = some .cut := make_of head_told.2.1
theorem head_main : Tryd.prog.mainIs = some (true, headSum.toList) := main_of head_told.1 head_told.2.2.2

end Go.Proofs.YtincmkjffohekaaDoor
