/-
  No cell of these rows narrows 'for every input' (looked for: loops, veiled, ifaces, maps, wideKeys, modest, calm, conditions, laid).
  DERIVED. THE GIVEN ROWS OF THIS SEAT. 10 by the template 'for every input the law returns true; each argument reads behind the call as it read before'; 0 by the template 'total and deterministic' (their statements: YtincmkjffohekaaTotals.lean).
  GIVEN WITH THE SEED: the statements are not yours to turn. If you find one false, say at which input.
  Laid BY PROGRAM, IN A SANDBOX (cutbox-rows.mjs): the forced cells as the released guide's own fill.sh prints them over the translation 3f17f7e2a4716106… (all of the seat's roots in one cut). By AI agents, Wed Nov 11 2026. No macro, syntax, notation, axiom, sorry.
-/
import Derived.Test.YtincmkjffohekaaChecked
import GoSem.Claim
import GoSem.ClaimJoined
import GoSem.ClaimMapViews
import Derived.JoinedTies
import Derived.KernelRfl
namespace Go.Proofs.Ytincmkjffohekaa
/- THE CELL 'sum', in the pinned program and in every row, IS THE sha256 OF THE DUMP (.gsa) THAT YtincmkjffohekaaProg.lean LOADS. Nothing in Lean hashes anything: it is a label: what it is worth is what the hold of that sum in a sandbox is worth. -/
noncomputable def Try.pinned : Pinned := { name := "ytincmkjffohekaa", sum := "3f17f7e2a4716106e1870ecc4d10f1228f90b37769900adf97b868d34fa407bf", checked := Try.checked }
namespace Rows
def none {H : Type} : Left H := { results := [], args := [] }

/-- 'laws.FnRuneStart': WHATEVER THE INPUT: true; the input reads as it did. -/
def fnRuneStartSpec : ChangeSpec := { name := "fnRuneStart", fn := fun _ => fun
  | [d] => { results := [.lit (.bool true)], args := [d] }
  | _ => none }
def fnRuneStartRow : OpenClaim := { program := "ytincmkjffohekaa", sum := "3f17f7e2a4716106e1870ecc4d10f1228f90b37769900adf97b868d34fa407bf", func := "loop.example/pub-g03431/laws.FnRuneStart", spec := "fnRuneStart", apart := false }
def FnRuneStartSaid : Prop := fnRuneStartRow.holds Try.pinned (OpenSpec.ofChange fnRuneStartSpec)

/-- ITS FALSE NEIGHBOUR: 'it returns false'. Refute it at one input. -/
def fnRuneStartWrong : ChangeSpec := { name := "fnRuneStart", fn := fun _ => fun
  | [d] => { results := [.lit (.bool false)], args := [d] }
  | _ => none }
def FnRuneStartWrongFalsely : Prop := fnRuneStartRow.holds Try.pinned (OpenSpec.ofChange fnRuneStartWrong)

/-- 'laws.FnRuneCountInString': WHATEVER THE INPUT: true; the input reads as it did. -/
def fnRuneCountInStringSpec : ChangeSpec := { name := "fnRuneCountInString", fn := fun _ => fun
  | [d] => { results := [.lit (.bool true)], args := [d] }
  | _ => none }
def fnRuneCountInStringRow : OpenClaim := { program := "ytincmkjffohekaa", sum := "3f17f7e2a4716106e1870ecc4d10f1228f90b37769900adf97b868d34fa407bf", func := "loop.example/pub-g03431/laws.FnRuneCountInString", spec := "fnRuneCountInString", recurses := true, apart := false }
def FnRuneCountInStringSaid : Prop := fnRuneCountInStringRow.holds Try.pinned (OpenSpec.ofChange fnRuneCountInStringSpec)

/-- ITS FALSE NEIGHBOUR: 'it returns false'. Refute it at one input. -/
def fnRuneCountInStringWrong : ChangeSpec := { name := "fnRuneCountInString", fn := fun _ => fun
  | [d] => { results := [.lit (.bool false)], args := [d] }
  | _ => none }
def FnRuneCountInStringWrongFalsely : Prop := fnRuneCountInStringRow.holds Try.pinned (OpenSpec.ofChange fnRuneCountInStringWrong)

/-- 'laws.FnValidRune': WHATEVER THE INPUT: true; the input reads as it did. -/
def fnValidRuneSpec : ChangeSpec := { name := "fnValidRune", fn := fun _ => fun
  | [d] => { results := [.lit (.bool true)], args := [d] }
  | _ => none }
def fnValidRuneRow : OpenClaim := { program := "ytincmkjffohekaa", sum := "3f17f7e2a4716106e1870ecc4d10f1228f90b37769900adf97b868d34fa407bf", func := "loop.example/pub-g03431/laws.FnValidRune", spec := "fnValidRune", apart := false }
def FnValidRuneSaid : Prop := fnValidRuneRow.holds Try.pinned (OpenSpec.ofChange fnValidRuneSpec)

/-- ITS FALSE NEIGHBOUR: 'it returns false'. Refute it at one input. -/
def fnValidRuneWrong : ChangeSpec := { name := "fnValidRune", fn := fun _ => fun
  | [d] => { results := [.lit (.bool false)], args := [d] }
  | _ => none }
def FnValidRuneWrongFalsely : Prop := fnValidRuneRow.holds Try.pinned (OpenSpec.ofChange fnValidRuneWrong)

/-- 'laws.FnRuneLen': WHATEVER THE INPUT: true; the input reads as it did. -/
def fnRuneLenSpec : ChangeSpec := { name := "fnRuneLen", fn := fun _ => fun
  | [d] => { results := [.lit (.bool true)], args := [d] }
  | _ => none }
def fnRuneLenRow : OpenClaim := { program := "ytincmkjffohekaa", sum := "3f17f7e2a4716106e1870ecc4d10f1228f90b37769900adf97b868d34fa407bf", func := "loop.example/pub-g03431/laws.FnRuneLen", spec := "fnRuneLen", apart := false }
def FnRuneLenSaid : Prop := fnRuneLenRow.holds Try.pinned (OpenSpec.ofChange fnRuneLenSpec)

/-- ITS FALSE NEIGHBOUR: 'it returns false'. Refute it at one input. -/
def fnRuneLenWrong : ChangeSpec := { name := "fnRuneLen", fn := fun _ => fun
  | [d] => { results := [.lit (.bool false)], args := [d] }
  | _ => none }
def FnRuneLenWrongFalsely : Prop := fnRuneLenRow.holds Try.pinned (OpenSpec.ofChange fnRuneLenWrong)

/-- 'laws.FnRuneCount': WHATEVER THE INPUT: true; the input reads as it did. -/
def fnRuneCountSpec : ChangeSpec := { name := "fnRuneCount", fn := fun _ => fun
  | [d] => { results := [.lit (.bool true)], args := [d] }
  | _ => none }
def fnRuneCountRow : OpenClaim := { program := "ytincmkjffohekaa", sum := "3f17f7e2a4716106e1870ecc4d10f1228f90b37769900adf97b868d34fa407bf", func := "loop.example/pub-g03431/laws.FnRuneCount", spec := "fnRuneCount", recurses := true, apart := false }
def FnRuneCountSaid : Prop := fnRuneCountRow.holds Try.pinned (OpenSpec.ofChange fnRuneCountSpec)

/-- ITS FALSE NEIGHBOUR: 'it returns false'. Refute it at one input. -/
def fnRuneCountWrong : ChangeSpec := { name := "fnRuneCount", fn := fun _ => fun
  | [d] => { results := [.lit (.bool false)], args := [d] }
  | _ => none }
def FnRuneCountWrongFalsely : Prop := fnRuneCountRow.holds Try.pinned (OpenSpec.ofChange fnRuneCountWrong)

/-- 'laws.FnAppendRune': WHATEVER THE INPUT: true; the input reads as it did. -/
def fnAppendRuneSpec : ChangeSpec := { name := "fnAppendRune", fn := fun _ => fun
  | [d1, d2] => { results := [.lit (.bool true)], args := [d1, d2] }
  | _ => none }
def fnAppendRuneRow : OpenClaim := { program := "ytincmkjffohekaa", sum := "3f17f7e2a4716106e1870ecc4d10f1228f90b37769900adf97b868d34fa407bf", func := "loop.example/pub-g03431/laws.FnAppendRune", spec := "fnAppendRune", recurses := true, apart := false }
def FnAppendRuneSaid : Prop := fnAppendRuneRow.holds Try.pinned (OpenSpec.ofChange fnAppendRuneSpec)

/-- ITS FALSE NEIGHBOUR: 'it returns false'. Refute it at one input. -/
def fnAppendRuneWrong : ChangeSpec := { name := "fnAppendRune", fn := fun _ => fun
  | [d1, d2] => { results := [.lit (.bool false)], args := [d1, d2] }
  | _ => none }
def FnAppendRuneWrongFalsely : Prop := fnAppendRuneRow.holds Try.pinned (OpenSpec.ofChange fnAppendRuneWrong)

/-- 'laws.FnEncodeOrder': WHATEVER THE INPUT: true; the input reads as it did. -/
def fnEncodeOrderSpec : ChangeSpec := { name := "fnEncodeOrder", fn := fun _ => fun
  | [d1, d2] => { results := [.lit (.bool true)], args := [d1, d2] }
  | _ => none }
def fnEncodeOrderRow : OpenClaim := { program := "ytincmkjffohekaa", sum := "3f17f7e2a4716106e1870ecc4d10f1228f90b37769900adf97b868d34fa407bf", func := "loop.example/pub-g03431/laws.FnEncodeOrder", spec := "fnEncodeOrder", apart := false }
def FnEncodeOrderSaid : Prop := fnEncodeOrderRow.holds Try.pinned (OpenSpec.ofChange fnEncodeOrderSpec)

/-- ITS FALSE NEIGHBOUR: 'it returns false'. Refute it at one input. -/
def fnEncodeOrderWrong : ChangeSpec := { name := "fnEncodeOrder", fn := fun _ => fun
  | [d1, d2] => { results := [.lit (.bool false)], args := [d1, d2] }
  | _ => none }
def FnEncodeOrderWrongFalsely : Prop := fnEncodeOrderRow.holds Try.pinned (OpenSpec.ofChange fnEncodeOrderWrong)

/-- 'laws.FnEncodeRune': WHATEVER THE INPUT: true; the input reads as it did. -/
def fnEncodeRuneSpec : ChangeSpec := { name := "fnEncodeRune", fn := fun _ => fun
  | [d] => { results := [.lit (.bool true)], args := [d] }
  | _ => none }
def fnEncodeRuneRow : OpenClaim := { program := "ytincmkjffohekaa", sum := "3f17f7e2a4716106e1870ecc4d10f1228f90b37769900adf97b868d34fa407bf", func := "loop.example/pub-g03431/laws.FnEncodeRune", spec := "fnEncodeRune", recurses := true, apart := false }
def FnEncodeRuneSaid : Prop := fnEncodeRuneRow.holds Try.pinned (OpenSpec.ofChange fnEncodeRuneSpec)

/-- ITS FALSE NEIGHBOUR: 'it returns false'. Refute it at one input. -/
def fnEncodeRuneWrong : ChangeSpec := { name := "fnEncodeRune", fn := fun _ => fun
  | [d] => { results := [.lit (.bool false)], args := [d] }
  | _ => none }
def FnEncodeRuneWrongFalsely : Prop := fnEncodeRuneRow.holds Try.pinned (OpenSpec.ofChange fnEncodeRuneWrong)

/-- 'laws.FnAlike': WHATEVER THE INPUT: true; the input reads as it did. -/
def fnAlikeSpec : ChangeSpec := { name := "fnAlike", fn := fun _ => fun
  | [d] => { results := [.lit (.bool true)], args := [d] }
  | _ => none }
def fnAlikeRow : OpenClaim := { program := "ytincmkjffohekaa", sum := "3f17f7e2a4716106e1870ecc4d10f1228f90b37769900adf97b868d34fa407bf", func := "loop.example/pub-g03431/laws.FnAlike", spec := "fnAlike", apart := false }
def FnAlikeSaid : Prop := fnAlikeRow.holds Try.pinned (OpenSpec.ofChange fnAlikeSpec)

/-- ITS FALSE NEIGHBOUR: 'it returns false'. Refute it at one input. -/
def fnAlikeWrong : ChangeSpec := { name := "fnAlike", fn := fun _ => fun
  | [d] => { results := [.lit (.bool false)], args := [d] }
  | _ => none }
def FnAlikeWrongFalsely : Prop := fnAlikeRow.holds Try.pinned (OpenSpec.ofChange fnAlikeWrong)

/-- 'laws.FnEncodeLens': WHATEVER THE INPUT: true; the input reads as it did. -/
def fnEncodeLensSpec : ChangeSpec := { name := "fnEncodeLens", fn := fun _ => fun
  | [d] => { results := [.lit (.bool true)], args := [d] }
  | _ => none }
def fnEncodeLensRow : OpenClaim := { program := "ytincmkjffohekaa", sum := "3f17f7e2a4716106e1870ecc4d10f1228f90b37769900adf97b868d34fa407bf", func := "loop.example/pub-g03431/laws.FnEncodeLens", spec := "fnEncodeLens", apart := false }
def FnEncodeLensSaid : Prop := fnEncodeLensRow.holds Try.pinned (OpenSpec.ofChange fnEncodeLensSpec)

/-- ITS FALSE NEIGHBOUR: 'it returns false'. Refute it at one input. -/
def fnEncodeLensWrong : ChangeSpec := { name := "fnEncodeLens", fn := fun _ => fun
  | [d] => { results := [.lit (.bool false)], args := [d] }
  | _ => none }
def FnEncodeLensWrongFalsely : Prop := fnEncodeLensRow.holds Try.pinned (OpenSpec.ofChange fnEncodeLensWrong)

/- THE SECOND FORM. 'bulk': how many values and letters a reading holds, each counted each time it is reached (what is shared counts as often as it is met; a slice's spare places count too). A statement '..UptoSaid' is the law's where the arguments, and the package variables that the reading takes, are together of bulk at most 1048576: NARROWER than '..Said'. Prove '..Said' where nothing that the law and all that it calls make is longer than what came in: it says more and counts as full. Else prove '..UptoSaid'. A law counts once. -/
mutual
def uptoBulk {H : Type} : DataW H → Nat
  | .lit (.string bytes) => bytes.length + 1
  | .lit _ => 1
  | .nil => 1
  | .ptr d => uptoBulk d + 1
  | .slice elems spare => uptoBulkAll elems + uptoBulkAll spare + 1
  | .agg parts => uptoBulkAll parts + 1
  | .iface _ d => uptoBulk d + 1
  | .map entries => uptoBulkEntries entries + 1
  | .held _ => 1
def uptoBulkAll {H : Type} : List (DataW H) → Nat
  | [] => 0
  | d :: r => uptoBulk d + uptoBulkAll r
def uptoBulkEntries {H : Type} : List (Lit × DataW H) → Nat
  | [] => 0
  | x :: r => uptoBulkEntry x + uptoBulkEntries r
def uptoBulkEntry {H : Type} : Lit × DataW H → Nat
  | (.string bytes, d) => bytes.length + uptoBulk d + 1
  | (_, d) => uptoBulk d + 1
 end
def uptoSmall : (H : Type) → List (DataW H) → Bool := fun _ ds => decide (uptoBulkAll ds ≤ 1048576)
def OpenSpec.upto (s : _root_.Go.ChangeSpec) : _root_.Go.OpenSpec := { _root_.Go.OpenSpec.ofChange s with cond := some uptoSmall }

/-- 'laws.FnRuneStart', WHERE WHAT IT READS IS OF BULK AT MOST 1048576: true; the input reads as it did. -/
def fnRuneStartUptoRow : OpenClaim := { program := "ytincmkjffohekaa", sum := "3f17f7e2a4716106e1870ecc4d10f1228f90b37769900adf97b868d34fa407bf", func := "loop.example/pub-g03431/laws.FnRuneStart", spec := "fnRuneStart", apart := false, narrowed := true }
def FnRuneStartUptoSaid : Prop := fnRuneStartUptoRow.holds Try.pinned (OpenSpec.upto fnRuneStartSpec)

/-- 'laws.FnRuneCountInString', WHERE WHAT IT READS IS OF BULK AT MOST 1048576: true; the input reads as it did. -/
def fnRuneCountInStringUptoRow : OpenClaim := { program := "ytincmkjffohekaa", sum := "3f17f7e2a4716106e1870ecc4d10f1228f90b37769900adf97b868d34fa407bf", func := "loop.example/pub-g03431/laws.FnRuneCountInString", spec := "fnRuneCountInString", recurses := true, apart := false, narrowed := true }
def FnRuneCountInStringUptoSaid : Prop := fnRuneCountInStringUptoRow.holds Try.pinned (OpenSpec.upto fnRuneCountInStringSpec)

/-- 'laws.FnValidRune', WHERE WHAT IT READS IS OF BULK AT MOST 1048576: true; the input reads as it did. -/
def fnValidRuneUptoRow : OpenClaim := { program := "ytincmkjffohekaa", sum := "3f17f7e2a4716106e1870ecc4d10f1228f90b37769900adf97b868d34fa407bf", func := "loop.example/pub-g03431/laws.FnValidRune", spec := "fnValidRune", apart := false, narrowed := true }
def FnValidRuneUptoSaid : Prop := fnValidRuneUptoRow.holds Try.pinned (OpenSpec.upto fnValidRuneSpec)

/-- 'laws.FnRuneLen', WHERE WHAT IT READS IS OF BULK AT MOST 1048576: true; the input reads as it did. -/
def fnRuneLenUptoRow : OpenClaim := { program := "ytincmkjffohekaa", sum := "3f17f7e2a4716106e1870ecc4d10f1228f90b37769900adf97b868d34fa407bf", func := "loop.example/pub-g03431/laws.FnRuneLen", spec := "fnRuneLen", apart := false, narrowed := true }
def FnRuneLenUptoSaid : Prop := fnRuneLenUptoRow.holds Try.pinned (OpenSpec.upto fnRuneLenSpec)

/-- 'laws.FnRuneCount', WHERE WHAT IT READS IS OF BULK AT MOST 1048576: true; the input reads as it did. -/
def fnRuneCountUptoRow : OpenClaim := { program := "ytincmkjffohekaa", sum := "3f17f7e2a4716106e1870ecc4d10f1228f90b37769900adf97b868d34fa407bf", func := "loop.example/pub-g03431/laws.FnRuneCount", spec := "fnRuneCount", recurses := true, apart := false, narrowed := true }
def FnRuneCountUptoSaid : Prop := fnRuneCountUptoRow.holds Try.pinned (OpenSpec.upto fnRuneCountSpec)

/-- 'laws.FnAppendRune', WHERE WHAT IT READS IS OF BULK AT MOST 1048576: true; the input reads as it did. -/
def fnAppendRuneUptoRow : OpenClaim := { program := "ytincmkjffohekaa", sum := "3f17f7e2a4716106e1870ecc4d10f1228f90b37769900adf97b868d34fa407bf", func := "loop.example/pub-g03431/laws.FnAppendRune", spec := "fnAppendRune", recurses := true, apart := false, narrowed := true }
def FnAppendRuneUptoSaid : Prop := fnAppendRuneUptoRow.holds Try.pinned (OpenSpec.upto fnAppendRuneSpec)

/-- 'laws.FnEncodeOrder', WHERE WHAT IT READS IS OF BULK AT MOST 1048576: true; the input reads as it did. -/
def fnEncodeOrderUptoRow : OpenClaim := { program := "ytincmkjffohekaa", sum := "3f17f7e2a4716106e1870ecc4d10f1228f90b37769900adf97b868d34fa407bf", func := "loop.example/pub-g03431/laws.FnEncodeOrder", spec := "fnEncodeOrder", apart := false, narrowed := true }
def FnEncodeOrderUptoSaid : Prop := fnEncodeOrderUptoRow.holds Try.pinned (OpenSpec.upto fnEncodeOrderSpec)

/-- 'laws.FnEncodeRune', WHERE WHAT IT READS IS OF BULK AT MOST 1048576: true; the input reads as it did. -/
def fnEncodeRuneUptoRow : OpenClaim := { program := "ytincmkjffohekaa", sum := "3f17f7e2a4716106e1870ecc4d10f1228f90b37769900adf97b868d34fa407bf", func := "loop.example/pub-g03431/laws.FnEncodeRune", spec := "fnEncodeRune", recurses := true, apart := false, narrowed := true }
def FnEncodeRuneUptoSaid : Prop := fnEncodeRuneUptoRow.holds Try.pinned (OpenSpec.upto fnEncodeRuneSpec)

/-- 'laws.FnAlike', WHERE WHAT IT READS IS OF BULK AT MOST 1048576: true; the input reads as it did. -/
def fnAlikeUptoRow : OpenClaim := { program := "ytincmkjffohekaa", sum := "3f17f7e2a4716106e1870ecc4d10f1228f90b37769900adf97b868d34fa407bf", func := "loop.example/pub-g03431/laws.FnAlike", spec := "fnAlike", apart := false, narrowed := true }
def FnAlikeUptoSaid : Prop := fnAlikeUptoRow.holds Try.pinned (OpenSpec.upto fnAlikeSpec)

/-- 'laws.FnEncodeLens', WHERE WHAT IT READS IS OF BULK AT MOST 1048576: true; the input reads as it did. -/
def fnEncodeLensUptoRow : OpenClaim := { program := "ytincmkjffohekaa", sum := "3f17f7e2a4716106e1870ecc4d10f1228f90b37769900adf97b868d34fa407bf", func := "loop.example/pub-g03431/laws.FnEncodeLens", spec := "fnEncodeLens", apart := false, narrowed := true }
def FnEncodeLensUptoSaid : Prop := fnEncodeLensUptoRow.holds Try.pinned (OpenSpec.upto fnEncodeLensSpec)

end Rows
end Go.Proofs.Ytincmkjffohekaa
