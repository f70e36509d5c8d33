/-
  No cell of these rows narrows 'for every input' (looked for: loops, veiled, ifaces, maps, wideKeys, modest, calm, conditions, laid).
  DERIVED. THE GIVEN ROWS OF THIS SEAT. 12 by the template 'for every input the law returns true; each argument reads behind the call as it read before'; 0 by the template 'total and deterministic' (their statements: YtkpehilgjckekaaTotals.lean).
  GIVEN WITH THE SEED: the statements are not yours to turn. If you find one false, say at which input.
  Laid BY PROGRAM, IN A SANDBOX (cutbox-rows.mjs): the forced cells as the released guide's own fill.sh prints them over the translation df8994e2932350de… (all of the seat's roots in one cut). By AI agents, Wed Nov 11 2026. No macro, syntax, notation, axiom, sorry.
-/
import Derived.Test.YtkpehilgjckekaaChecked
import GoSem.Claim
import GoSem.ClaimJoined
import GoSem.ClaimMapViews
import Derived.JoinedTies
import Derived.KernelRfl
namespace Go.Proofs.Ytkpehilgjckekaa
/- THE CELL 'sum', in the pinned program and in every row, IS THE sha256 OF THE DUMP (.gsa) THAT YtkpehilgjckekaaProg.lean LOADS. Nothing in Lean hashes anything: it is a label: what it is worth is what the hold of that sum in a sandbox is worth. -/
noncomputable def Try.pinned : Pinned := { name := "ytkpehilgjckekaa", sum := "df8994e2932350de6fa61743d3fbb52744a8c51377c11e2b018dcb6e246a74e4", checked := Try.checked }
namespace Rows
def none {H : Type} : Left H := { results := [], args := [] }

/-- 'laws.FnIsSurrogate': WHATEVER THE INPUT: true; the input reads as it did. -/
def fnIsSurrogateSpec : ChangeSpec := { name := "fnIsSurrogate", fn := fun _ => fun
  | [d] => { results := [.lit (.bool true)], args := [d] }
  | _ => none }
def fnIsSurrogateRow : OpenClaim := { program := "ytkpehilgjckekaa", sum := "df8994e2932350de6fa61743d3fbb52744a8c51377c11e2b018dcb6e246a74e4", func := "loop.example/pub-g03431/laws.FnIsSurrogate", spec := "fnIsSurrogate", apart := false }
def FnIsSurrogateSaid : Prop := fnIsSurrogateRow.holds Try.pinned (OpenSpec.ofChange fnIsSurrogateSpec)

/-- ITS FALSE NEIGHBOUR: 'it returns false'. Refute it at one input. -/
def fnIsSurrogateWrong : ChangeSpec := { name := "fnIsSurrogate", fn := fun _ => fun
  | [d] => { results := [.lit (.bool false)], args := [d] }
  | _ => none }
def FnIsSurrogateWrongFalsely : Prop := fnIsSurrogateRow.holds Try.pinned (OpenSpec.ofChange fnIsSurrogateWrong)

/-- 'laws.FnJoined': WHATEVER THE INPUT: true; the input reads as it did. -/
def fnJoinedSpec : ChangeSpec := { name := "fnJoined", fn := fun _ => fun
  | [d1, d2] => { results := [.lit (.bool true)], args := [d1, d2] }
  | _ => none }
def fnJoinedRow : OpenClaim := { program := "ytkpehilgjckekaa", sum := "df8994e2932350de6fa61743d3fbb52744a8c51377c11e2b018dcb6e246a74e4", func := "loop.example/pub-g03431/laws.FnJoined", spec := "fnJoined", apart := false }
def FnJoinedSaid : Prop := fnJoinedRow.holds Try.pinned (OpenSpec.ofChange fnJoinedSpec)

/-- ITS FALSE NEIGHBOUR: 'it returns false'. Refute it at one input. -/
def fnJoinedWrong : ChangeSpec := { name := "fnJoined", fn := fun _ => fun
  | [d1, d2] => { results := [.lit (.bool false)], args := [d1, d2] }
  | _ => none }
def FnJoinedWrongFalsely : Prop := fnJoinedRow.holds Try.pinned (OpenSpec.ofChange fnJoinedWrong)

/-- 'laws.FnPair': WHATEVER THE INPUT: true; the input reads as it did. -/
def fnPairSpec : ChangeSpec := { name := "fnPair", fn := fun _ => fun
  | [d] => { results := [.lit (.bool true)], args := [d] }
  | _ => none }
def fnPairRow : OpenClaim := { program := "ytkpehilgjckekaa", sum := "df8994e2932350de6fa61743d3fbb52744a8c51377c11e2b018dcb6e246a74e4", func := "loop.example/pub-g03431/laws.FnPair", spec := "fnPair", apart := false }
def FnPairSaid : Prop := fnPairRow.holds Try.pinned (OpenSpec.ofChange fnPairSpec)

/-- ITS FALSE NEIGHBOUR: 'it returns false'. Refute it at one input. -/
def fnPairWrong : ChangeSpec := { name := "fnPair", fn := fun _ => fun
  | [d] => { results := [.lit (.bool false)], args := [d] }
  | _ => none }
def FnPairWrongFalsely : Prop := fnPairRow.holds Try.pinned (OpenSpec.ofChange fnPairWrong)

/-- 'laws.FnLen16': WHATEVER THE INPUT: true; the input reads as it did. -/
def fnLen16Spec : ChangeSpec := { name := "fnLen16", fn := fun _ => fun
  | [d] => { results := [.lit (.bool true)], args := [d] }
  | _ => none }
def fnLen16Row : OpenClaim := { program := "ytkpehilgjckekaa", sum := "df8994e2932350de6fa61743d3fbb52744a8c51377c11e2b018dcb6e246a74e4", func := "loop.example/pub-g03431/laws.FnLen16", spec := "fnLen16", apart := false }
def FnLen16Said : Prop := fnLen16Row.holds Try.pinned (OpenSpec.ofChange fnLen16Spec)

/-- ITS FALSE NEIGHBOUR: 'it returns false'. Refute it at one input. -/
def fnLen16Wrong : ChangeSpec := { name := "fnLen16", fn := fun _ => fun
  | [d] => { results := [.lit (.bool false)], args := [d] }
  | _ => none }
def FnLen16WrongFalsely : Prop := fnLen16Row.holds Try.pinned (OpenSpec.ofChange fnLen16Wrong)

/-- 'laws.FnPairBack': WHATEVER THE INPUT: true; the input reads as it did. -/
def fnPairBackSpec : ChangeSpec := { name := "fnPairBack", fn := fun _ => fun
  | [d] => { results := [.lit (.bool true)], args := [d] }
  | _ => none }
def fnPairBackRow : OpenClaim := { program := "ytkpehilgjckekaa", sum := "df8994e2932350de6fa61743d3fbb52744a8c51377c11e2b018dcb6e246a74e4", func := "loop.example/pub-g03431/laws.FnPairBack", spec := "fnPairBack", apart := false }
def FnPairBackSaid : Prop := fnPairBackRow.holds Try.pinned (OpenSpec.ofChange fnPairBackSpec)

/-- ITS FALSE NEIGHBOUR: 'it returns false'. Refute it at one input. -/
def fnPairBackWrong : ChangeSpec := { name := "fnPairBack", fn := fun _ => fun
  | [d] => { results := [.lit (.bool false)], args := [d] }
  | _ => none }
def FnPairBackWrongFalsely : Prop := fnPairBackRow.holds Try.pinned (OpenSpec.ofChange fnPairBackWrong)

/-- 'laws.FnAppend16': WHATEVER THE INPUT: true; the input reads as it did. -/
def fnAppend16Spec : ChangeSpec := { name := "fnAppend16", fn := fun _ => fun
  | [d1, d2] => { results := [.lit (.bool true)], args := [d1, d2] }
  | _ => none }
def fnAppend16Row : OpenClaim := { program := "ytkpehilgjckekaa", sum := "df8994e2932350de6fa61743d3fbb52744a8c51377c11e2b018dcb6e246a74e4", func := "loop.example/pub-g03431/laws.FnAppend16", spec := "fnAppend16", apart := false }
def FnAppend16Said : Prop := fnAppend16Row.holds Try.pinned (OpenSpec.ofChange fnAppend16Spec)

/-- ITS FALSE NEIGHBOUR: 'it returns false'. Refute it at one input. -/
def fnAppend16Wrong : ChangeSpec := { name := "fnAppend16", fn := fun _ => fun
  | [d1, d2] => { results := [.lit (.bool false)], args := [d1, d2] }
  | _ => none }
def FnAppend16WrongFalsely : Prop := fnAppend16Row.holds Try.pinned (OpenSpec.ofChange fnAppend16Wrong)

/-- 'laws.FnDecode': WHATEVER THE INPUT: true; the input reads as it did. -/
def fnDecodeSpec : ChangeSpec := { name := "fnDecode", fn := fun _ => fun
  | [d] => { results := [.lit (.bool true)], args := [d] }
  | _ => none }
def fnDecodeRow : OpenClaim := { program := "ytkpehilgjckekaa", sum := "df8994e2932350de6fa61743d3fbb52744a8c51377c11e2b018dcb6e246a74e4", func := "loop.example/pub-g03431/laws.FnDecode", spec := "fnDecode", apart := false }
def FnDecodeSaid : Prop := fnDecodeRow.holds Try.pinned (OpenSpec.ofChange fnDecodeSpec)

/-- ITS FALSE NEIGHBOUR: 'it returns false'. Refute it at one input. -/
def fnDecodeWrong : ChangeSpec := { name := "fnDecode", fn := fun _ => fun
  | [d] => { results := [.lit (.bool false)], args := [d] }
  | _ => none }
def FnDecodeWrongFalsely : Prop := fnDecodeRow.holds Try.pinned (OpenSpec.ofChange fnDecodeWrong)

/-- 'laws.FnEncode': WHATEVER THE INPUT: true; the input reads as it did. -/
def fnEncodeSpec : ChangeSpec := { name := "fnEncode", fn := fun _ => fun
  | [d] => { results := [.lit (.bool true)], args := [d] }
  | _ => none }
def fnEncodeRow : OpenClaim := { program := "ytkpehilgjckekaa", sum := "df8994e2932350de6fa61743d3fbb52744a8c51377c11e2b018dcb6e246a74e4", func := "loop.example/pub-g03431/laws.FnEncode", spec := "fnEncode", apart := false }
def FnEncodeSaid : Prop := fnEncodeRow.holds Try.pinned (OpenSpec.ofChange fnEncodeSpec)

/-- ITS FALSE NEIGHBOUR: 'it returns false'. Refute it at one input. -/
def fnEncodeWrong : ChangeSpec := { name := "fnEncode", fn := fun _ => fun
  | [d] => { results := [.lit (.bool false)], args := [d] }
  | _ => none }
def FnEncodeWrongFalsely : Prop := fnEncodeRow.holds Try.pinned (OpenSpec.ofChange fnEncodeWrong)

/-- 'laws.FnLens16': WHATEVER THE INPUT: true; the input reads as it did. -/
def fnLens16Spec : ChangeSpec := { name := "fnLens16", fn := fun _ => fun
  | [d] => { results := [.lit (.bool true)], args := [d] }
  | _ => none }
def fnLens16Row : OpenClaim := { program := "ytkpehilgjckekaa", sum := "df8994e2932350de6fa61743d3fbb52744a8c51377c11e2b018dcb6e246a74e4", func := "loop.example/pub-g03431/laws.FnLens16", spec := "fnLens16", apart := false }
def FnLens16Said : Prop := fnLens16Row.holds Try.pinned (OpenSpec.ofChange fnLens16Spec)

/-- ITS FALSE NEIGHBOUR: 'it returns false'. Refute it at one input. -/
def fnLens16Wrong : ChangeSpec := { name := "fnLens16", fn := fun _ => fun
  | [d] => { results := [.lit (.bool false)], args := [d] }
  | _ => none }
def FnLens16WrongFalsely : Prop := fnLens16Row.holds Try.pinned (OpenSpec.ofChange fnLens16Wrong)

/-- 'laws.FnAppends': WHATEVER THE INPUT: true; the input reads as it did. -/
def fnAppendsSpec : ChangeSpec := { name := "fnAppends", fn := fun _ => fun
  | [d] => { results := [.lit (.bool true)], args := [d] }
  | _ => none }
def fnAppendsRow : OpenClaim := { program := "ytkpehilgjckekaa", sum := "df8994e2932350de6fa61743d3fbb52744a8c51377c11e2b018dcb6e246a74e4", func := "loop.example/pub-g03431/laws.FnAppends", spec := "fnAppends", apart := false }
def FnAppendsSaid : Prop := fnAppendsRow.holds Try.pinned (OpenSpec.ofChange fnAppendsSpec)

/-- ITS FALSE NEIGHBOUR: 'it returns false'. Refute it at one input. -/
def fnAppendsWrong : ChangeSpec := { name := "fnAppends", fn := fun _ => fun
  | [d] => { results := [.lit (.bool false)], args := [d] }
  | _ => none }
def FnAppendsWrongFalsely : Prop := fnAppendsRow.holds Try.pinned (OpenSpec.ofChange fnAppendsWrong)

/-- 'laws.FnDecodeEncoded': WHATEVER THE INPUT: true; the input reads as it did. -/
def fnDecodeEncodedSpec : ChangeSpec := { name := "fnDecodeEncoded", fn := fun _ => fun
  | [d] => { results := [.lit (.bool true)], args := [d] }
  | _ => none }
def fnDecodeEncodedRow : OpenClaim := { program := "ytkpehilgjckekaa", sum := "df8994e2932350de6fa61743d3fbb52744a8c51377c11e2b018dcb6e246a74e4", func := "loop.example/pub-g03431/laws.FnDecodeEncoded", spec := "fnDecodeEncoded", apart := false }
def FnDecodeEncodedSaid : Prop := fnDecodeEncodedRow.holds Try.pinned (OpenSpec.ofChange fnDecodeEncodedSpec)

/-- ITS FALSE NEIGHBOUR: 'it returns false'. Refute it at one input. -/
def fnDecodeEncodedWrong : ChangeSpec := { name := "fnDecodeEncoded", fn := fun _ => fun
  | [d] => { results := [.lit (.bool false)], args := [d] }
  | _ => none }
def FnDecodeEncodedWrongFalsely : Prop := fnDecodeEncodedRow.holds Try.pinned (OpenSpec.ofChange fnDecodeEncodedWrong)

/-- 'laws.FnEncodeDecoded': WHATEVER THE INPUT: true; the input reads as it did. -/
def fnEncodeDecodedSpec : ChangeSpec := { name := "fnEncodeDecoded", fn := fun _ => fun
  | [d] => { results := [.lit (.bool true)], args := [d] }
  | _ => none }
def fnEncodeDecodedRow : OpenClaim := { program := "ytkpehilgjckekaa", sum := "df8994e2932350de6fa61743d3fbb52744a8c51377c11e2b018dcb6e246a74e4", func := "loop.example/pub-g03431/laws.FnEncodeDecoded", spec := "fnEncodeDecoded", apart := false }
def FnEncodeDecodedSaid : Prop := fnEncodeDecodedRow.holds Try.pinned (OpenSpec.ofChange fnEncodeDecodedSpec)

/-- ITS FALSE NEIGHBOUR: 'it returns false'. Refute it at one input. -/
def fnEncodeDecodedWrong : ChangeSpec := { name := "fnEncodeDecoded", fn := fun _ => fun
  | [d] => { results := [.lit (.bool false)], args := [d] }
  | _ => none }
def FnEncodeDecodedWrongFalsely : Prop := fnEncodeDecodedRow.holds Try.pinned (OpenSpec.ofChange fnEncodeDecodedWrong)

/- THE SECOND FORM. 'bulk': how many values and letters a reading holds, each counted each time it is reached (what is shared counts as often as it is met; a slice's spare places count too). A statement '..UptoSaid' is the law's where the arguments, and the package variables that the reading takes, are together of bulk at most 1048576: NARROWER than '..Said'. Prove '..Said' where nothing that the law and all that it calls make is longer than what came in: it says more and counts as full. Else prove '..UptoSaid'. A law counts once. -/
mutual
def uptoBulk {H : Type} : DataW H → Nat
  | .lit (.string bytes) => bytes.length + 1
  | .lit _ => 1
  | .nil => 1
  | .ptr d => uptoBulk d + 1
  | .slice elems spare => uptoBulkAll elems + uptoBulkAll spare + 1
  | .agg parts => uptoBulkAll parts + 1
  | .iface _ d => uptoBulk d + 1
  | .map entries => uptoBulkEntries entries + 1
  | .held _ => 1
def uptoBulkAll {H : Type} : List (DataW H) → Nat
  | [] => 0
  | d :: r => uptoBulk d + uptoBulkAll r
def uptoBulkEntries {H : Type} : List (Lit × DataW H) → Nat
  | [] => 0
  | x :: r => uptoBulkEntry x + uptoBulkEntries r
def uptoBulkEntry {H : Type} : Lit × DataW H → Nat
  | (.string bytes, d) => bytes.length + uptoBulk d + 1
  | (_, d) => uptoBulk d + 1
 end
def uptoSmall : (H : Type) → List (DataW H) → Bool := fun _ ds => decide (uptoBulkAll ds ≤ 1048576)
def OpenSpec.upto (s : _root_.Go.ChangeSpec) : _root_.Go.OpenSpec := { _root_.Go.OpenSpec.ofChange s with cond := some uptoSmall }

/-- 'laws.FnIsSurrogate', WHERE WHAT IT READS IS OF BULK AT MOST 1048576: true; the input reads as it did. -/
def fnIsSurrogateUptoRow : OpenClaim := { program := "ytkpehilgjckekaa", sum := "df8994e2932350de6fa61743d3fbb52744a8c51377c11e2b018dcb6e246a74e4", func := "loop.example/pub-g03431/laws.FnIsSurrogate", spec := "fnIsSurrogate", apart := false, narrowed := true }
def FnIsSurrogateUptoSaid : Prop := fnIsSurrogateUptoRow.holds Try.pinned (OpenSpec.upto fnIsSurrogateSpec)

/-- 'laws.FnJoined', WHERE WHAT IT READS IS OF BULK AT MOST 1048576: true; the input reads as it did. -/
def fnJoinedUptoRow : OpenClaim := { program := "ytkpehilgjckekaa", sum := "df8994e2932350de6fa61743d3fbb52744a8c51377c11e2b018dcb6e246a74e4", func := "loop.example/pub-g03431/laws.FnJoined", spec := "fnJoined", apart := false, narrowed := true }
def FnJoinedUptoSaid : Prop := fnJoinedUptoRow.holds Try.pinned (OpenSpec.upto fnJoinedSpec)

/-- 'laws.FnPair', WHERE WHAT IT READS IS OF BULK AT MOST 1048576: true; the input reads as it did. -/
def fnPairUptoRow : OpenClaim := { program := "ytkpehilgjckekaa", sum := "df8994e2932350de6fa61743d3fbb52744a8c51377c11e2b018dcb6e246a74e4", func := "loop.example/pub-g03431/laws.FnPair", spec := "fnPair", apart := false, narrowed := true }
def FnPairUptoSaid : Prop := fnPairUptoRow.holds Try.pinned (OpenSpec.upto fnPairSpec)

/-- 'laws.FnLen16', WHERE WHAT IT READS IS OF BULK AT MOST 1048576: true; the input reads as it did. -/
def fnLen16UptoRow : OpenClaim := { program := "ytkpehilgjckekaa", sum := "df8994e2932350de6fa61743d3fbb52744a8c51377c11e2b018dcb6e246a74e4", func := "loop.example/pub-g03431/laws.FnLen16", spec := "fnLen16", apart := false, narrowed := true }
def FnLen16UptoSaid : Prop := fnLen16UptoRow.holds Try.pinned (OpenSpec.upto fnLen16Spec)

/-- 'laws.FnPairBack', WHERE WHAT IT READS IS OF BULK AT MOST 1048576: true; the input reads as it did. -/
def fnPairBackUptoRow : OpenClaim := { program := "ytkpehilgjckekaa", sum := "df8994e2932350de6fa61743d3fbb52744a8c51377c11e2b018dcb6e246a74e4", func := "loop.example/pub-g03431/laws.FnPairBack", spec := "fnPairBack", apart := false, narrowed := true }
def FnPairBackUptoSaid : Prop := fnPairBackUptoRow.holds Try.pinned (OpenSpec.upto fnPairBackSpec)

/-- 'laws.FnAppend16', WHERE WHAT IT READS IS OF BULK AT MOST 1048576: true; the input reads as it did. -/
def fnAppend16UptoRow : OpenClaim := { program := "ytkpehilgjckekaa", sum := "df8994e2932350de6fa61743d3fbb52744a8c51377c11e2b018dcb6e246a74e4", func := "loop.example/pub-g03431/laws.FnAppend16", spec := "fnAppend16", apart := false, narrowed := true }
def FnAppend16UptoSaid : Prop := fnAppend16UptoRow.holds Try.pinned (OpenSpec.upto fnAppend16Spec)

/-- 'laws.FnDecode', WHERE WHAT IT READS IS OF BULK AT MOST 1048576: true; the input reads as it did. -/
def fnDecodeUptoRow : OpenClaim := { program := "ytkpehilgjckekaa", sum := "df8994e2932350de6fa61743d3fbb52744a8c51377c11e2b018dcb6e246a74e4", func := "loop.example/pub-g03431/laws.FnDecode", spec := "fnDecode", apart := false, narrowed := true }
def FnDecodeUptoSaid : Prop := fnDecodeUptoRow.holds Try.pinned (OpenSpec.upto fnDecodeSpec)

/-- 'laws.FnEncode', WHERE WHAT IT READS IS OF BULK AT MOST 1048576: true; the input reads as it did. -/
def fnEncodeUptoRow : OpenClaim := { program := "ytkpehilgjckekaa", sum := "df8994e2932350de6fa61743d3fbb52744a8c51377c11e2b018dcb6e246a74e4", func := "loop.example/pub-g03431/laws.FnEncode", spec := "fnEncode", apart := false, narrowed := true }
def FnEncodeUptoSaid : Prop := fnEncodeUptoRow.holds Try.pinned (OpenSpec.upto fnEncodeSpec)

/-- 'laws.FnLens16', WHERE WHAT IT READS IS OF BULK AT MOST 1048576: true; the input reads as it did. -/
def fnLens16UptoRow : OpenClaim := { program := "ytkpehilgjckekaa", sum := "df8994e2932350de6fa61743d3fbb52744a8c51377c11e2b018dcb6e246a74e4", func := "loop.example/pub-g03431/laws.FnLens16", spec := "fnLens16", apart := false, narrowed := true }
def FnLens16UptoSaid : Prop := fnLens16UptoRow.holds Try.pinned (OpenSpec.upto fnLens16Spec)

/-- 'laws.FnAppends', WHERE WHAT IT READS IS OF BULK AT MOST 1048576: true; the input reads as it did. -/
def fnAppendsUptoRow : OpenClaim := { program := "ytkpehilgjckekaa", sum := "df8994e2932350de6fa61743d3fbb52744a8c51377c11e2b018dcb6e246a74e4", func := "loop.example/pub-g03431/laws.FnAppends", spec := "fnAppends", apart := false, narrowed := true }
def FnAppendsUptoSaid : Prop := fnAppendsUptoRow.holds Try.pinned (OpenSpec.upto fnAppendsSpec)

/-- 'laws.FnDecodeEncoded', WHERE WHAT IT READS IS OF BULK AT MOST 1048576: true; the input reads as it did. -/
def fnDecodeEncodedUptoRow : OpenClaim := { program := "ytkpehilgjckekaa", sum := "df8994e2932350de6fa61743d3fbb52744a8c51377c11e2b018dcb6e246a74e4", func := "loop.example/pub-g03431/laws.FnDecodeEncoded", spec := "fnDecodeEncoded", apart := false, narrowed := true }
def FnDecodeEncodedUptoSaid : Prop := fnDecodeEncodedUptoRow.holds Try.pinned (OpenSpec.upto fnDecodeEncodedSpec)

/-- 'laws.FnEncodeDecoded', WHERE WHAT IT READS IS OF BULK AT MOST 1048576: true; the input reads as it did. -/
def fnEncodeDecodedUptoRow : OpenClaim := { program := "ytkpehilgjckekaa", sum := "df8994e2932350de6fa61743d3fbb52744a8c51377c11e2b018dcb6e246a74e4", func := "loop.example/pub-g03431/laws.FnEncodeDecoded", spec := "fnEncodeDecoded", apart := false, narrowed := true }
def FnEncodeDecodedUptoSaid : Prop := fnEncodeDecodedUptoRow.holds Try.pinned (OpenSpec.upto fnEncodeDecodedSpec)

end Rows
end Go.Proofs.Ytkpehilgjckekaa
