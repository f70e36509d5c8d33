/-
  NARROWER THAN 'FOR EVERY INPUT', by the rows' own cells (each row's printed sentence says how): FnWalkBack: laid · FnEncodeBack: laid · FnFullRuneInString: laid · FnStrings: laid · FnFullRune: laid · FnDecodeRuneInString: laid · FnValidString: laid · FnDecodeRune: laid · FnValid: laid · FnDecodeLastRuneInString: laid · FnJoin: laid · FnDecodeLastRune: laid · FnReencode: laid · FnCutShort: laid · FnEncodeLast: laid · FnWalk: laid.
  DERIVED. THE GIVEN ROWS OF THIS SEAT. 16 by the template 'for every input the law returns true; each argument reads behind the call as it read before'; 0 by the template 'total and deterministic' (their statements: YtincmkjffohekaaDoorTotals.lean).
  GIVEN WITH THE SEED: the statements are not yours to turn. If you find one false, say at which input.
  Laid BY PROGRAM, IN A SANDBOX (cutbox-rows.mjs): the forced cells as the released guide's own fill.sh prints them over the translation 4bebfc5436b3465d… (all of the seat's roots in one cut). By AI agents, Wed Nov 11 2026. No macro, syntax, notation, axiom, sorry.
-/
import Derived.Test.YtincmkjffohekaaDoorChecked
import GoSem.Claim
import GoSem.ClaimJoined
import GoSem.ClaimMapViews
import Derived.JoinedTies
import Derived.KernelRfl
namespace Go.Proofs.YtincmkjffohekaaDoor
/- THE CELL 'sum', in the pinned program and in every row, IS THE sha256 OF THE DUMP (.gsa) THAT YtincmkjffohekaaDoorProg.lean LOADS. Nothing in Lean hashes anything: it is a label: what it is worth is what the hold of that sum in a sandbox is worth. -/
noncomputable def Tryd.pinned : Pinned := { name := "ytincmkjffohekaadoor", sum := "4bebfc5436b3465d960fdcb95659d330d06e174e5b05304cbd5bb982395329df", checked := Tryd.checked }
namespace Rows
def none {H : Type} : Left H := { results := [], args := [] }

/- WHAT THE LISTED PACKAGE-LEVEL VARIABLES READ AS WHEN THE CALL BEGINS. Each datum BY PROGRAM (the guide's laid-datum.mjs) off the statement by which the dump's own 'gosem.cut.vars' lays the variable. In a bare row this is a premise. The card (YtincmkjffohekaaDoorCards.lean) ties it to the program's text. -/
def laid_loop_example_pub_g03431_pub_goutf8_first {H : Type} : DataW H := .agg [.lit (.int .u8 240), .lit (.int .u8 240), .lit (.int .u8 240), .lit (.int .u8 240), .lit (.int .u8 240), .lit (.int .u8 240), .lit (.int .u8 240), .lit (.int .u8 240), .lit (.int .u8 240), .lit (.int .u8 240), .lit (.int .u8 240), .lit (.int .u8 240), .lit (.int .u8 240), .lit (.int .u8 240), .lit (.int .u8 240), .lit (.int .u8 240), .lit (.int .u8 240), .lit (.int .u8 240), .lit (.int .u8 240), .lit (.int .u8 240), .lit (.int .u8 240), .lit (.int .u8 240), .lit (.int .u8 240), .lit (.int .u8 240), .lit (.int .u8 240), .lit (.int .u8 240), .lit (.int .u8 240), .lit (.int .u8 240), .lit (.int .u8 240), .lit (.int .u8 240), .lit (.int .u8 240), .lit (.int .u8 240), .lit (.int .u8 240), .lit (.int .u8 240), .lit (.int .u8 240), .lit (.int .u8 240), .lit (.int .u8 240), .lit (.int .u8 240), .lit (.int .u8 240), .lit (.int .u8 240), .lit (.int .u8 240), .lit (.int .u8 240), .lit (.int .u8 240), .lit (.int .u8 240), .lit (.int .u8 240), .lit (.int .u8 240), .lit (.int .u8 240), .lit (.int .u8 240), .lit (.int .u8 240), .lit (.int .u8 240), .lit (.int .u8 240), .lit (.int .u8 240), .lit (.int .u8 240), .lit (.int .u8 240), .lit (.int .u8 240), .lit (.int .u8 240), .lit (.int .u8 240), .lit (.int .u8 240), .lit (.int .u8 240), .lit (.int .u8 240), .lit (.int .u8 240), .lit (.int .u8 240), .lit (.int .u8 240), .lit (.int .u8 240), .lit (.int .u8 240), .lit (.int .u8 240), .lit (.int .u8 240), .lit (.int .u8 240), .lit (.int .u8 240), .lit (.int .u8 240), .lit (.int .u8 240), .lit (.int .u8 240), .lit (.int .u8 240), .lit (.int .u8 240), .lit (.int .u8 240), .lit (.int .u8 240), .lit (.int .u8 240), .lit (.int .u8 240), .lit (.int .u8 240), .lit (.int .u8 240), .lit (.int .u8 240), .lit (.int .u8 240), .lit (.int .u8 240), .lit (.int .u8 240), .lit (.int .u8 240), .lit (.int .u8 240), .lit (.int .u8 240), .lit (.int .u8 240), .lit (.int .u8 240), .lit (.int .u8 240), .lit (.int .u8 240), .lit (.int .u8 240), .lit (.int .u8 240), .lit (.int .u8 240), .lit (.int .u8 240), .lit (.int .u8 240), .lit (.int .u8 240), .lit (.int .u8 240), .lit (.int .u8 240), .lit (.int .u8 240), .lit (.int .u8 240), .lit (.int .u8 240), .lit (.int .u8 240), .lit (.int .u8 240), .lit (.int .u8 240), .lit (.int .u8 240), .lit (.int .u8 240), .lit (.int .u8 240), .lit (.int .u8 240), .lit (.int .u8 240), .lit (.int .u8 240), .lit (.int .u8 240), .lit (.int .u8 240), .lit (.int .u8 240), .lit (.int .u8 240), .lit (.int .u8 240), .lit (.int .u8 240), .lit (.int .u8 240), .lit (.int .u8 240), .lit (.int .u8 240), .lit (.int .u8 240), .lit (.int .u8 240), .lit (.int .u8 240), .lit (.int .u8 240), .lit (.int .u8 240), .lit (.int .u8 240), .lit (.int .u8 240), .lit (.int .u8 240), .lit (.int .u8 241), .lit (.int .u8 241), .lit (.int .u8 241), .lit (.int .u8 241), .lit (.int .u8 241), .lit (.int .u8 241), .lit (.int .u8 241), .lit (.int .u8 241), .lit (.int .u8 241), .lit (.int .u8 241), .lit (.int .u8 241), .lit (.int .u8 241), .lit (.int .u8 241), .lit (.int .u8 241), .lit (.int .u8 241), .lit (.int .u8 241), .lit (.int .u8 241), .lit (.int .u8 241), .lit (.int .u8 241), .lit (.int .u8 241), .lit (.int .u8 241), .lit (.int .u8 241), .lit (.int .u8 241), .lit (.int .u8 241), .lit (.int .u8 241), .lit (.int .u8 241), .lit (.int .u8 241), .lit (.int .u8 241), .lit (.int .u8 241), .lit (.int .u8 241), .lit (.int .u8 241), .lit (.int .u8 241), .lit (.int .u8 241), .lit (.int .u8 241), .lit (.int .u8 241), .lit (.int .u8 241), .lit (.int .u8 241), .lit (.int .u8 241), .lit (.int .u8 241), .lit (.int .u8 241), .lit (.int .u8 241), .lit (.int .u8 241), .lit (.int .u8 241), .lit (.int .u8 241), .lit (.int .u8 241), .lit (.int .u8 241), .lit (.int .u8 241), .lit (.int .u8 241), .lit (.int .u8 241), .lit (.int .u8 241), .lit (.int .u8 241), .lit (.int .u8 241), .lit (.int .u8 241), .lit (.int .u8 241), .lit (.int .u8 241), .lit (.int .u8 241), .lit (.int .u8 241), .lit (.int .u8 241), .lit (.int .u8 241), .lit (.int .u8 241), .lit (.int .u8 241), .lit (.int .u8 241), .lit (.int .u8 241), .lit (.int .u8 241), .lit (.int .u8 241), .lit (.int .u8 241), .lit (.int .u8 2), .lit (.int .u8 2), .lit (.int .u8 2), .lit (.int .u8 2), .lit (.int .u8 2), .lit (.int .u8 2), .lit (.int .u8 2), .lit (.int .u8 2), .lit (.int .u8 2), .lit (.int .u8 2), .lit (.int .u8 2), .lit (.int .u8 2), .lit (.int .u8 2), .lit (.int .u8 2), .lit (.int .u8 2), .lit (.int .u8 2), .lit (.int .u8 2), .lit (.int .u8 2), .lit (.int .u8 2), .lit (.int .u8 2), .lit (.int .u8 2), .lit (.int .u8 2), .lit (.int .u8 2), .lit (.int .u8 2), .lit (.int .u8 2), .lit (.int .u8 2), .lit (.int .u8 2), .lit (.int .u8 2), .lit (.int .u8 2), .lit (.int .u8 2), .lit (.int .u8 19), .lit (.int .u8 3), .lit (.int .u8 3), .lit (.int .u8 3), .lit (.int .u8 3), .lit (.int .u8 3), .lit (.int .u8 3), .lit (.int .u8 3), .lit (.int .u8 3), .lit (.int .u8 3), .lit (.int .u8 3), .lit (.int .u8 3), .lit (.int .u8 3), .lit (.int .u8 35), .lit (.int .u8 3), .lit (.int .u8 3), .lit (.int .u8 52), .lit (.int .u8 4), .lit (.int .u8 4), .lit (.int .u8 4), .lit (.int .u8 68), .lit (.int .u8 241), .lit (.int .u8 241), .lit (.int .u8 241), .lit (.int .u8 241), .lit (.int .u8 241), .lit (.int .u8 241), .lit (.int .u8 241), .lit (.int .u8 241), .lit (.int .u8 241), .lit (.int .u8 241), .lit (.int .u8 241)]
def laid_loop_example_pub_g03431_pub_goutf8_acceptRanges {H : Type} : DataW H := .agg [.agg [.lit (.int .u8 128), .lit (.int .u8 191)], .agg [.lit (.int .u8 160), .lit (.int .u8 191)], .agg [.lit (.int .u8 128), .lit (.int .u8 159)], .agg [.lit (.int .u8 144), .lit (.int .u8 191)], .agg [.lit (.int .u8 128), .lit (.int .u8 143)], .agg [.lit (.int .u8 0), .lit (.int .u8 0)], .agg [.lit (.int .u8 0), .lit (.int .u8 0)], .agg [.lit (.int .u8 0), .lit (.int .u8 0)], .agg [.lit (.int .u8 0), .lit (.int .u8 0)], .agg [.lit (.int .u8 0), .lit (.int .u8 0)], .agg [.lit (.int .u8 0), .lit (.int .u8 0)], .agg [.lit (.int .u8 0), .lit (.int .u8 0)], .agg [.lit (.int .u8 0), .lit (.int .u8 0)], .agg [.lit (.int .u8 0), .lit (.int .u8 0)], .agg [.lit (.int .u8 0), .lit (.int .u8 0)], .agg [.lit (.int .u8 0), .lit (.int .u8 0)]]

/-- 'laws.FnWalkBack': WHATEVER THE INPUT: true; the input reads as it did. -/
def fnWalkBackSpec : ChangeSpec := { name := "fnWalkBack", vars := ["loop.example/pub-g03431/pub/goutf8.first", "loop.example/pub-g03431/pub/goutf8.acceptRanges"], fn := fun _ => fun
  | [d, g1, g2] => { results := [.lit (.bool true)], args := [d], vars := [g1, g2] }
  | _ => none }
def fnWalkBackRow : OpenClaim := { program := "ytincmkjffohekaadoor", sum := "4bebfc5436b3465d960fdcb95659d330d06e174e5b05304cbd5bb982395329df", func := "loop.example/pub-g03431/laws.FnWalkBack", spec := "fnWalkBack", recurses := true, named := ["loop.example/pub-g03431/pub/goutf8.first", "loop.example/pub-g03431/pub/goutf8.acceptRanges"], apart := false, laid := [("loop.example/pub-g03431/pub/goutf8.first", laid_loop_example_pub_g03431_pub_goutf8_first), ("loop.example/pub-g03431/pub/goutf8.acceptRanges", laid_loop_example_pub_g03431_pub_goutf8_acceptRanges)] }
def FnWalkBackSaid : Prop := fnWalkBackRow.holds Tryd.pinned (OpenSpec.ofChange fnWalkBackSpec)

/-- ITS FALSE NEIGHBOUR: 'it returns false'. Refute it at one input. -/
def fnWalkBackWrong : ChangeSpec := { name := "fnWalkBack", vars := ["loop.example/pub-g03431/pub/goutf8.first", "loop.example/pub-g03431/pub/goutf8.acceptRanges"], fn := fun _ => fun
  | [d, g1, g2] => { results := [.lit (.bool false)], args := [d], vars := [g1, g2] }
  | _ => none }
def FnWalkBackWrongFalsely : Prop := fnWalkBackRow.holds Tryd.pinned (OpenSpec.ofChange fnWalkBackWrong)

/-- 'laws.FnEncodeBack': WHATEVER THE INPUT: true; the input reads as it did. -/
def fnEncodeBackSpec : ChangeSpec := { name := "fnEncodeBack", vars := ["loop.example/pub-g03431/pub/goutf8.first", "loop.example/pub-g03431/pub/goutf8.acceptRanges"], fn := fun _ => fun
  | [d, g1, g2] => { results := [.lit (.bool true)], args := [d], vars := [g1, g2] }
  | _ => none }
def fnEncodeBackRow : OpenClaim := { program := "ytincmkjffohekaadoor", sum := "4bebfc5436b3465d960fdcb95659d330d06e174e5b05304cbd5bb982395329df", func := "loop.example/pub-g03431/laws.FnEncodeBack", spec := "fnEncodeBack", named := ["loop.example/pub-g03431/pub/goutf8.first", "loop.example/pub-g03431/pub/goutf8.acceptRanges"], apart := false, laid := [("loop.example/pub-g03431/pub/goutf8.first", laid_loop_example_pub_g03431_pub_goutf8_first), ("loop.example/pub-g03431/pub/goutf8.acceptRanges", laid_loop_example_pub_g03431_pub_goutf8_acceptRanges)] }
def FnEncodeBackSaid : Prop := fnEncodeBackRow.holds Tryd.pinned (OpenSpec.ofChange fnEncodeBackSpec)

/-- ITS FALSE NEIGHBOUR: 'it returns false'. Refute it at one input. -/
def fnEncodeBackWrong : ChangeSpec := { name := "fnEncodeBack", vars := ["loop.example/pub-g03431/pub/goutf8.first", "loop.example/pub-g03431/pub/goutf8.acceptRanges"], fn := fun _ => fun
  | [d, g1, g2] => { results := [.lit (.bool false)], args := [d], vars := [g1, g2] }
  | _ => none }
def FnEncodeBackWrongFalsely : Prop := fnEncodeBackRow.holds Tryd.pinned (OpenSpec.ofChange fnEncodeBackWrong)

/-- 'laws.FnFullRuneInString': WHATEVER THE INPUT: true; the input reads as it did. -/
def fnFullRuneInStringSpec : ChangeSpec := { name := "fnFullRuneInString", vars := ["loop.example/pub-g03431/pub/goutf8.first", "loop.example/pub-g03431/pub/goutf8.acceptRanges"], fn := fun _ => fun
  | [d, g1, g2] => { results := [.lit (.bool true)], args := [d], vars := [g1, g2] }
  | _ => none }
def fnFullRuneInStringRow : OpenClaim := { program := "ytincmkjffohekaadoor", sum := "4bebfc5436b3465d960fdcb95659d330d06e174e5b05304cbd5bb982395329df", func := "loop.example/pub-g03431/laws.FnFullRuneInString", spec := "fnFullRuneInString", recurses := true, named := ["loop.example/pub-g03431/pub/goutf8.first", "loop.example/pub-g03431/pub/goutf8.acceptRanges"], apart := false, laid := [("loop.example/pub-g03431/pub/goutf8.first", laid_loop_example_pub_g03431_pub_goutf8_first), ("loop.example/pub-g03431/pub/goutf8.acceptRanges", laid_loop_example_pub_g03431_pub_goutf8_acceptRanges)] }
def FnFullRuneInStringSaid : Prop := fnFullRuneInStringRow.holds Tryd.pinned (OpenSpec.ofChange fnFullRuneInStringSpec)

/-- ITS FALSE NEIGHBOUR: 'it returns false'. Refute it at one input. -/
def fnFullRuneInStringWrong : ChangeSpec := { name := "fnFullRuneInString", vars := ["loop.example/pub-g03431/pub/goutf8.first", "loop.example/pub-g03431/pub/goutf8.acceptRanges"], fn := fun _ => fun
  | [d, g1, g2] => { results := [.lit (.bool false)], args := [d], vars := [g1, g2] }
  | _ => none }
def FnFullRuneInStringWrongFalsely : Prop := fnFullRuneInStringRow.holds Tryd.pinned (OpenSpec.ofChange fnFullRuneInStringWrong)

/-- 'laws.FnStrings': WHATEVER THE INPUT: true; the input reads as it did. -/
def fnStringsSpec : ChangeSpec := { name := "fnStrings", vars := ["loop.example/pub-g03431/pub/goutf8.first", "loop.example/pub-g03431/pub/goutf8.acceptRanges"], fn := fun _ => fun
  | [d, g1, g2] => { results := [.lit (.bool true)], args := [d], vars := [g1, g2] }
  | _ => none }
def fnStringsRow : OpenClaim := { program := "ytincmkjffohekaadoor", sum := "4bebfc5436b3465d960fdcb95659d330d06e174e5b05304cbd5bb982395329df", func := "loop.example/pub-g03431/laws.FnStrings", spec := "fnStrings", named := ["loop.example/pub-g03431/pub/goutf8.first", "loop.example/pub-g03431/pub/goutf8.acceptRanges"], apart := false, laid := [("loop.example/pub-g03431/pub/goutf8.first", laid_loop_example_pub_g03431_pub_goutf8_first), ("loop.example/pub-g03431/pub/goutf8.acceptRanges", laid_loop_example_pub_g03431_pub_goutf8_acceptRanges)] }
def FnStringsSaid : Prop := fnStringsRow.holds Tryd.pinned (OpenSpec.ofChange fnStringsSpec)

/-- ITS FALSE NEIGHBOUR: 'it returns false'. Refute it at one input. -/
def fnStringsWrong : ChangeSpec := { name := "fnStrings", vars := ["loop.example/pub-g03431/pub/goutf8.first", "loop.example/pub-g03431/pub/goutf8.acceptRanges"], fn := fun _ => fun
  | [d, g1, g2] => { results := [.lit (.bool false)], args := [d], vars := [g1, g2] }
  | _ => none }
def FnStringsWrongFalsely : Prop := fnStringsRow.holds Tryd.pinned (OpenSpec.ofChange fnStringsWrong)

/-- 'laws.FnFullRune': WHATEVER THE INPUT: true; the input reads as it did. -/
def fnFullRuneSpec : ChangeSpec := { name := "fnFullRune", vars := ["loop.example/pub-g03431/pub/goutf8.first", "loop.example/pub-g03431/pub/goutf8.acceptRanges"], fn := fun _ => fun
  | [d, g1, g2] => { results := [.lit (.bool true)], args := [d], vars := [g1, g2] }
  | _ => none }
def fnFullRuneRow : OpenClaim := { program := "ytincmkjffohekaadoor", sum := "4bebfc5436b3465d960fdcb95659d330d06e174e5b05304cbd5bb982395329df", func := "loop.example/pub-g03431/laws.FnFullRune", spec := "fnFullRune", recurses := true, named := ["loop.example/pub-g03431/pub/goutf8.first", "loop.example/pub-g03431/pub/goutf8.acceptRanges"], apart := false, laid := [("loop.example/pub-g03431/pub/goutf8.first", laid_loop_example_pub_g03431_pub_goutf8_first), ("loop.example/pub-g03431/pub/goutf8.acceptRanges", laid_loop_example_pub_g03431_pub_goutf8_acceptRanges)] }
def FnFullRuneSaid : Prop := fnFullRuneRow.holds Tryd.pinned (OpenSpec.ofChange fnFullRuneSpec)

/-- ITS FALSE NEIGHBOUR: 'it returns false'. Refute it at one input. -/
def fnFullRuneWrong : ChangeSpec := { name := "fnFullRune", vars := ["loop.example/pub-g03431/pub/goutf8.first", "loop.example/pub-g03431/pub/goutf8.acceptRanges"], fn := fun _ => fun
  | [d, g1, g2] => { results := [.lit (.bool false)], args := [d], vars := [g1, g2] }
  | _ => none }
def FnFullRuneWrongFalsely : Prop := fnFullRuneRow.holds Tryd.pinned (OpenSpec.ofChange fnFullRuneWrong)

/-- 'laws.FnDecodeRuneInString': WHATEVER THE INPUT: true; the input reads as it did. -/
def fnDecodeRuneInStringSpec : ChangeSpec := { name := "fnDecodeRuneInString", vars := ["loop.example/pub-g03431/pub/goutf8.first", "loop.example/pub-g03431/pub/goutf8.acceptRanges"], fn := fun _ => fun
  | [d, g1, g2] => { results := [.lit (.bool true)], args := [d], vars := [g1, g2] }
  | _ => none }
def fnDecodeRuneInStringRow : OpenClaim := { program := "ytincmkjffohekaadoor", sum := "4bebfc5436b3465d960fdcb95659d330d06e174e5b05304cbd5bb982395329df", func := "loop.example/pub-g03431/laws.FnDecodeRuneInString", spec := "fnDecodeRuneInString", recurses := true, named := ["loop.example/pub-g03431/pub/goutf8.first", "loop.example/pub-g03431/pub/goutf8.acceptRanges"], apart := false, laid := [("loop.example/pub-g03431/pub/goutf8.first", laid_loop_example_pub_g03431_pub_goutf8_first), ("loop.example/pub-g03431/pub/goutf8.acceptRanges", laid_loop_example_pub_g03431_pub_goutf8_acceptRanges)] }
def FnDecodeRuneInStringSaid : Prop := fnDecodeRuneInStringRow.holds Tryd.pinned (OpenSpec.ofChange fnDecodeRuneInStringSpec)

/-- ITS FALSE NEIGHBOUR: 'it returns false'. Refute it at one input. -/
def fnDecodeRuneInStringWrong : ChangeSpec := { name := "fnDecodeRuneInString", vars := ["loop.example/pub-g03431/pub/goutf8.first", "loop.example/pub-g03431/pub/goutf8.acceptRanges"], fn := fun _ => fun
  | [d, g1, g2] => { results := [.lit (.bool false)], args := [d], vars := [g1, g2] }
  | _ => none }
def FnDecodeRuneInStringWrongFalsely : Prop := fnDecodeRuneInStringRow.holds Tryd.pinned (OpenSpec.ofChange fnDecodeRuneInStringWrong)

/-- 'laws.FnValidString': WHATEVER THE INPUT: true; the input reads as it did. -/
def fnValidStringSpec : ChangeSpec := { name := "fnValidString", vars := ["loop.example/pub-g03431/pub/goutf8.first", "loop.example/pub-g03431/pub/goutf8.acceptRanges"], fn := fun _ => fun
  | [d, g1, g2] => { results := [.lit (.bool true)], args := [d], vars := [g1, g2] }
  | _ => none }
def fnValidStringRow : OpenClaim := { program := "ytincmkjffohekaadoor", sum := "4bebfc5436b3465d960fdcb95659d330d06e174e5b05304cbd5bb982395329df", func := "loop.example/pub-g03431/laws.FnValidString", spec := "fnValidString", recurses := true, named := ["loop.example/pub-g03431/pub/goutf8.first", "loop.example/pub-g03431/pub/goutf8.acceptRanges"], apart := false, laid := [("loop.example/pub-g03431/pub/goutf8.first", laid_loop_example_pub_g03431_pub_goutf8_first), ("loop.example/pub-g03431/pub/goutf8.acceptRanges", laid_loop_example_pub_g03431_pub_goutf8_acceptRanges)] }
def FnValidStringSaid : Prop := fnValidStringRow.holds Tryd.pinned (OpenSpec.ofChange fnValidStringSpec)

/-- ITS FALSE NEIGHBOUR: 'it returns false'. Refute it at one input. -/
def fnValidStringWrong : ChangeSpec := { name := "fnValidString", vars := ["loop.example/pub-g03431/pub/goutf8.first", "loop.example/pub-g03431/pub/goutf8.acceptRanges"], fn := fun _ => fun
  | [d, g1, g2] => { results := [.lit (.bool false)], args := [d], vars := [g1, g2] }
  | _ => none }
def FnValidStringWrongFalsely : Prop := fnValidStringRow.holds Tryd.pinned (OpenSpec.ofChange fnValidStringWrong)

/-- 'laws.FnDecodeRune': WHATEVER THE INPUT: true; the input reads as it did. -/
def fnDecodeRuneSpec : ChangeSpec := { name := "fnDecodeRune", vars := ["loop.example/pub-g03431/pub/goutf8.first", "loop.example/pub-g03431/pub/goutf8.acceptRanges"], fn := fun _ => fun
  | [d, g1, g2] => { results := [.lit (.bool true)], args := [d], vars := [g1, g2] }
  | _ => none }
def fnDecodeRuneRow : OpenClaim := { program := "ytincmkjffohekaadoor", sum := "4bebfc5436b3465d960fdcb95659d330d06e174e5b05304cbd5bb982395329df", func := "loop.example/pub-g03431/laws.FnDecodeRune", spec := "fnDecodeRune", recurses := true, named := ["loop.example/pub-g03431/pub/goutf8.first", "loop.example/pub-g03431/pub/goutf8.acceptRanges"], apart := false, laid := [("loop.example/pub-g03431/pub/goutf8.first", laid_loop_example_pub_g03431_pub_goutf8_first), ("loop.example/pub-g03431/pub/goutf8.acceptRanges", laid_loop_example_pub_g03431_pub_goutf8_acceptRanges)] }
def FnDecodeRuneSaid : Prop := fnDecodeRuneRow.holds Tryd.pinned (OpenSpec.ofChange fnDecodeRuneSpec)

/-- ITS FALSE NEIGHBOUR: 'it returns false'. Refute it at one input. -/
def fnDecodeRuneWrong : ChangeSpec := { name := "fnDecodeRune", vars := ["loop.example/pub-g03431/pub/goutf8.first", "loop.example/pub-g03431/pub/goutf8.acceptRanges"], fn := fun _ => fun
  | [d, g1, g2] => { results := [.lit (.bool false)], args := [d], vars := [g1, g2] }
  | _ => none }
def FnDecodeRuneWrongFalsely : Prop := fnDecodeRuneRow.holds Tryd.pinned (OpenSpec.ofChange fnDecodeRuneWrong)

/-- 'laws.FnValid': WHATEVER THE INPUT: true; the input reads as it did. -/
def fnValidSpec : ChangeSpec := { name := "fnValid", vars := ["loop.example/pub-g03431/pub/goutf8.first", "loop.example/pub-g03431/pub/goutf8.acceptRanges"], fn := fun _ => fun
  | [d, g1, g2] => { results := [.lit (.bool true)], args := [d], vars := [g1, g2] }
  | _ => none }
def fnValidRow : OpenClaim := { program := "ytincmkjffohekaadoor", sum := "4bebfc5436b3465d960fdcb95659d330d06e174e5b05304cbd5bb982395329df", func := "loop.example/pub-g03431/laws.FnValid", spec := "fnValid", recurses := true, named := ["loop.example/pub-g03431/pub/goutf8.first", "loop.example/pub-g03431/pub/goutf8.acceptRanges"], apart := false, laid := [("loop.example/pub-g03431/pub/goutf8.first", laid_loop_example_pub_g03431_pub_goutf8_first), ("loop.example/pub-g03431/pub/goutf8.acceptRanges", laid_loop_example_pub_g03431_pub_goutf8_acceptRanges)] }
def FnValidSaid : Prop := fnValidRow.holds Tryd.pinned (OpenSpec.ofChange fnValidSpec)

/-- ITS FALSE NEIGHBOUR: 'it returns false'. Refute it at one input. -/
def fnValidWrong : ChangeSpec := { name := "fnValid", vars := ["loop.example/pub-g03431/pub/goutf8.first", "loop.example/pub-g03431/pub/goutf8.acceptRanges"], fn := fun _ => fun
  | [d, g1, g2] => { results := [.lit (.bool false)], args := [d], vars := [g1, g2] }
  | _ => none }
def FnValidWrongFalsely : Prop := fnValidRow.holds Tryd.pinned (OpenSpec.ofChange fnValidWrong)

/-- 'laws.FnDecodeLastRuneInString': WHATEVER THE INPUT: true; the input reads as it did. -/
def fnDecodeLastRuneInStringSpec : ChangeSpec := { name := "fnDecodeLastRuneInString", vars := ["loop.example/pub-g03431/pub/goutf8.first", "loop.example/pub-g03431/pub/goutf8.acceptRanges"], fn := fun _ => fun
  | [d, g1, g2] => { results := [.lit (.bool true)], args := [d], vars := [g1, g2] }
  | _ => none }
def fnDecodeLastRuneInStringRow : OpenClaim := { program := "ytincmkjffohekaadoor", sum := "4bebfc5436b3465d960fdcb95659d330d06e174e5b05304cbd5bb982395329df", func := "loop.example/pub-g03431/laws.FnDecodeLastRuneInString", spec := "fnDecodeLastRuneInString", recurses := true, named := ["loop.example/pub-g03431/pub/goutf8.first", "loop.example/pub-g03431/pub/goutf8.acceptRanges"], apart := false, laid := [("loop.example/pub-g03431/pub/goutf8.first", laid_loop_example_pub_g03431_pub_goutf8_first), ("loop.example/pub-g03431/pub/goutf8.acceptRanges", laid_loop_example_pub_g03431_pub_goutf8_acceptRanges)] }
def FnDecodeLastRuneInStringSaid : Prop := fnDecodeLastRuneInStringRow.holds Tryd.pinned (OpenSpec.ofChange fnDecodeLastRuneInStringSpec)

/-- ITS FALSE NEIGHBOUR: 'it returns false'. Refute it at one input. -/
def fnDecodeLastRuneInStringWrong : ChangeSpec := { name := "fnDecodeLastRuneInString", vars := ["loop.example/pub-g03431/pub/goutf8.first", "loop.example/pub-g03431/pub/goutf8.acceptRanges"], fn := fun _ => fun
  | [d, g1, g2] => { results := [.lit (.bool false)], args := [d], vars := [g1, g2] }
  | _ => none }
def FnDecodeLastRuneInStringWrongFalsely : Prop := fnDecodeLastRuneInStringRow.holds Tryd.pinned (OpenSpec.ofChange fnDecodeLastRuneInStringWrong)

/-- 'laws.FnJoin': WHATEVER THE INPUT: true; the input reads as it did. -/
def fnJoinSpec : ChangeSpec := { name := "fnJoin", vars := ["loop.example/pub-g03431/pub/goutf8.first", "loop.example/pub-g03431/pub/goutf8.acceptRanges"], fn := fun _ => fun
  | [d1, d2, g1, g2] => { results := [.lit (.bool true)], args := [d1, d2], vars := [g1, g2] }
  | _ => none }
def fnJoinRow : OpenClaim := { program := "ytincmkjffohekaadoor", sum := "4bebfc5436b3465d960fdcb95659d330d06e174e5b05304cbd5bb982395329df", func := "loop.example/pub-g03431/laws.FnJoin", spec := "fnJoin", recurses := true, named := ["loop.example/pub-g03431/pub/goutf8.first", "loop.example/pub-g03431/pub/goutf8.acceptRanges"], apart := false, laid := [("loop.example/pub-g03431/pub/goutf8.first", laid_loop_example_pub_g03431_pub_goutf8_first), ("loop.example/pub-g03431/pub/goutf8.acceptRanges", laid_loop_example_pub_g03431_pub_goutf8_acceptRanges)] }
def FnJoinSaid : Prop := fnJoinRow.holds Tryd.pinned (OpenSpec.ofChange fnJoinSpec)

/-- ITS FALSE NEIGHBOUR: 'it returns false'. Refute it at one input. -/
def fnJoinWrong : ChangeSpec := { name := "fnJoin", vars := ["loop.example/pub-g03431/pub/goutf8.first", "loop.example/pub-g03431/pub/goutf8.acceptRanges"], fn := fun _ => fun
  | [d1, d2, g1, g2] => { results := [.lit (.bool false)], args := [d1, d2], vars := [g1, g2] }
  | _ => none }
def FnJoinWrongFalsely : Prop := fnJoinRow.holds Tryd.pinned (OpenSpec.ofChange fnJoinWrong)

/-- 'laws.FnDecodeLastRune': WHATEVER THE INPUT: true; the input reads as it did. -/
def fnDecodeLastRuneSpec : ChangeSpec := { name := "fnDecodeLastRune", vars := ["loop.example/pub-g03431/pub/goutf8.first", "loop.example/pub-g03431/pub/goutf8.acceptRanges"], fn := fun _ => fun
  | [d, g1, g2] => { results := [.lit (.bool true)], args := [d], vars := [g1, g2] }
  | _ => none }
def fnDecodeLastRuneRow : OpenClaim := { program := "ytincmkjffohekaadoor", sum := "4bebfc5436b3465d960fdcb95659d330d06e174e5b05304cbd5bb982395329df", func := "loop.example/pub-g03431/laws.FnDecodeLastRune", spec := "fnDecodeLastRune", recurses := true, named := ["loop.example/pub-g03431/pub/goutf8.first", "loop.example/pub-g03431/pub/goutf8.acceptRanges"], apart := false, laid := [("loop.example/pub-g03431/pub/goutf8.first", laid_loop_example_pub_g03431_pub_goutf8_first), ("loop.example/pub-g03431/pub/goutf8.acceptRanges", laid_loop_example_pub_g03431_pub_goutf8_acceptRanges)] }
def FnDecodeLastRuneSaid : Prop := fnDecodeLastRuneRow.holds Tryd.pinned (OpenSpec.ofChange fnDecodeLastRuneSpec)

/-- ITS FALSE NEIGHBOUR: 'it returns false'. Refute it at one input. -/
def fnDecodeLastRuneWrong : ChangeSpec := { name := "fnDecodeLastRune", vars := ["loop.example/pub-g03431/pub/goutf8.first", "loop.example/pub-g03431/pub/goutf8.acceptRanges"], fn := fun _ => fun
  | [d, g1, g2] => { results := [.lit (.bool false)], args := [d], vars := [g1, g2] }
  | _ => none }
def FnDecodeLastRuneWrongFalsely : Prop := fnDecodeLastRuneRow.holds Tryd.pinned (OpenSpec.ofChange fnDecodeLastRuneWrong)

/-- 'laws.FnReencode': WHATEVER THE INPUT: true; the input reads as it did. -/
def fnReencodeSpec : ChangeSpec := { name := "fnReencode", vars := ["loop.example/pub-g03431/pub/goutf8.first", "loop.example/pub-g03431/pub/goutf8.acceptRanges"], fn := fun _ => fun
  | [d, g1, g2] => { results := [.lit (.bool true)], args := [d], vars := [g1, g2] }
  | _ => none }
def fnReencodeRow : OpenClaim := { program := "ytincmkjffohekaadoor", sum := "4bebfc5436b3465d960fdcb95659d330d06e174e5b05304cbd5bb982395329df", func := "loop.example/pub-g03431/laws.FnReencode", spec := "fnReencode", named := ["loop.example/pub-g03431/pub/goutf8.first", "loop.example/pub-g03431/pub/goutf8.acceptRanges"], apart := false, laid := [("loop.example/pub-g03431/pub/goutf8.first", laid_loop_example_pub_g03431_pub_goutf8_first), ("loop.example/pub-g03431/pub/goutf8.acceptRanges", laid_loop_example_pub_g03431_pub_goutf8_acceptRanges)] }
def FnReencodeSaid : Prop := fnReencodeRow.holds Tryd.pinned (OpenSpec.ofChange fnReencodeSpec)

/-- ITS FALSE NEIGHBOUR: 'it returns false'. Refute it at one input. -/
def fnReencodeWrong : ChangeSpec := { name := "fnReencode", vars := ["loop.example/pub-g03431/pub/goutf8.first", "loop.example/pub-g03431/pub/goutf8.acceptRanges"], fn := fun _ => fun
  | [d, g1, g2] => { results := [.lit (.bool false)], args := [d], vars := [g1, g2] }
  | _ => none }
def FnReencodeWrongFalsely : Prop := fnReencodeRow.holds Tryd.pinned (OpenSpec.ofChange fnReencodeWrong)

/-- 'laws.FnCutShort': WHATEVER THE INPUT: true; the input reads as it did. -/
def fnCutShortSpec : ChangeSpec := { name := "fnCutShort", vars := ["loop.example/pub-g03431/pub/goutf8.first", "loop.example/pub-g03431/pub/goutf8.acceptRanges"], fn := fun _ => fun
  | [d1, d2, g1, g2] => { results := [.lit (.bool true)], args := [d1, d2], vars := [g1, g2] }
  | _ => none }
def fnCutShortRow : OpenClaim := { program := "ytincmkjffohekaadoor", sum := "4bebfc5436b3465d960fdcb95659d330d06e174e5b05304cbd5bb982395329df", func := "loop.example/pub-g03431/laws.FnCutShort", spec := "fnCutShort", named := ["loop.example/pub-g03431/pub/goutf8.first", "loop.example/pub-g03431/pub/goutf8.acceptRanges"], apart := false, laid := [("loop.example/pub-g03431/pub/goutf8.first", laid_loop_example_pub_g03431_pub_goutf8_first), ("loop.example/pub-g03431/pub/goutf8.acceptRanges", laid_loop_example_pub_g03431_pub_goutf8_acceptRanges)] }
def FnCutShortSaid : Prop := fnCutShortRow.holds Tryd.pinned (OpenSpec.ofChange fnCutShortSpec)

/-- ITS FALSE NEIGHBOUR: 'it returns false'. Refute it at one input. -/
def fnCutShortWrong : ChangeSpec := { name := "fnCutShort", vars := ["loop.example/pub-g03431/pub/goutf8.first", "loop.example/pub-g03431/pub/goutf8.acceptRanges"], fn := fun _ => fun
  | [d1, d2, g1, g2] => { results := [.lit (.bool false)], args := [d1, d2], vars := [g1, g2] }
  | _ => none }
def FnCutShortWrongFalsely : Prop := fnCutShortRow.holds Tryd.pinned (OpenSpec.ofChange fnCutShortWrong)

/-- 'laws.FnEncodeLast': WHATEVER THE INPUT: true; the input reads as it did. -/
def fnEncodeLastSpec : ChangeSpec := { name := "fnEncodeLast", vars := ["loop.example/pub-g03431/pub/goutf8.first", "loop.example/pub-g03431/pub/goutf8.acceptRanges"], fn := fun _ => fun
  | [d1, d2, g1, g2] => { results := [.lit (.bool true)], args := [d1, d2], vars := [g1, g2] }
  | _ => none }
def fnEncodeLastRow : OpenClaim := { program := "ytincmkjffohekaadoor", sum := "4bebfc5436b3465d960fdcb95659d330d06e174e5b05304cbd5bb982395329df", func := "loop.example/pub-g03431/laws.FnEncodeLast", spec := "fnEncodeLast", named := ["loop.example/pub-g03431/pub/goutf8.first", "loop.example/pub-g03431/pub/goutf8.acceptRanges"], apart := false, laid := [("loop.example/pub-g03431/pub/goutf8.first", laid_loop_example_pub_g03431_pub_goutf8_first), ("loop.example/pub-g03431/pub/goutf8.acceptRanges", laid_loop_example_pub_g03431_pub_goutf8_acceptRanges)] }
def FnEncodeLastSaid : Prop := fnEncodeLastRow.holds Tryd.pinned (OpenSpec.ofChange fnEncodeLastSpec)

/-- ITS FALSE NEIGHBOUR: 'it returns false'. Refute it at one input. -/
def fnEncodeLastWrong : ChangeSpec := { name := "fnEncodeLast", vars := ["loop.example/pub-g03431/pub/goutf8.first", "loop.example/pub-g03431/pub/goutf8.acceptRanges"], fn := fun _ => fun
  | [d1, d2, g1, g2] => { results := [.lit (.bool false)], args := [d1, d2], vars := [g1, g2] }
  | _ => none }
def FnEncodeLastWrongFalsely : Prop := fnEncodeLastRow.holds Tryd.pinned (OpenSpec.ofChange fnEncodeLastWrong)

/-- 'laws.FnWalk': WHATEVER THE INPUT: true; the input reads as it did. -/
def fnWalkSpec : ChangeSpec := { name := "fnWalk", vars := ["loop.example/pub-g03431/pub/goutf8.first", "loop.example/pub-g03431/pub/goutf8.acceptRanges"], fn := fun _ => fun
  | [d, g1, g2] => { results := [.lit (.bool true)], args := [d], vars := [g1, g2] }
  | _ => none }
def fnWalkRow : OpenClaim := { program := "ytincmkjffohekaadoor", sum := "4bebfc5436b3465d960fdcb95659d330d06e174e5b05304cbd5bb982395329df", func := "loop.example/pub-g03431/laws.FnWalk", spec := "fnWalk", named := ["loop.example/pub-g03431/pub/goutf8.first", "loop.example/pub-g03431/pub/goutf8.acceptRanges"], apart := false, laid := [("loop.example/pub-g03431/pub/goutf8.first", laid_loop_example_pub_g03431_pub_goutf8_first), ("loop.example/pub-g03431/pub/goutf8.acceptRanges", laid_loop_example_pub_g03431_pub_goutf8_acceptRanges)] }
def FnWalkSaid : Prop := fnWalkRow.holds Tryd.pinned (OpenSpec.ofChange fnWalkSpec)

/-- ITS FALSE NEIGHBOUR: 'it returns false'. Refute it at one input. -/
def fnWalkWrong : ChangeSpec := { name := "fnWalk", vars := ["loop.example/pub-g03431/pub/goutf8.first", "loop.example/pub-g03431/pub/goutf8.acceptRanges"], fn := fun _ => fun
  | [d, g1, g2] => { results := [.lit (.bool false)], args := [d], vars := [g1, g2] }
  | _ => none }
def FnWalkWrongFalsely : Prop := fnWalkRow.holds Tryd.pinned (OpenSpec.ofChange fnWalkWrong)

/- THE SECOND FORM. 'bulk': how many values and letters a reading holds, each counted each time it is reached (what is shared counts as often as it is met; a slice's spare places count too). A statement '..UptoSaid' is the law's where the arguments, and the package variables that the reading takes, are together of bulk at most 1048576: NARROWER than '..Said'. Prove '..Said' where nothing that the law and all that it calls make is longer than what came in: it says more and counts as full. Else prove '..UptoSaid'. A law counts once. -/
mutual
def uptoBulk {H : Type} : DataW H → Nat
  | .lit (.string bytes) => bytes.length + 1
  | .lit _ => 1
  | .nil => 1
  | .ptr d => uptoBulk d + 1
  | .slice elems spare => uptoBulkAll elems + uptoBulkAll spare + 1
  | .agg parts => uptoBulkAll parts + 1
  | .iface _ d => uptoBulk d + 1
  | .map entries => uptoBulkEntries entries + 1
  | .held _ => 1
def uptoBulkAll {H : Type} : List (DataW H) → Nat
  | [] => 0
  | d :: r => uptoBulk d + uptoBulkAll r
def uptoBulkEntries {H : Type} : List (Lit × DataW H) → Nat
  | [] => 0
  | x :: r => uptoBulkEntry x + uptoBulkEntries r
def uptoBulkEntry {H : Type} : Lit × DataW H → Nat
  | (.string bytes, d) => bytes.length + uptoBulk d + 1
  | (_, d) => uptoBulk d + 1
 end
def uptoSmall : (H : Type) → List (DataW H) → Bool := fun _ ds => decide (uptoBulkAll ds ≤ 1048576)
def OpenSpec.upto (s : _root_.Go.ChangeSpec) : _root_.Go.OpenSpec := { _root_.Go.OpenSpec.ofChange s with cond := some uptoSmall }

/-- 'laws.FnWalkBack', WHERE WHAT IT READS IS OF BULK AT MOST 1048576: true; the input reads as it did. -/
def fnWalkBackUptoRow : OpenClaim := { program := "ytincmkjffohekaadoor", sum := "4bebfc5436b3465d960fdcb95659d330d06e174e5b05304cbd5bb982395329df", func := "loop.example/pub-g03431/laws.FnWalkBack", spec := "fnWalkBack", recurses := true, named := ["loop.example/pub-g03431/pub/goutf8.first", "loop.example/pub-g03431/pub/goutf8.acceptRanges"], apart := false, laid := [("loop.example/pub-g03431/pub/goutf8.first", laid_loop_example_pub_g03431_pub_goutf8_first), ("loop.example/pub-g03431/pub/goutf8.acceptRanges", laid_loop_example_pub_g03431_pub_goutf8_acceptRanges)], narrowed := true }
def FnWalkBackUptoSaid : Prop := fnWalkBackUptoRow.holds Tryd.pinned (OpenSpec.upto fnWalkBackSpec)

/-- 'laws.FnEncodeBack', WHERE WHAT IT READS IS OF BULK AT MOST 1048576: true; the input reads as it did. -/
def fnEncodeBackUptoRow : OpenClaim := { program := "ytincmkjffohekaadoor", sum := "4bebfc5436b3465d960fdcb95659d330d06e174e5b05304cbd5bb982395329df", func := "loop.example/pub-g03431/laws.FnEncodeBack", spec := "fnEncodeBack", named := ["loop.example/pub-g03431/pub/goutf8.first", "loop.example/pub-g03431/pub/goutf8.acceptRanges"], apart := false, laid := [("loop.example/pub-g03431/pub/goutf8.first", laid_loop_example_pub_g03431_pub_goutf8_first), ("loop.example/pub-g03431/pub/goutf8.acceptRanges", laid_loop_example_pub_g03431_pub_goutf8_acceptRanges)], narrowed := true }
def FnEncodeBackUptoSaid : Prop := fnEncodeBackUptoRow.holds Tryd.pinned (OpenSpec.upto fnEncodeBackSpec)

/-- 'laws.FnFullRuneInString', WHERE WHAT IT READS IS OF BULK AT MOST 1048576: true; the input reads as it did. -/
def fnFullRuneInStringUptoRow : OpenClaim := { program := "ytincmkjffohekaadoor", sum := "4bebfc5436b3465d960fdcb95659d330d06e174e5b05304cbd5bb982395329df", func := "loop.example/pub-g03431/laws.FnFullRuneInString", spec := "fnFullRuneInString", recurses := true, named := ["loop.example/pub-g03431/pub/goutf8.first", "loop.example/pub-g03431/pub/goutf8.acceptRanges"], apart := false, laid := [("loop.example/pub-g03431/pub/goutf8.first", laid_loop_example_pub_g03431_pub_goutf8_first), ("loop.example/pub-g03431/pub/goutf8.acceptRanges", laid_loop_example_pub_g03431_pub_goutf8_acceptRanges)], narrowed := true }
def FnFullRuneInStringUptoSaid : Prop := fnFullRuneInStringUptoRow.holds Tryd.pinned (OpenSpec.upto fnFullRuneInStringSpec)

/-- 'laws.FnStrings', WHERE WHAT IT READS IS OF BULK AT MOST 1048576: true; the input reads as it did. -/
def fnStringsUptoRow : OpenClaim := { program := "ytincmkjffohekaadoor", sum := "4bebfc5436b3465d960fdcb95659d330d06e174e5b05304cbd5bb982395329df", func := "loop.example/pub-g03431/laws.FnStrings", spec := "fnStrings", named := ["loop.example/pub-g03431/pub/goutf8.first", "loop.example/pub-g03431/pub/goutf8.acceptRanges"], apart := false, laid := [("loop.example/pub-g03431/pub/goutf8.first", laid_loop_example_pub_g03431_pub_goutf8_first), ("loop.example/pub-g03431/pub/goutf8.acceptRanges", laid_loop_example_pub_g03431_pub_goutf8_acceptRanges)], narrowed := true }
def FnStringsUptoSaid : Prop := fnStringsUptoRow.holds Tryd.pinned (OpenSpec.upto fnStringsSpec)

/-- 'laws.FnFullRune', WHERE WHAT IT READS IS OF BULK AT MOST 1048576: true; the input reads as it did. -/
def fnFullRuneUptoRow : OpenClaim := { program := "ytincmkjffohekaadoor", sum := "4bebfc5436b3465d960fdcb95659d330d06e174e5b05304cbd5bb982395329df", func := "loop.example/pub-g03431/laws.FnFullRune", spec := "fnFullRune", recurses := true, named := ["loop.example/pub-g03431/pub/goutf8.first", "loop.example/pub-g03431/pub/goutf8.acceptRanges"], apart := false, laid := [("loop.example/pub-g03431/pub/goutf8.first", laid_loop_example_pub_g03431_pub_goutf8_first), ("loop.example/pub-g03431/pub/goutf8.acceptRanges", laid_loop_example_pub_g03431_pub_goutf8_acceptRanges)], narrowed := true }
def FnFullRuneUptoSaid : Prop := fnFullRuneUptoRow.holds Tryd.pinned (OpenSpec.upto fnFullRuneSpec)

/-- 'laws.FnDecodeRuneInString', WHERE WHAT IT READS IS OF BULK AT MOST 1048576: true; the input reads as it did. -/
def fnDecodeRuneInStringUptoRow : OpenClaim := { program := "ytincmkjffohekaadoor", sum := "4bebfc5436b3465d960fdcb95659d330d06e174e5b05304cbd5bb982395329df", func := "loop.example/pub-g03431/laws.FnDecodeRuneInString", spec := "fnDecodeRuneInString", recurses := true, named := ["loop.example/pub-g03431/pub/goutf8.first", "loop.example/pub-g03431/pub/goutf8.acceptRanges"], apart := false, laid := [("loop.example/pub-g03431/pub/goutf8.first", laid_loop_example_pub_g03431_pub_goutf8_first), ("loop.example/pub-g03431/pub/goutf8.acceptRanges", laid_loop_example_pub_g03431_pub_goutf8_acceptRanges)], narrowed := true }
def FnDecodeRuneInStringUptoSaid : Prop := fnDecodeRuneInStringUptoRow.holds Tryd.pinned (OpenSpec.upto fnDecodeRuneInStringSpec)

/-- 'laws.FnValidString', WHERE WHAT IT READS IS OF BULK AT MOST 1048576: true; the input reads as it did. -/
def fnValidStringUptoRow : OpenClaim := { program := "ytincmkjffohekaadoor", sum := "4bebfc5436b3465d960fdcb95659d330d06e174e5b05304cbd5bb982395329df", func := "loop.example/pub-g03431/laws.FnValidString", spec := "fnValidString", recurses := true, named := ["loop.example/pub-g03431/pub/goutf8.first", "loop.example/pub-g03431/pub/goutf8.acceptRanges"], apart := false, laid := [("loop.example/pub-g03431/pub/goutf8.first", laid_loop_example_pub_g03431_pub_goutf8_first), ("loop.example/pub-g03431/pub/goutf8.acceptRanges", laid_loop_example_pub_g03431_pub_goutf8_acceptRanges)], narrowed := true }
def FnValidStringUptoSaid : Prop := fnValidStringUptoRow.holds Tryd.pinned (OpenSpec.upto fnValidStringSpec)

/-- 'laws.FnDecodeRune', WHERE WHAT IT READS IS OF BULK AT MOST 1048576: true; the input reads as it did. -/
def fnDecodeRuneUptoRow : OpenClaim := { program := "ytincmkjffohekaadoor", sum := "4bebfc5436b3465d960fdcb95659d330d06e174e5b05304cbd5bb982395329df", func := "loop.example/pub-g03431/laws.FnDecodeRune", spec := "fnDecodeRune", recurses := true, named := ["loop.example/pub-g03431/pub/goutf8.first", "loop.example/pub-g03431/pub/goutf8.acceptRanges"], apart := false, laid := [("loop.example/pub-g03431/pub/goutf8.first", laid_loop_example_pub_g03431_pub_goutf8_first), ("loop.example/pub-g03431/pub/goutf8.acceptRanges", laid_loop_example_pub_g03431_pub_goutf8_acceptRanges)], narrowed := true }
def FnDecodeRuneUptoSaid : Prop := fnDecodeRuneUptoRow.holds Tryd.pinned (OpenSpec.upto fnDecodeRuneSpec)

/-- 'laws.FnValid', WHERE WHAT IT READS IS OF BULK AT MOST 1048576: true; the input reads as it did. -/
def fnValidUptoRow : OpenClaim := { program := "ytincmkjffohekaadoor", sum := "4bebfc5436b3465d960fdcb95659d330d06e174e5b05304cbd5bb982395329df", func := "loop.example/pub-g03431/laws.FnValid", spec := "fnValid", recurses := true, named := ["loop.example/pub-g03431/pub/goutf8.first", "loop.example/pub-g03431/pub/goutf8.acceptRanges"], apart := false, laid := [("loop.example/pub-g03431/pub/goutf8.first", laid_loop_example_pub_g03431_pub_goutf8_first), ("loop.example/pub-g03431/pub/goutf8.acceptRanges", laid_loop_example_pub_g03431_pub_goutf8_acceptRanges)], narrowed := true }
def FnValidUptoSaid : Prop := fnValidUptoRow.holds Tryd.pinned (OpenSpec.upto fnValidSpec)

/-- 'laws.FnDecodeLastRuneInString', WHERE WHAT IT READS IS OF BULK AT MOST 1048576: true; the input reads as it did. -/
def fnDecodeLastRuneInStringUptoRow : OpenClaim := { program := "ytincmkjffohekaadoor", sum := "4bebfc5436b3465d960fdcb95659d330d06e174e5b05304cbd5bb982395329df", func := "loop.example/pub-g03431/laws.FnDecodeLastRuneInString", spec := "fnDecodeLastRuneInString", recurses := true, named := ["loop.example/pub-g03431/pub/goutf8.first", "loop.example/pub-g03431/pub/goutf8.acceptRanges"], apart := false, laid := [("loop.example/pub-g03431/pub/goutf8.first", laid_loop_example_pub_g03431_pub_goutf8_first), ("loop.example/pub-g03431/pub/goutf8.acceptRanges", laid_loop_example_pub_g03431_pub_goutf8_acceptRanges)], narrowed := true }
def FnDecodeLastRuneInStringUptoSaid : Prop := fnDecodeLastRuneInStringUptoRow.holds Tryd.pinned (OpenSpec.upto fnDecodeLastRuneInStringSpec)

/-- 'laws.FnJoin', WHERE WHAT IT READS IS OF BULK AT MOST 1048576: true; the input reads as it did. -/
def fnJoinUptoRow : OpenClaim := { program := "ytincmkjffohekaadoor", sum := "4bebfc5436b3465d960fdcb95659d330d06e174e5b05304cbd5bb982395329df", func := "loop.example/pub-g03431/laws.FnJoin", spec := "fnJoin", recurses := true, named := ["loop.example/pub-g03431/pub/goutf8.first", "loop.example/pub-g03431/pub/goutf8.acceptRanges"], apart := false, laid := [("loop.example/pub-g03431/pub/goutf8.first", laid_loop_example_pub_g03431_pub_goutf8_first), ("loop.example/pub-g03431/pub/goutf8.acceptRanges", laid_loop_example_pub_g03431_pub_goutf8_acceptRanges)], narrowed := true }
def FnJoinUptoSaid : Prop := fnJoinUptoRow.holds Tryd.pinned (OpenSpec.upto fnJoinSpec)

/-- 'laws.FnDecodeLastRune', WHERE WHAT IT READS IS OF BULK AT MOST 1048576: true; the input reads as it did. -/
def fnDecodeLastRuneUptoRow : OpenClaim := { program := "ytincmkjffohekaadoor", sum := "4bebfc5436b3465d960fdcb95659d330d06e174e5b05304cbd5bb982395329df", func := "loop.example/pub-g03431/laws.FnDecodeLastRune", spec := "fnDecodeLastRune", recurses := true, named := ["loop.example/pub-g03431/pub/goutf8.first", "loop.example/pub-g03431/pub/goutf8.acceptRanges"], apart := false, laid := [("loop.example/pub-g03431/pub/goutf8.first", laid_loop_example_pub_g03431_pub_goutf8_first), ("loop.example/pub-g03431/pub/goutf8.acceptRanges", laid_loop_example_pub_g03431_pub_goutf8_acceptRanges)], narrowed := true }
def FnDecodeLastRuneUptoSaid : Prop := fnDecodeLastRuneUptoRow.holds Tryd.pinned (OpenSpec.upto fnDecodeLastRuneSpec)

/-- 'laws.FnReencode', WHERE WHAT IT READS IS OF BULK AT MOST 1048576: true; the input reads as it did. -/
def fnReencodeUptoRow : OpenClaim := { program := "ytincmkjffohekaadoor", sum := "4bebfc5436b3465d960fdcb95659d330d06e174e5b05304cbd5bb982395329df", func := "loop.example/pub-g03431/laws.FnReencode", spec := "fnReencode", named := ["loop.example/pub-g03431/pub/goutf8.first", "loop.example/pub-g03431/pub/goutf8.acceptRanges"], apart := false, laid := [("loop.example/pub-g03431/pub/goutf8.first", laid_loop_example_pub_g03431_pub_goutf8_first), ("loop.example/pub-g03431/pub/goutf8.acceptRanges", laid_loop_example_pub_g03431_pub_goutf8_acceptRanges)], narrowed := true }
def FnReencodeUptoSaid : Prop := fnReencodeUptoRow.holds Tryd.pinned (OpenSpec.upto fnReencodeSpec)

/-- 'laws.FnCutShort', WHERE WHAT IT READS IS OF BULK AT MOST 1048576: true; the input reads as it did. -/
def fnCutShortUptoRow : OpenClaim := { program := "ytincmkjffohekaadoor", sum := "4bebfc5436b3465d960fdcb95659d330d06e174e5b05304cbd5bb982395329df", func := "loop.example/pub-g03431/laws.FnCutShort", spec := "fnCutShort", named := ["loop.example/pub-g03431/pub/goutf8.first", "loop.example/pub-g03431/pub/goutf8.acceptRanges"], apart := false, laid := [("loop.example/pub-g03431/pub/goutf8.first", laid_loop_example_pub_g03431_pub_goutf8_first), ("loop.example/pub-g03431/pub/goutf8.acceptRanges", laid_loop_example_pub_g03431_pub_goutf8_acceptRanges)], narrowed := true }
def FnCutShortUptoSaid : Prop := fnCutShortUptoRow.holds Tryd.pinned (OpenSpec.upto fnCutShortSpec)

/-- 'laws.FnEncodeLast', WHERE WHAT IT READS IS OF BULK AT MOST 1048576: true; the input reads as it did. -/
def fnEncodeLastUptoRow : OpenClaim := { program := "ytincmkjffohekaadoor", sum := "4bebfc5436b3465d960fdcb95659d330d06e174e5b05304cbd5bb982395329df", func := "loop.example/pub-g03431/laws.FnEncodeLast", spec := "fnEncodeLast", named := ["loop.example/pub-g03431/pub/goutf8.first", "loop.example/pub-g03431/pub/goutf8.acceptRanges"], apart := false, laid := [("loop.example/pub-g03431/pub/goutf8.first", laid_loop_example_pub_g03431_pub_goutf8_first), ("loop.example/pub-g03431/pub/goutf8.acceptRanges", laid_loop_example_pub_g03431_pub_goutf8_acceptRanges)], narrowed := true }
def FnEncodeLastUptoSaid : Prop := fnEncodeLastUptoRow.holds Tryd.pinned (OpenSpec.upto fnEncodeLastSpec)

/-- 'laws.FnWalk', WHERE WHAT IT READS IS OF BULK AT MOST 1048576: true; the input reads as it did. -/
def fnWalkUptoRow : OpenClaim := { program := "ytincmkjffohekaadoor", sum := "4bebfc5436b3465d960fdcb95659d330d06e174e5b05304cbd5bb982395329df", func := "loop.example/pub-g03431/laws.FnWalk", spec := "fnWalk", named := ["loop.example/pub-g03431/pub/goutf8.first", "loop.example/pub-g03431/pub/goutf8.acceptRanges"], apart := false, laid := [("loop.example/pub-g03431/pub/goutf8.first", laid_loop_example_pub_g03431_pub_goutf8_first), ("loop.example/pub-g03431/pub/goutf8.acceptRanges", laid_loop_example_pub_g03431_pub_goutf8_acceptRanges)], narrowed := true }
def FnWalkUptoSaid : Prop := fnWalkUptoRow.holds Tryd.pinned (OpenSpec.upto fnWalkSpec)

end Rows
end Go.Proofs.YtincmkjffohekaaDoor
