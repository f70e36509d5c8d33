/-
  DERIVED. GIVEN WITH THE SEED: THE CARDS: each row of YtincmkjffohekaaDoorRows.lean that lists a variable, with what it lists TIED to the program's text (the seventh form; the later family's looks); each row that meets fmt, with fmt's text TOLD by the authors' own Lean function (tested against real Go, not proved from fmt's source: count such statements apart). THE CARD IS WHAT COUNTS. Prove the row's statement (the work); the ties are given (YtincmkjffohekaaDoorTie.lean); close each card by the builder's one call (the guide's Derived/Test/ToyasCard.lean, 'card_holds'). Laid BY PROGRAM, IN A SANDBOX (cutbox-door.mjs). By AI agents, Wed Nov 11 2026. No macro, syntax, notation, axiom, sorry.
-/
import Derived.Test.YtincmkjffohekaaDoorRows
import GoSem.ClaimSeven
namespace Go.Proofs.YtincmkjffohekaaDoor
namespace Rows

/-- THE TIED CARD OF 'laws.FnWalkBack'. -/
def fnWalkBackCard : Claim7 := { stood := { row := fnWalkBackRow, standIns := [], harness := (true, "9df226477127c835f6db9eaf99dd36ccb1b408c573fa5e6bae7ef8d01908ee42"), looks := false }, kinds := [], alts := [], laidByText := true, laidKinds := [.data, .data], laidTests := true, laidLooks := .later }
def FnWalkBackCardSaid : Prop := Claim7.holds Tryd.pinned (.plain (OpenSpec.ofChange fnWalkBackSpec)) fnWalkBackCard

/-- THE TIED CARD OF 'laws.FnEncodeBack'. -/
def fnEncodeBackCard : Claim7 := { stood := { row := fnEncodeBackRow, standIns := [], harness := (true, "9df226477127c835f6db9eaf99dd36ccb1b408c573fa5e6bae7ef8d01908ee42"), looks := false }, kinds := [], alts := [], laidByText := true, laidKinds := [.data, .data], laidTests := true, laidLooks := .later }
def FnEncodeBackCardSaid : Prop := Claim7.holds Tryd.pinned (.plain (OpenSpec.ofChange fnEncodeBackSpec)) fnEncodeBackCard

/-- THE TIED CARD OF 'laws.FnFullRuneInString'. -/
def fnFullRuneInStringCard : Claim7 := { stood := { row := fnFullRuneInStringRow, standIns := [], harness := (true, "9df226477127c835f6db9eaf99dd36ccb1b408c573fa5e6bae7ef8d01908ee42"), looks := false }, kinds := [], alts := [], laidByText := true, laidKinds := [.data, .data], laidTests := true, laidLooks := .later }
def FnFullRuneInStringCardSaid : Prop := Claim7.holds Tryd.pinned (.plain (OpenSpec.ofChange fnFullRuneInStringSpec)) fnFullRuneInStringCard

/-- THE TIED CARD OF 'laws.FnStrings'. -/
def fnStringsCard : Claim7 := { stood := { row := fnStringsRow, standIns := [], harness := (true, "9df226477127c835f6db9eaf99dd36ccb1b408c573fa5e6bae7ef8d01908ee42"), looks := false }, kinds := [], alts := [], laidByText := true, laidKinds := [.data, .data], laidTests := true, laidLooks := .later }
def FnStringsCardSaid : Prop := Claim7.holds Tryd.pinned (.plain (OpenSpec.ofChange fnStringsSpec)) fnStringsCard

/-- THE TIED CARD OF 'laws.FnFullRune'. -/
def fnFullRuneCard : Claim7 := { stood := { row := fnFullRuneRow, standIns := [], harness := (true, "9df226477127c835f6db9eaf99dd36ccb1b408c573fa5e6bae7ef8d01908ee42"), looks := false }, kinds := [], alts := [], laidByText := true, laidKinds := [.data, .data], laidTests := true, laidLooks := .later }
def FnFullRuneCardSaid : Prop := Claim7.holds Tryd.pinned (.plain (OpenSpec.ofChange fnFullRuneSpec)) fnFullRuneCard

/-- THE TIED CARD OF 'laws.FnDecodeRuneInString'. -/
def fnDecodeRuneInStringCard : Claim7 := { stood := { row := fnDecodeRuneInStringRow, standIns := [], harness := (true, "9df226477127c835f6db9eaf99dd36ccb1b408c573fa5e6bae7ef8d01908ee42"), looks := false }, kinds := [], alts := [], laidByText := true, laidKinds := [.data, .data], laidTests := true, laidLooks := .later }
def FnDecodeRuneInStringCardSaid : Prop := Claim7.holds Tryd.pinned (.plain (OpenSpec.ofChange fnDecodeRuneInStringSpec)) fnDecodeRuneInStringCard

/-- THE TIED CARD OF 'laws.FnValidString'. -/
def fnValidStringCard : Claim7 := { stood := { row := fnValidStringRow, standIns := [], harness := (true, "9df226477127c835f6db9eaf99dd36ccb1b408c573fa5e6bae7ef8d01908ee42"), looks := false }, kinds := [], alts := [], laidByText := true, laidKinds := [.data, .data], laidTests := true, laidLooks := .later }
def FnValidStringCardSaid : Prop := Claim7.holds Tryd.pinned (.plain (OpenSpec.ofChange fnValidStringSpec)) fnValidStringCard

/-- THE TIED CARD OF 'laws.FnDecodeRune'. -/
def fnDecodeRuneCard : Claim7 := { stood := { row := fnDecodeRuneRow, standIns := [], harness := (true, "9df226477127c835f6db9eaf99dd36ccb1b408c573fa5e6bae7ef8d01908ee42"), looks := false }, kinds := [], alts := [], laidByText := true, laidKinds := [.data, .data], laidTests := true, laidLooks := .later }
def FnDecodeRuneCardSaid : Prop := Claim7.holds Tryd.pinned (.plain (OpenSpec.ofChange fnDecodeRuneSpec)) fnDecodeRuneCard

/-- THE TIED CARD OF 'laws.FnValid'. -/
def fnValidCard : Claim7 := { stood := { row := fnValidRow, standIns := [], harness := (true, "9df226477127c835f6db9eaf99dd36ccb1b408c573fa5e6bae7ef8d01908ee42"), looks := false }, kinds := [], alts := [], laidByText := true, laidKinds := [.data, .data], laidTests := true, laidLooks := .later }
def FnValidCardSaid : Prop := Claim7.holds Tryd.pinned (.plain (OpenSpec.ofChange fnValidSpec)) fnValidCard

/-- THE TIED CARD OF 'laws.FnDecodeLastRuneInString'. -/
def fnDecodeLastRuneInStringCard : Claim7 := { stood := { row := fnDecodeLastRuneInStringRow, standIns := [], harness := (true, "9df226477127c835f6db9eaf99dd36ccb1b408c573fa5e6bae7ef8d01908ee42"), looks := false }, kinds := [], alts := [], laidByText := true, laidKinds := [.data, .data], laidTests := true, laidLooks := .later }
def FnDecodeLastRuneInStringCardSaid : Prop := Claim7.holds Tryd.pinned (.plain (OpenSpec.ofChange fnDecodeLastRuneInStringSpec)) fnDecodeLastRuneInStringCard

/-- THE TIED CARD OF 'laws.FnJoin'. -/
def fnJoinCard : Claim7 := { stood := { row := fnJoinRow, standIns := [], harness := (true, "9df226477127c835f6db9eaf99dd36ccb1b408c573fa5e6bae7ef8d01908ee42"), looks := false }, kinds := [], alts := [], laidByText := true, laidKinds := [.data, .data], laidTests := true, laidLooks := .later }
def FnJoinCardSaid : Prop := Claim7.holds Tryd.pinned (.plain (OpenSpec.ofChange fnJoinSpec)) fnJoinCard

/-- THE TIED CARD OF 'laws.FnDecodeLastRune'. -/
def fnDecodeLastRuneCard : Claim7 := { stood := { row := fnDecodeLastRuneRow, standIns := [], harness := (true, "9df226477127c835f6db9eaf99dd36ccb1b408c573fa5e6bae7ef8d01908ee42"), looks := false }, kinds := [], alts := [], laidByText := true, laidKinds := [.data, .data], laidTests := true, laidLooks := .later }
def FnDecodeLastRuneCardSaid : Prop := Claim7.holds Tryd.pinned (.plain (OpenSpec.ofChange fnDecodeLastRuneSpec)) fnDecodeLastRuneCard

/-- THE TIED CARD OF 'laws.FnReencode'. -/
def fnReencodeCard : Claim7 := { stood := { row := fnReencodeRow, standIns := [], harness := (true, "9df226477127c835f6db9eaf99dd36ccb1b408c573fa5e6bae7ef8d01908ee42"), looks := false }, kinds := [], alts := [], laidByText := true, laidKinds := [.data, .data], laidTests := true, laidLooks := .later }
def FnReencodeCardSaid : Prop := Claim7.holds Tryd.pinned (.plain (OpenSpec.ofChange fnReencodeSpec)) fnReencodeCard

/-- THE TIED CARD OF 'laws.FnCutShort'. -/
def fnCutShortCard : Claim7 := { stood := { row := fnCutShortRow, standIns := [], harness := (true, "9df226477127c835f6db9eaf99dd36ccb1b408c573fa5e6bae7ef8d01908ee42"), looks := false }, kinds := [], alts := [], laidByText := true, laidKinds := [.data, .data], laidTests := true, laidLooks := .later }
def FnCutShortCardSaid : Prop := Claim7.holds Tryd.pinned (.plain (OpenSpec.ofChange fnCutShortSpec)) fnCutShortCard

/-- THE TIED CARD OF 'laws.FnEncodeLast'. -/
def fnEncodeLastCard : Claim7 := { stood := { row := fnEncodeLastRow, standIns := [], harness := (true, "9df226477127c835f6db9eaf99dd36ccb1b408c573fa5e6bae7ef8d01908ee42"), looks := false }, kinds := [], alts := [], laidByText := true, laidKinds := [.data, .data], laidTests := true, laidLooks := .later }
def FnEncodeLastCardSaid : Prop := Claim7.holds Tryd.pinned (.plain (OpenSpec.ofChange fnEncodeLastSpec)) fnEncodeLastCard

/-- THE TIED CARD OF 'laws.FnWalk'. -/
def fnWalkCard : Claim7 := { stood := { row := fnWalkRow, standIns := [], harness := (true, "9df226477127c835f6db9eaf99dd36ccb1b408c573fa5e6bae7ef8d01908ee42"), looks := false }, kinds := [], alts := [], laidByText := true, laidKinds := [.data, .data], laidTests := true, laidLooks := .later }
def FnWalkCardSaid : Prop := Claim7.holds Tryd.pinned (.plain (OpenSpec.ofChange fnWalkSpec)) fnWalkCard

/-- THE SECOND FORM's CARD OF 'laws.FnWalkBack'. -/
def fnWalkBackUptoCard : Claim7 := { stood := { row := fnWalkBackUptoRow, standIns := [], harness := (true, "9df226477127c835f6db9eaf99dd36ccb1b408c573fa5e6bae7ef8d01908ee42"), looks := false }, kinds := [], alts := [], laidByText := true, laidKinds := [.data, .data], laidTests := true, laidLooks := .later }
def FnWalkBackUptoCardSaid : Prop := Claim7.holds Tryd.pinned (.plain (OpenSpec.upto fnWalkBackSpec)) fnWalkBackUptoCard

/-- THE SECOND FORM's CARD OF 'laws.FnEncodeBack'. -/
def fnEncodeBackUptoCard : Claim7 := { stood := { row := fnEncodeBackUptoRow, standIns := [], harness := (true, "9df226477127c835f6db9eaf99dd36ccb1b408c573fa5e6bae7ef8d01908ee42"), looks := false }, kinds := [], alts := [], laidByText := true, laidKinds := [.data, .data], laidTests := true, laidLooks := .later }
def FnEncodeBackUptoCardSaid : Prop := Claim7.holds Tryd.pinned (.plain (OpenSpec.upto fnEncodeBackSpec)) fnEncodeBackUptoCard

/-- THE SECOND FORM's CARD OF 'laws.FnFullRuneInString'. -/
def fnFullRuneInStringUptoCard : Claim7 := { stood := { row := fnFullRuneInStringUptoRow, standIns := [], harness := (true, "9df226477127c835f6db9eaf99dd36ccb1b408c573fa5e6bae7ef8d01908ee42"), looks := false }, kinds := [], alts := [], laidByText := true, laidKinds := [.data, .data], laidTests := true, laidLooks := .later }
def FnFullRuneInStringUptoCardSaid : Prop := Claim7.holds Tryd.pinned (.plain (OpenSpec.upto fnFullRuneInStringSpec)) fnFullRuneInStringUptoCard

/-- THE SECOND FORM's CARD OF 'laws.FnStrings'. -/
def fnStringsUptoCard : Claim7 := { stood := { row := fnStringsUptoRow, standIns := [], harness := (true, "9df226477127c835f6db9eaf99dd36ccb1b408c573fa5e6bae7ef8d01908ee42"), looks := false }, kinds := [], alts := [], laidByText := true, laidKinds := [.data, .data], laidTests := true, laidLooks := .later }
def FnStringsUptoCardSaid : Prop := Claim7.holds Tryd.pinned (.plain (OpenSpec.upto fnStringsSpec)) fnStringsUptoCard

/-- THE SECOND FORM's CARD OF 'laws.FnFullRune'. -/
def fnFullRuneUptoCard : Claim7 := { stood := { row := fnFullRuneUptoRow, standIns := [], harness := (true, "9df226477127c835f6db9eaf99dd36ccb1b408c573fa5e6bae7ef8d01908ee42"), looks := false }, kinds := [], alts := [], laidByText := true, laidKinds := [.data, .data], laidTests := true, laidLooks := .later }
def FnFullRuneUptoCardSaid : Prop := Claim7.holds Tryd.pinned (.plain (OpenSpec.upto fnFullRuneSpec)) fnFullRuneUptoCard

/-- THE SECOND FORM's CARD OF 'laws.FnDecodeRuneInString'. -/
def fnDecodeRuneInStringUptoCard : Claim7 := { stood := { row := fnDecodeRuneInStringUptoRow, standIns := [], harness := (true, "9df226477127c835f6db9eaf99dd36ccb1b408c573fa5e6bae7ef8d01908ee42"), looks := false }, kinds := [], alts := [], laidByText := true, laidKinds := [.data, .data], laidTests := true, laidLooks := .later }
def FnDecodeRuneInStringUptoCardSaid : Prop := Claim7.holds Tryd.pinned (.plain (OpenSpec.upto fnDecodeRuneInStringSpec)) fnDecodeRuneInStringUptoCard

/-- THE SECOND FORM's CARD OF 'laws.FnValidString'. -/
def fnValidStringUptoCard : Claim7 := { stood := { row := fnValidStringUptoRow, standIns := [], harness := (true, "9df226477127c835f6db9eaf99dd36ccb1b408c573fa5e6bae7ef8d01908ee42"), looks := false }, kinds := [], alts := [], laidByText := true, laidKinds := [.data, .data], laidTests := true, laidLooks := .later }
def FnValidStringUptoCardSaid : Prop := Claim7.holds Tryd.pinned (.plain (OpenSpec.upto fnValidStringSpec)) fnValidStringUptoCard

/-- THE SECOND FORM's CARD OF 'laws.FnDecodeRune'. -/
def fnDecodeRuneUptoCard : Claim7 := { stood := { row := fnDecodeRuneUptoRow, standIns := [], harness := (true, "9df226477127c835f6db9eaf99dd36ccb1b408c573fa5e6bae7ef8d01908ee42"), looks := false }, kinds := [], alts := [], laidByText := true, laidKinds := [.data, .data], laidTests := true, laidLooks := .later }
def FnDecodeRuneUptoCardSaid : Prop := Claim7.holds Tryd.pinned (.plain (OpenSpec.upto fnDecodeRuneSpec)) fnDecodeRuneUptoCard

/-- THE SECOND FORM's CARD OF 'laws.FnValid'. -/
def fnValidUptoCard : Claim7 := { stood := { row := fnValidUptoRow, standIns := [], harness := (true, "9df226477127c835f6db9eaf99dd36ccb1b408c573fa5e6bae7ef8d01908ee42"), looks := false }, kinds := [], alts := [], laidByText := true, laidKinds := [.data, .data], laidTests := true, laidLooks := .later }
def FnValidUptoCardSaid : Prop := Claim7.holds Tryd.pinned (.plain (OpenSpec.upto fnValidSpec)) fnValidUptoCard

/-- THE SECOND FORM's CARD OF 'laws.FnDecodeLastRuneInString'. -/
def fnDecodeLastRuneInStringUptoCard : Claim7 := { stood := { row := fnDecodeLastRuneInStringUptoRow, standIns := [], harness := (true, "9df226477127c835f6db9eaf99dd36ccb1b408c573fa5e6bae7ef8d01908ee42"), looks := false }, kinds := [], alts := [], laidByText := true, laidKinds := [.data, .data], laidTests := true, laidLooks := .later }
def FnDecodeLastRuneInStringUptoCardSaid : Prop := Claim7.holds Tryd.pinned (.plain (OpenSpec.upto fnDecodeLastRuneInStringSpec)) fnDecodeLastRuneInStringUptoCard

/-- THE SECOND FORM's CARD OF 'laws.FnJoin'. -/
def fnJoinUptoCard : Claim7 := { stood := { row := fnJoinUptoRow, standIns := [], harness := (true, "9df226477127c835f6db9eaf99dd36ccb1b408c573fa5e6bae7ef8d01908ee42"), looks := false }, kinds := [], alts := [], laidByText := true, laidKinds := [.data, .data], laidTests := true, laidLooks := .later }
def FnJoinUptoCardSaid : Prop := Claim7.holds Tryd.pinned (.plain (OpenSpec.upto fnJoinSpec)) fnJoinUptoCard

/-- THE SECOND FORM's CARD OF 'laws.FnDecodeLastRune'. -/
def fnDecodeLastRuneUptoCard : Claim7 := { stood := { row := fnDecodeLastRuneUptoRow, standIns := [], harness := (true, "9df226477127c835f6db9eaf99dd36ccb1b408c573fa5e6bae7ef8d01908ee42"), looks := false }, kinds := [], alts := [], laidByText := true, laidKinds := [.data, .data], laidTests := true, laidLooks := .later }
def FnDecodeLastRuneUptoCardSaid : Prop := Claim7.holds Tryd.pinned (.plain (OpenSpec.upto fnDecodeLastRuneSpec)) fnDecodeLastRuneUptoCard

/-- THE SECOND FORM's CARD OF 'laws.FnReencode'. -/
def fnReencodeUptoCard : Claim7 := { stood := { row := fnReencodeUptoRow, standIns := [], harness := (true, "9df226477127c835f6db9eaf99dd36ccb1b408c573fa5e6bae7ef8d01908ee42"), looks := false }, kinds := [], alts := [], laidByText := true, laidKinds := [.data, .data], laidTests := true, laidLooks := .later }
def FnReencodeUptoCardSaid : Prop := Claim7.holds Tryd.pinned (.plain (OpenSpec.upto fnReencodeSpec)) fnReencodeUptoCard

/-- THE SECOND FORM's CARD OF 'laws.FnCutShort'. -/
def fnCutShortUptoCard : Claim7 := { stood := { row := fnCutShortUptoRow, standIns := [], harness := (true, "9df226477127c835f6db9eaf99dd36ccb1b408c573fa5e6bae7ef8d01908ee42"), looks := false }, kinds := [], alts := [], laidByText := true, laidKinds := [.data, .data], laidTests := true, laidLooks := .later }
def FnCutShortUptoCardSaid : Prop := Claim7.holds Tryd.pinned (.plain (OpenSpec.upto fnCutShortSpec)) fnCutShortUptoCard

/-- THE SECOND FORM's CARD OF 'laws.FnEncodeLast'. -/
def fnEncodeLastUptoCard : Claim7 := { stood := { row := fnEncodeLastUptoRow, standIns := [], harness := (true, "9df226477127c835f6db9eaf99dd36ccb1b408c573fa5e6bae7ef8d01908ee42"), looks := false }, kinds := [], alts := [], laidByText := true, laidKinds := [.data, .data], laidTests := true, laidLooks := .later }
def FnEncodeLastUptoCardSaid : Prop := Claim7.holds Tryd.pinned (.plain (OpenSpec.upto fnEncodeLastSpec)) fnEncodeLastUptoCard

/-- THE SECOND FORM's CARD OF 'laws.FnWalk'. -/
def fnWalkUptoCard : Claim7 := { stood := { row := fnWalkUptoRow, standIns := [], harness := (true, "9df226477127c835f6db9eaf99dd36ccb1b408c573fa5e6bae7ef8d01908ee42"), looks := false }, kinds := [], alts := [], laidByText := true, laidKinds := [.data, .data], laidTests := true, laidLooks := .later }
def FnWalkUptoCardSaid : Prop := Claim7.holds Tryd.pinned (.plain (OpenSpec.upto fnWalkSpec)) fnWalkUptoCard
end Rows
end Go.Proofs.YtincmkjffohekaaDoor
