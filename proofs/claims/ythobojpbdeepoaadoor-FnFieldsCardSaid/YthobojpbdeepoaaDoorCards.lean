/-
  DERIVED. GIVEN WITH THE SEED: THE CARDS: each row of YthobojpbdeepoaaDoorRows.lean that lists a variable, with what it lists TIED to the program's text (the seventh form; the later family's looks); each row that meets fmt, with fmt's text TOLD by the authors' own Lean function (tested against real Go, not proved from fmt's source: count such statements apart). THE CARD IS WHAT COUNTS. Prove the row's statement (the work); the ties are given (YthobojpbdeepoaaDoorTie.lean); close each card by the builder's one call (the guide's Derived/Test/ToyasCard.lean, 'card_holds'). Laid BY PROGRAM, IN A SANDBOX (cutbox-door.mjs). By AI agents, Wed Nov 11 2026. No macro, syntax, notation, axiom, sorry.
-/
import Derived.Test.YthobojpbdeepoaaDoorRows
import GoSem.ClaimSeven
namespace Go.Proofs.YthobojpbdeepoaaDoor
namespace Rows

/-- THE TIED CARD OF 'laws.FnCodeLine'. -/
def fnCodeLineCard : Claim7 := { stood := { row := fnCodeLineRow, standIns := [], harness := (true, "0c6351116538077d799161ffdcac9916ed9d5c43d4811a248526642e6eac45e2"), looks := true }, kinds := [], alts := [], laidByText := true, laidKinds := [.data, .data, .data, .sentinel, .sentinel, .sentinel, .sentinel, .sentinel, .sentinel, .sentinel, .sentinel, .sentinel], laidTests := true, laidLooks := .later }
def FnCodeLineCardSaid : Prop := Claim7.holds Tryd.pinned (.plain (OpenSpec.ofChange fnCodeLineSpec)) fnCodeLineCard

/-- THE TIED CARD OF 'laws.FnAnswerComesBack'. -/
def fnAnswerComesBackCard : Claim7 := { stood := { row := fnAnswerComesBackRow, standIns := [], harness := (true, "0c6351116538077d799161ffdcac9916ed9d5c43d4811a248526642e6eac45e2"), looks := true }, kinds := [], alts := [], laidByText := true, laidKinds := [.data, .data, .data, .sentinel, .sentinel, .sentinel, .sentinel, .sentinel, .sentinel, .sentinel, .sentinel, .sentinel], laidTests := true, laidLooks := .later }
def FnAnswerComesBackCardSaid : Prop := Claim7.holds Tryd.pinned (.plain (OpenSpec.ofChange fnAnswerComesBackSpec)) fnAnswerComesBackCard

/-- THE TIED CARD OF 'laws.FnResponse'. -/
def fnResponseCard : Claim7 := { stood := { row := fnResponseRow, standIns := [], harness := (true, "0c6351116538077d799161ffdcac9916ed9d5c43d4811a248526642e6eac45e2"), looks := true }, kinds := [], alts := [], laidByText := true, laidKinds := [.data, .data, .data, .sentinel, .sentinel, .sentinel, .sentinel, .sentinel, .sentinel, .sentinel, .sentinel, .sentinel], laidTests := true, laidLooks := .later }
def FnResponseCardSaid : Prop := Claim7.holds Tryd.pinned (.plain (OpenSpec.ofChange fnResponseSpec)) fnResponseCard

/-- THE TIED CARD OF 'laws.FnDotWritten'. -/
def fnDotWrittenCard : Claim7 := { stood := { row := fnDotWrittenRow, standIns := [], harness := (true, "0c6351116538077d799161ffdcac9916ed9d5c43d4811a248526642e6eac45e2"), looks := true }, kinds := [], alts := [], laidByText := true, laidKinds := [.sentinel], laidTests := true, laidLooks := .later }
def FnDotWrittenCardSaid : Prop := Claim7.holds Tryd.pinned (.plain (OpenSpec.ofChange fnDotWrittenSpec)) fnDotWrittenCard

/-- THE TIED CARD OF 'laws.FnDotPieces'. -/
def fnDotPiecesCard : Claim7 := { stood := { row := fnDotPiecesRow, standIns := [], harness := (true, "0c6351116538077d799161ffdcac9916ed9d5c43d4811a248526642e6eac45e2"), looks := true }, kinds := [], alts := [], laidByText := true, laidKinds := [.sentinel, .sentinel, .sentinel, .sentinel, .sentinel], laidTests := true, laidLooks := .later }
def FnDotPiecesCardSaid : Prop := Claim7.holds Tryd.pinned (.plain (OpenSpec.ofChange fnDotPiecesSpec)) fnDotPiecesCard

/-- THE TIED CARD OF 'laws.FnDots'. -/
def fnDotsCard : Claim7 := { stood := { row := fnDotsRow, standIns := [], harness := (true, "0c6351116538077d799161ffdcac9916ed9d5c43d4811a248526642e6eac45e2"), looks := true }, kinds := [], alts := [], laidByText := true, laidKinds := [.sentinel, .sentinel, .sentinel, .sentinel, .sentinel], laidTests := true, laidLooks := .later }
def FnDotsCardSaid : Prop := Claim7.holds Tryd.pinned (.plain (OpenSpec.ofChange fnDotsSpec)) fnDotsCard

/-- THE TIED CARD OF 'laws.FnLine'. -/
def fnLineCard : Claim7 := { stood := { row := fnLineRow, standIns := [], harness := (true, "0c6351116538077d799161ffdcac9916ed9d5c43d4811a248526642e6eac45e2"), looks := true }, kinds := [], alts := [], laidByText := true, laidKinds := [.sentinel, .sentinel, .sentinel, .sentinel, .sentinel, .sentinel, .sentinel], laidTests := true, laidLooks := .later }
def FnLineCardSaid : Prop := Claim7.holds Tryd.pinned (.plain (OpenSpec.ofChange fnLineSpec)) fnLineCard

/-- THE TIED CARD OF 'laws.FnRestOfBlockIsDropped'. -/
def fnRestOfBlockIsDroppedCard : Claim7 := { stood := { row := fnRestOfBlockIsDroppedRow, standIns := [], harness := (true, "0c6351116538077d799161ffdcac9916ed9d5c43d4811a248526642e6eac45e2"), looks := true }, kinds := [], alts := [], laidByText := true, laidKinds := [.sentinel, .sentinel, .sentinel, .sentinel, .sentinel, .sentinel, .sentinel], laidTests := true, laidLooks := .later }
def FnRestOfBlockIsDroppedCardSaid : Prop := Claim7.holds Tryd.pinned (.plain (OpenSpec.ofChange fnRestOfBlockIsDroppedSpec)) fnRestOfBlockIsDroppedCard

/-- THE TIED CARD OF 'laws.FnDotLines'. -/
def fnDotLinesCard : Claim7 := { stood := { row := fnDotLinesRow, standIns := [], harness := (true, "0c6351116538077d799161ffdcac9916ed9d5c43d4811a248526642e6eac45e2"), looks := true }, kinds := [], alts := [], laidByText := true, laidKinds := [.sentinel, .sentinel, .sentinel, .sentinel, .sentinel, .sentinel, .sentinel], laidTests := true, laidLooks := .later }
def FnDotLinesCardSaid : Prop := Claim7.holds Tryd.pinned (.plain (OpenSpec.ofChange fnDotLinesSpec)) fnDotLinesCard

/-- THE TIED CARD OF 'laws.FnBlocksFollow'. -/
def fnBlocksFollowCard : Claim7 := { stood := { row := fnBlocksFollowRow, standIns := [], harness := (true, "0c6351116538077d799161ffdcac9916ed9d5c43d4811a248526642e6eac45e2"), looks := true }, kinds := [], alts := [], laidByText := true, laidKinds := [.sentinel, .sentinel, .sentinel, .sentinel, .sentinel, .sentinel], laidTests := true, laidLooks := .later }
def FnBlocksFollowCardSaid : Prop := Claim7.holds Tryd.pinned (.plain (OpenSpec.ofChange fnBlocksFollowSpec)) fnBlocksFollowCard

/-- THE TIED CARD OF 'laws.FnDotsComeBack'. -/
def fnDotsComeBackCard : Claim7 := { stood := { row := fnDotsComeBackRow, standIns := [], harness := (true, "0c6351116538077d799161ffdcac9916ed9d5c43d4811a248526642e6eac45e2"), looks := true }, kinds := [], alts := [], laidByText := true, laidKinds := [.sentinel, .sentinel, .sentinel, .sentinel, .sentinel, .sentinel], laidTests := true, laidLooks := .later }
def FnDotsComeBackCardSaid : Prop := Claim7.holds Tryd.pinned (.plain (OpenSpec.ofChange fnDotsComeBackSpec)) fnDotsComeBackCard

/-- THE TIED CARD OF 'laws.FnContinued'. -/
def fnContinuedCard : Claim7 := { stood := { row := fnContinuedRow, standIns := [], harness := (true, "0c6351116538077d799161ffdcac9916ed9d5c43d4811a248526642e6eac45e2"), looks := true }, kinds := [], alts := [], laidByText := true, laidKinds := [.sentinel, .sentinel, .sentinel, .sentinel, .sentinel, .sentinel, .sentinel, .sentinel], laidTests := true, laidLooks := .later }
def FnContinuedCardSaid : Prop := Claim7.holds Tryd.pinned (.plain (OpenSpec.ofChange fnContinuedSpec)) fnContinuedCard

/-- THE TIED CARD OF 'laws.FnFields'. -/
def fnFieldsCard : Claim7 := { stood := { row := fnFieldsRow, standIns := [], harness := (true, "0c6351116538077d799161ffdcac9916ed9d5c43d4811a248526642e6eac45e2"), looks := true }, kinds := [], alts := [], laidByText := true, laidKinds := [.data, .sentinel, .sentinel, .sentinel, .sentinel, .sentinel, .sentinel, .sentinel, .sentinel, .pinned], laidTests := true, laidLooks := .later }
def FnFieldsCardSaid : Prop := Claim7.holds Tryd.pinned (.plain (OpenSpec.ofChange fnFieldsSpec)) fnFieldsCard

/-- THE TIED CARD OF 'laws.FnFieldsComeBack'. -/
def fnFieldsComeBackCard : Claim7 := { stood := { row := fnFieldsComeBackRow, standIns := [], harness := (true, "0c6351116538077d799161ffdcac9916ed9d5c43d4811a248526642e6eac45e2"), looks := true }, kinds := [], alts := [], laidByText := true, laidKinds := [.data, .sentinel, .sentinel, .sentinel, .sentinel, .sentinel, .sentinel, .sentinel, .sentinel, .pinned], laidTests := true, laidLooks := .later }
def FnFieldsComeBackCardSaid : Prop := Claim7.holds Tryd.pinned (.plain (OpenSpec.ofChange fnFieldsComeBackSpec)) fnFieldsComeBackCard

/-- THE SECOND FORM's CARD OF 'laws.FnCodeLine'. -/
def fnCodeLineUptoCard : Claim7 := { stood := { row := fnCodeLineUptoRow, standIns := [], harness := (true, "0c6351116538077d799161ffdcac9916ed9d5c43d4811a248526642e6eac45e2"), looks := true }, kinds := [], alts := [], laidByText := true, laidKinds := [.data, .data, .data, .sentinel, .sentinel, .sentinel, .sentinel, .sentinel, .sentinel, .sentinel, .sentinel, .sentinel], laidTests := true, laidLooks := .later }
def FnCodeLineUptoCardSaid : Prop := Claim7.holds Tryd.pinned (.plain (OpenSpec.upto fnCodeLineSpec)) fnCodeLineUptoCard

/-- THE SECOND FORM's CARD OF 'laws.FnAnswerComesBack'. -/
def fnAnswerComesBackUptoCard : Claim7 := { stood := { row := fnAnswerComesBackUptoRow, standIns := [], harness := (true, "0c6351116538077d799161ffdcac9916ed9d5c43d4811a248526642e6eac45e2"), looks := true }, kinds := [], alts := [], laidByText := true, laidKinds := [.data, .data, .data, .sentinel, .sentinel, .sentinel, .sentinel, .sentinel, .sentinel, .sentinel, .sentinel, .sentinel], laidTests := true, laidLooks := .later }
def FnAnswerComesBackUptoCardSaid : Prop := Claim7.holds Tryd.pinned (.plain (OpenSpec.upto fnAnswerComesBackSpec)) fnAnswerComesBackUptoCard

/-- THE SECOND FORM's CARD OF 'laws.FnResponse'. -/
def fnResponseUptoCard : Claim7 := { stood := { row := fnResponseUptoRow, standIns := [], harness := (true, "0c6351116538077d799161ffdcac9916ed9d5c43d4811a248526642e6eac45e2"), looks := true }, kinds := [], alts := [], laidByText := true, laidKinds := [.data, .data, .data, .sentinel, .sentinel, .sentinel, .sentinel, .sentinel, .sentinel, .sentinel, .sentinel, .sentinel], laidTests := true, laidLooks := .later }
def FnResponseUptoCardSaid : Prop := Claim7.holds Tryd.pinned (.plain (OpenSpec.upto fnResponseSpec)) fnResponseUptoCard

/-- THE SECOND FORM's CARD OF 'laws.FnDotWritten'. -/
def fnDotWrittenUptoCard : Claim7 := { stood := { row := fnDotWrittenUptoRow, standIns := [], harness := (true, "0c6351116538077d799161ffdcac9916ed9d5c43d4811a248526642e6eac45e2"), looks := true }, kinds := [], alts := [], laidByText := true, laidKinds := [.sentinel], laidTests := true, laidLooks := .later }
def FnDotWrittenUptoCardSaid : Prop := Claim7.holds Tryd.pinned (.plain (OpenSpec.upto fnDotWrittenSpec)) fnDotWrittenUptoCard

/-- THE SECOND FORM's CARD OF 'laws.FnDotPieces'. -/
def fnDotPiecesUptoCard : Claim7 := { stood := { row := fnDotPiecesUptoRow, standIns := [], harness := (true, "0c6351116538077d799161ffdcac9916ed9d5c43d4811a248526642e6eac45e2"), looks := true }, kinds := [], alts := [], laidByText := true, laidKinds := [.sentinel, .sentinel, .sentinel, .sentinel, .sentinel], laidTests := true, laidLooks := .later }
def FnDotPiecesUptoCardSaid : Prop := Claim7.holds Tryd.pinned (.plain (OpenSpec.upto fnDotPiecesSpec)) fnDotPiecesUptoCard

/-- THE SECOND FORM's CARD OF 'laws.FnDots'. -/
def fnDotsUptoCard : Claim7 := { stood := { row := fnDotsUptoRow, standIns := [], harness := (true, "0c6351116538077d799161ffdcac9916ed9d5c43d4811a248526642e6eac45e2"), looks := true }, kinds := [], alts := [], laidByText := true, laidKinds := [.sentinel, .sentinel, .sentinel, .sentinel, .sentinel], laidTests := true, laidLooks := .later }
def FnDotsUptoCardSaid : Prop := Claim7.holds Tryd.pinned (.plain (OpenSpec.upto fnDotsSpec)) fnDotsUptoCard

/-- THE SECOND FORM's CARD OF 'laws.FnLine'. -/
def fnLineUptoCard : Claim7 := { stood := { row := fnLineUptoRow, standIns := [], harness := (true, "0c6351116538077d799161ffdcac9916ed9d5c43d4811a248526642e6eac45e2"), looks := true }, kinds := [], alts := [], laidByText := true, laidKinds := [.sentinel, .sentinel, .sentinel, .sentinel, .sentinel, .sentinel, .sentinel], laidTests := true, laidLooks := .later }
def FnLineUptoCardSaid : Prop := Claim7.holds Tryd.pinned (.plain (OpenSpec.upto fnLineSpec)) fnLineUptoCard

/-- THE SECOND FORM's CARD OF 'laws.FnRestOfBlockIsDropped'. -/
def fnRestOfBlockIsDroppedUptoCard : Claim7 := { stood := { row := fnRestOfBlockIsDroppedUptoRow, standIns := [], harness := (true, "0c6351116538077d799161ffdcac9916ed9d5c43d4811a248526642e6eac45e2"), looks := true }, kinds := [], alts := [], laidByText := true, laidKinds := [.sentinel, .sentinel, .sentinel, .sentinel, .sentinel, .sentinel, .sentinel], laidTests := true, laidLooks := .later }
def FnRestOfBlockIsDroppedUptoCardSaid : Prop := Claim7.holds Tryd.pinned (.plain (OpenSpec.upto fnRestOfBlockIsDroppedSpec)) fnRestOfBlockIsDroppedUptoCard

/-- THE SECOND FORM's CARD OF 'laws.FnDotLines'. -/
def fnDotLinesUptoCard : Claim7 := { stood := { row := fnDotLinesUptoRow, standIns := [], harness := (true, "0c6351116538077d799161ffdcac9916ed9d5c43d4811a248526642e6eac45e2"), looks := true }, kinds := [], alts := [], laidByText := true, laidKinds := [.sentinel, .sentinel, .sentinel, .sentinel, .sentinel, .sentinel, .sentinel], laidTests := true, laidLooks := .later }
def FnDotLinesUptoCardSaid : Prop := Claim7.holds Tryd.pinned (.plain (OpenSpec.upto fnDotLinesSpec)) fnDotLinesUptoCard

/-- THE SECOND FORM's CARD OF 'laws.FnBlocksFollow'. -/
def fnBlocksFollowUptoCard : Claim7 := { stood := { row := fnBlocksFollowUptoRow, standIns := [], harness := (true, "0c6351116538077d799161ffdcac9916ed9d5c43d4811a248526642e6eac45e2"), looks := true }, kinds := [], alts := [], laidByText := true, laidKinds := [.sentinel, .sentinel, .sentinel, .sentinel, .sentinel, .sentinel], laidTests := true, laidLooks := .later }
def FnBlocksFollowUptoCardSaid : Prop := Claim7.holds Tryd.pinned (.plain (OpenSpec.upto fnBlocksFollowSpec)) fnBlocksFollowUptoCard

/-- THE SECOND FORM's CARD OF 'laws.FnDotsComeBack'. -/
def fnDotsComeBackUptoCard : Claim7 := { stood := { row := fnDotsComeBackUptoRow, standIns := [], harness := (true, "0c6351116538077d799161ffdcac9916ed9d5c43d4811a248526642e6eac45e2"), looks := true }, kinds := [], alts := [], laidByText := true, laidKinds := [.sentinel, .sentinel, .sentinel, .sentinel, .sentinel, .sentinel], laidTests := true, laidLooks := .later }
def FnDotsComeBackUptoCardSaid : Prop := Claim7.holds Tryd.pinned (.plain (OpenSpec.upto fnDotsComeBackSpec)) fnDotsComeBackUptoCard

/-- THE SECOND FORM's CARD OF 'laws.FnContinued'. -/
def fnContinuedUptoCard : Claim7 := { stood := { row := fnContinuedUptoRow, standIns := [], harness := (true, "0c6351116538077d799161ffdcac9916ed9d5c43d4811a248526642e6eac45e2"), looks := true }, kinds := [], alts := [], laidByText := true, laidKinds := [.sentinel, .sentinel, .sentinel, .sentinel, .sentinel, .sentinel, .sentinel, .sentinel], laidTests := true, laidLooks := .later }
def FnContinuedUptoCardSaid : Prop := Claim7.holds Tryd.pinned (.plain (OpenSpec.upto fnContinuedSpec)) fnContinuedUptoCard

/-- THE SECOND FORM's CARD OF 'laws.FnFields'. -/
def fnFieldsUptoCard : Claim7 := { stood := { row := fnFieldsUptoRow, standIns := [], harness := (true, "0c6351116538077d799161ffdcac9916ed9d5c43d4811a248526642e6eac45e2"), looks := true }, kinds := [], alts := [], laidByText := true, laidKinds := [.data, .sentinel, .sentinel, .sentinel, .sentinel, .sentinel, .sentinel, .sentinel, .sentinel, .pinned], laidTests := true, laidLooks := .later }
def FnFieldsUptoCardSaid : Prop := Claim7.holds Tryd.pinned (.plain (OpenSpec.upto fnFieldsSpec)) fnFieldsUptoCard

/-- THE SECOND FORM's CARD OF 'laws.FnFieldsComeBack'. -/
def fnFieldsComeBackUptoCard : Claim7 := { stood := { row := fnFieldsComeBackUptoRow, standIns := [], harness := (true, "0c6351116538077d799161ffdcac9916ed9d5c43d4811a248526642e6eac45e2"), looks := true }, kinds := [], alts := [], laidByText := true, laidKinds := [.data, .sentinel, .sentinel, .sentinel, .sentinel, .sentinel, .sentinel, .sentinel, .sentinel, .pinned], laidTests := true, laidLooks := .later }
def FnFieldsComeBackUptoCardSaid : Prop := Claim7.holds Tryd.pinned (.plain (OpenSpec.upto fnFieldsComeBackSpec)) fnFieldsComeBackUptoCard
end Rows
end Go.Proofs.YthobojpbdeepoaaDoor
