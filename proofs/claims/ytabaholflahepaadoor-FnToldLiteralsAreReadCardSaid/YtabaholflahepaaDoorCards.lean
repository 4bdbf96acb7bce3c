/-
  DERIVED. GIVEN WITH THE SEED: THE CARDS: each row of YtabaholflahepaaDoorRows.lean that lists a variable, with what it lists TIED to the program's text (the seventh form; the later family's looks); each row that meets fmt, with fmt's text TOLD by the authors' own Lean function (tested against real Go, not proved from fmt's source: count such statements apart). THE CARD IS WHAT COUNTS. Prove the row's statement (the work); the ties are given (YtabaholflahepaaDoorTie.lean); close each card by the builder's one call (the guide's Derived/Test/ToyasCard.lean, 'card_holds'). Laid BY PROGRAM, IN A SANDBOX (cutbox-door.mjs). By AI agents, Wed Nov 11 2026. No macro, syntax, notation, axiom, sorry.
-/
import Derived.Test.YtabaholflahepaaDoorRows
import GoSem.ClaimSeven
namespace Go.Proofs.YtabaholflahepaaDoor
namespace Rows

/-- THE TIED CARD OF 'laws.FnLow'. -/
def fnLowCard : Claim7 := { stood := { row := fnLowRow, standIns := [], harness := (true, "6c3e4491ddbf9c963460a7bd4ef06c2cd651d93327644bae65ebd9dafa6e579c"), looks := true }, kinds := [], alts := [], laidByText := true, laidKinds := [.sentinel, .sentinel], laidTests := true, laidLooks := .later }
def FnLowCardSaid : Prop := Claim7.holds Tryd.pinned (.plain (OpenSpec.ofChange fnLowSpec)) fnLowCard

/-- THE TIED CARD OF 'laws.FnBack'. -/
def fnBackCard : Claim7 := { stood := { row := fnBackRow, standIns := [], harness := (true, "6c3e4491ddbf9c963460a7bd4ef06c2cd651d93327644bae65ebd9dafa6e579c"), looks := true }, kinds := [], alts := [], laidByText := true, laidKinds := [.sentinel, .sentinel], laidTests := true, laidLooks := .later }
def FnBackCardSaid : Prop := Claim7.holds Tryd.pinned (.plain (OpenSpec.ofChange fnBackSpec)) fnBackCard

/-- THE TIED CARD OF 'laws.FnBuild'. -/
def fnBuildCard : Claim7 := { stood := { row := fnBuildRow, standIns := [], harness := (true, "6c3e4491ddbf9c963460a7bd4ef06c2cd651d93327644bae65ebd9dafa6e579c"), looks := true }, kinds := [], alts := [], laidByText := true, laidKinds := [.sentinel], laidTests := true, laidLooks := .later }
def FnBuildCardSaid : Prop := Claim7.holds Tryd.pinned (.plain (OpenSpec.ofChange fnBuildSpec)) fnBuildCard

/-- THE TIED CARD OF 'laws.FnStatesPart'. -/
def fnStatesPartCard : Claim7 := { stood := { row := fnStatesPartRow, standIns := [], harness := (true, "6c3e4491ddbf9c963460a7bd4ef06c2cd651d93327644bae65ebd9dafa6e579c"), looks := true }, kinds := [], alts := [], laidByText := true, laidKinds := [.sentinel], laidTests := true, laidLooks := .later }
def FnStatesPartCardSaid : Prop := Claim7.holds Tryd.pinned (.plain (OpenSpec.ofChange fnStatesPartSpec)) fnStatesPartCard

/-- THE TIED CARD OF 'laws.FnCodesFollow'. -/
def fnCodesFollowCard : Claim7 := { stood := { row := fnCodesFollowRow, standIns := [], harness := (true, "6c3e4491ddbf9c963460a7bd4ef06c2cd651d93327644bae65ebd9dafa6e579c"), looks := true }, kinds := [], alts := [], laidByText := true, laidKinds := [.sentinel, .data, .data], laidTests := true, laidLooks := .later }
def FnCodesFollowCardSaid : Prop := Claim7.holds Tryd.pinned (.plain (OpenSpec.ofChange fnCodesFollowSpec)) fnCodesFollowCard

/-- THE TIED CARD OF 'laws.FnOffsetRows'. -/
def fnOffsetRowsCard : Claim7 := { stood := { row := fnOffsetRowsRow, standIns := [], harness := (true, "6c3e4491ddbf9c963460a7bd4ef06c2cd651d93327644bae65ebd9dafa6e579c"), looks := true }, kinds := [], alts := [], laidByText := true, laidKinds := [.sentinel, .data, .data], laidTests := true, laidLooks := .later }
def FnOffsetRowsCardSaid : Prop := Claim7.holds Tryd.pinned (.plain (OpenSpec.ofChange fnOffsetRowsSpec)) fnOffsetRowsCard

/-- THE TIED CARD OF 'laws.FnRows'. -/
def fnRowsCard : Claim7 := { stood := { row := fnRowsRow, standIns := [], harness := (true, "6c3e4491ddbf9c963460a7bd4ef06c2cd651d93327644bae65ebd9dafa6e579c"), looks := true }, kinds := [], alts := [], laidByText := true, laidKinds := [.sentinel, .data, .data], laidTests := true, laidLooks := .later }
def FnRowsCardSaid : Prop := Claim7.holds Tryd.pinned (.plain (OpenSpec.ofChange fnRowsSpec)) fnRowsCard

/-- THE TIED CARD OF 'laws.FnTable'. -/
def fnTableCard : Claim7 := { stood := { row := fnTableRow, standIns := [], harness := (true, "6c3e4491ddbf9c963460a7bd4ef06c2cd651d93327644bae65ebd9dafa6e579c"), looks := true }, kinds := [], alts := [], laidByText := true, laidKinds := [.sentinel, .sentinel], laidTests := true, laidLooks := .later }
def FnTableCardSaid : Prop := Claim7.holds Tryd.pinned (.plain (OpenSpec.ofChange fnTableSpec)) fnTableCard

/-- THE TIED CARD OF 'laws.FnToldTableIsRead'. -/
def fnToldTableIsReadCard : Claim7 := { stood := { row := fnToldTableIsReadRow, standIns := [], harness := (true, "6c3e4491ddbf9c963460a7bd4ef06c2cd651d93327644bae65ebd9dafa6e579c"), looks := true }, kinds := [], alts := [], laidByText := true, laidKinds := [.sentinel, .sentinel], laidTests := true, laidLooks := .later }
def FnToldTableIsReadCardSaid : Prop := Claim7.holds Tryd.pinned (.plain (OpenSpec.ofChange fnToldTableIsReadSpec)) fnToldTableIsReadCard

/-- THE TIED CARD OF 'laws.FnToldTreeIsRead'. -/
def fnToldTreeIsReadCard : Claim7 := { stood := { row := fnToldTreeIsReadRow, standIns := [], harness := (true, "6c3e4491ddbf9c963460a7bd4ef06c2cd651d93327644bae65ebd9dafa6e579c"), looks := true }, kinds := [], alts := [], laidByText := true, laidKinds := [.sentinel, .sentinel], laidTests := true, laidLooks := .later }
def FnToldTreeIsReadCardSaid : Prop := Claim7.holds Tryd.pinned (.plain (OpenSpec.ofChange fnToldTreeIsReadSpec)) fnToldTreeIsReadCard

/-- THE TIED CARD OF 'laws.FnTree'. -/
def fnTreeCard : Claim7 := { stood := { row := fnTreeRow, standIns := [], harness := (true, "6c3e4491ddbf9c963460a7bd4ef06c2cd651d93327644bae65ebd9dafa6e579c"), looks := true }, kinds := [], alts := [], laidByText := true, laidKinds := [.sentinel, .sentinel], laidTests := true, laidLooks := .later }
def FnTreeCardSaid : Prop := Claim7.holds Tryd.pinned (.plain (OpenSpec.ofChange fnTreeSpec)) fnTreeCard

/-- THE TIED CARD OF 'laws.FnLiterals'. -/
def fnLiteralsCard : Claim7 := { stood := { row := fnLiteralsRow, standIns := [], harness := (true, "6c3e4491ddbf9c963460a7bd4ef06c2cd651d93327644bae65ebd9dafa6e579c"), looks := true }, kinds := [], alts := [], laidByText := true, laidKinds := [.sentinel, .sentinel], laidTests := true, laidLooks := .later }
def FnLiteralsCardSaid : Prop := Claim7.holds Tryd.pinned (.plain (OpenSpec.ofChange fnLiteralsSpec)) fnLiteralsCard

/-- THE TIED CARD OF 'laws.FnToldLiteralsAreRead'. -/
def fnToldLiteralsAreReadCard : Claim7 := { stood := { row := fnToldLiteralsAreReadRow, standIns := [], harness := (true, "6c3e4491ddbf9c963460a7bd4ef06c2cd651d93327644bae65ebd9dafa6e579c"), looks := true }, kinds := [], alts := [], laidByText := true, laidKinds := [.sentinel, .sentinel], laidTests := true, laidLooks := .later }
def FnToldLiteralsAreReadCardSaid : Prop := Claim7.holds Tryd.pinned (.plain (OpenSpec.ofChange fnToldLiteralsAreReadSpec)) fnToldLiteralsAreReadCard

/-- THE SECOND FORM's CARD OF 'laws.FnLow'. -/
def fnLowUptoCard : Claim7 := { stood := { row := fnLowUptoRow, standIns := [], harness := (true, "6c3e4491ddbf9c963460a7bd4ef06c2cd651d93327644bae65ebd9dafa6e579c"), looks := true }, kinds := [], alts := [], laidByText := true, laidKinds := [.sentinel, .sentinel], laidTests := true, laidLooks := .later }
def FnLowUptoCardSaid : Prop := Claim7.holds Tryd.pinned (.plain (OpenSpec.upto fnLowSpec)) fnLowUptoCard

/-- THE SECOND FORM's CARD OF 'laws.FnBack'. -/
def fnBackUptoCard : Claim7 := { stood := { row := fnBackUptoRow, standIns := [], harness := (true, "6c3e4491ddbf9c963460a7bd4ef06c2cd651d93327644bae65ebd9dafa6e579c"), looks := true }, kinds := [], alts := [], laidByText := true, laidKinds := [.sentinel, .sentinel], laidTests := true, laidLooks := .later }
def FnBackUptoCardSaid : Prop := Claim7.holds Tryd.pinned (.plain (OpenSpec.upto fnBackSpec)) fnBackUptoCard

/-- THE SECOND FORM's CARD OF 'laws.FnBuild'. -/
def fnBuildUptoCard : Claim7 := { stood := { row := fnBuildUptoRow, standIns := [], harness := (true, "6c3e4491ddbf9c963460a7bd4ef06c2cd651d93327644bae65ebd9dafa6e579c"), looks := true }, kinds := [], alts := [], laidByText := true, laidKinds := [.sentinel], laidTests := true, laidLooks := .later }
def FnBuildUptoCardSaid : Prop := Claim7.holds Tryd.pinned (.plain (OpenSpec.upto fnBuildSpec)) fnBuildUptoCard

/-- THE SECOND FORM's CARD OF 'laws.FnStatesPart'. -/
def fnStatesPartUptoCard : Claim7 := { stood := { row := fnStatesPartUptoRow, standIns := [], harness := (true, "6c3e4491ddbf9c963460a7bd4ef06c2cd651d93327644bae65ebd9dafa6e579c"), looks := true }, kinds := [], alts := [], laidByText := true, laidKinds := [.sentinel], laidTests := true, laidLooks := .later }
def FnStatesPartUptoCardSaid : Prop := Claim7.holds Tryd.pinned (.plain (OpenSpec.upto fnStatesPartSpec)) fnStatesPartUptoCard

/-- THE SECOND FORM's CARD OF 'laws.FnCodesFollow'. -/
def fnCodesFollowUptoCard : Claim7 := { stood := { row := fnCodesFollowUptoRow, standIns := [], harness := (true, "6c3e4491ddbf9c963460a7bd4ef06c2cd651d93327644bae65ebd9dafa6e579c"), looks := true }, kinds := [], alts := [], laidByText := true, laidKinds := [.sentinel, .data, .data], laidTests := true, laidLooks := .later }
def FnCodesFollowUptoCardSaid : Prop := Claim7.holds Tryd.pinned (.plain (OpenSpec.upto fnCodesFollowSpec)) fnCodesFollowUptoCard

/-- THE SECOND FORM's CARD OF 'laws.FnOffsetRows'. -/
def fnOffsetRowsUptoCard : Claim7 := { stood := { row := fnOffsetRowsUptoRow, standIns := [], harness := (true, "6c3e4491ddbf9c963460a7bd4ef06c2cd651d93327644bae65ebd9dafa6e579c"), looks := true }, kinds := [], alts := [], laidByText := true, laidKinds := [.sentinel, .data, .data], laidTests := true, laidLooks := .later }
def FnOffsetRowsUptoCardSaid : Prop := Claim7.holds Tryd.pinned (.plain (OpenSpec.upto fnOffsetRowsSpec)) fnOffsetRowsUptoCard

/-- THE SECOND FORM's CARD OF 'laws.FnRows'. -/
def fnRowsUptoCard : Claim7 := { stood := { row := fnRowsUptoRow, standIns := [], harness := (true, "6c3e4491ddbf9c963460a7bd4ef06c2cd651d93327644bae65ebd9dafa6e579c"), looks := true }, kinds := [], alts := [], laidByText := true, laidKinds := [.sentinel, .data, .data], laidTests := true, laidLooks := .later }
def FnRowsUptoCardSaid : Prop := Claim7.holds Tryd.pinned (.plain (OpenSpec.upto fnRowsSpec)) fnRowsUptoCard

/-- THE SECOND FORM's CARD OF 'laws.FnTable'. -/
def fnTableUptoCard : Claim7 := { stood := { row := fnTableUptoRow, standIns := [], harness := (true, "6c3e4491ddbf9c963460a7bd4ef06c2cd651d93327644bae65ebd9dafa6e579c"), looks := true }, kinds := [], alts := [], laidByText := true, laidKinds := [.sentinel, .sentinel], laidTests := true, laidLooks := .later }
def FnTableUptoCardSaid : Prop := Claim7.holds Tryd.pinned (.plain (OpenSpec.upto fnTableSpec)) fnTableUptoCard

/-- THE SECOND FORM's CARD OF 'laws.FnToldTableIsRead'. -/
def fnToldTableIsReadUptoCard : Claim7 := { stood := { row := fnToldTableIsReadUptoRow, standIns := [], harness := (true, "6c3e4491ddbf9c963460a7bd4ef06c2cd651d93327644bae65ebd9dafa6e579c"), looks := true }, kinds := [], alts := [], laidByText := true, laidKinds := [.sentinel, .sentinel], laidTests := true, laidLooks := .later }
def FnToldTableIsReadUptoCardSaid : Prop := Claim7.holds Tryd.pinned (.plain (OpenSpec.upto fnToldTableIsReadSpec)) fnToldTableIsReadUptoCard

/-- THE SECOND FORM's CARD OF 'laws.FnToldTreeIsRead'. -/
def fnToldTreeIsReadUptoCard : Claim7 := { stood := { row := fnToldTreeIsReadUptoRow, standIns := [], harness := (true, "6c3e4491ddbf9c963460a7bd4ef06c2cd651d93327644bae65ebd9dafa6e579c"), looks := true }, kinds := [], alts := [], laidByText := true, laidKinds := [.sentinel, .sentinel], laidTests := true, laidLooks := .later }
def FnToldTreeIsReadUptoCardSaid : Prop := Claim7.holds Tryd.pinned (.plain (OpenSpec.upto fnToldTreeIsReadSpec)) fnToldTreeIsReadUptoCard

/-- THE SECOND FORM's CARD OF 'laws.FnTree'. -/
def fnTreeUptoCard : Claim7 := { stood := { row := fnTreeUptoRow, standIns := [], harness := (true, "6c3e4491ddbf9c963460a7bd4ef06c2cd651d93327644bae65ebd9dafa6e579c"), looks := true }, kinds := [], alts := [], laidByText := true, laidKinds := [.sentinel, .sentinel], laidTests := true, laidLooks := .later }
def FnTreeUptoCardSaid : Prop := Claim7.holds Tryd.pinned (.plain (OpenSpec.upto fnTreeSpec)) fnTreeUptoCard

/-- THE SECOND FORM's CARD OF 'laws.FnLiterals'. -/
def fnLiteralsUptoCard : Claim7 := { stood := { row := fnLiteralsUptoRow, standIns := [], harness := (true, "6c3e4491ddbf9c963460a7bd4ef06c2cd651d93327644bae65ebd9dafa6e579c"), looks := true }, kinds := [], alts := [], laidByText := true, laidKinds := [.sentinel, .sentinel], laidTests := true, laidLooks := .later }
def FnLiteralsUptoCardSaid : Prop := Claim7.holds Tryd.pinned (.plain (OpenSpec.upto fnLiteralsSpec)) fnLiteralsUptoCard

/-- THE SECOND FORM's CARD OF 'laws.FnToldLiteralsAreRead'. -/
def fnToldLiteralsAreReadUptoCard : Claim7 := { stood := { row := fnToldLiteralsAreReadUptoRow, standIns := [], harness := (true, "6c3e4491ddbf9c963460a7bd4ef06c2cd651d93327644bae65ebd9dafa6e579c"), looks := true }, kinds := [], alts := [], laidByText := true, laidKinds := [.sentinel, .sentinel], laidTests := true, laidLooks := .later }
def FnToldLiteralsAreReadUptoCardSaid : Prop := Claim7.holds Tryd.pinned (.plain (OpenSpec.upto fnToldLiteralsAreReadSpec)) fnToldLiteralsAreReadUptoCard
end Rows
end Go.Proofs.YtabaholflahepaaDoor
