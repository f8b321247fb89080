/-
  DERIVED. GIVEN WITH THE SEED: THE CARDS: each row of YtgmmenfnhppofaaDoorRows.lean that lists a variable, with what it lists TIED to the program's text (the seventh form; the later family's looks); each row that meets fmt, with fmt's text TOLD by the authors' own Lean function (tested against real Go, not proved from fmt's source: count such statements apart). THE CARD IS WHAT COUNTS. Prove the row's statement (the work); the ties are given (YtgmmenfnhppofaaDoorTie.lean); close each card by the builder's one call (the guide's Derived/Test/ToyasCard.lean, 'card_holds'). Laid BY PROGRAM, IN A SANDBOX (cutbox-door.mjs). By AI agents, Wed Nov 11 2026. No macro, syntax, notation, axiom, sorry.
-/
import Derived.Test.YtgmmenfnhppofaaDoorRows
import GoSem.ClaimSeven
namespace Go.Proofs.YtgmmenfnhppofaaDoor
namespace Rows

/-- THE TIED CARD OF 'laws.FnApart'. -/
def fnApartCard : Claim7 := { stood := { row := fnApartRow, standIns := [], harness := (true, "2d991d9195be9398d7a127d74f1234219554c053b011e8133a87acb5b6de390b"), looks := true }, kinds := [], alts := [], laidByText := true, laidKinds := [.data], laidTests := true, laidLooks := .later }
def FnApartCardSaid : Prop := Claim7.holds Tryd.pinned (.plain (OpenSpec.ofChange fnApartSpec)) fnApartCard

/-- THE TIED CARD OF 'laws.FnChanged'. -/
def fnChangedCard : Claim7 := { stood := { row := fnChangedRow, standIns := [], harness := (true, "2d991d9195be9398d7a127d74f1234219554c053b011e8133a87acb5b6de390b"), looks := true }, kinds := [], alts := [], laidByText := true, laidKinds := [.data], laidTests := true, laidLooks := .later }
def FnChangedCardSaid : Prop := Claim7.holds Tryd.pinned (.plain (OpenSpec.ofChange fnChangedSpec)) fnChangedCard

/-- THE TIED CARD OF 'laws.FnInside'. -/
def fnInsideCard : Claim7 := { stood := { row := fnInsideRow, standIns := [], harness := (true, "2d991d9195be9398d7a127d74f1234219554c053b011e8133a87acb5b6de390b"), looks := true }, kinds := [], alts := [], laidByText := true, laidKinds := [.data], laidTests := true, laidLooks := .later }
def FnInsideCardSaid : Prop := Claim7.holds Tryd.pinned (.plain (OpenSpec.ofChange fnInsideSpec)) fnInsideCard

/-- THE TIED CARD OF 'laws.FnPeriod'. -/
def fnPeriodCard : Claim7 := { stood := { row := fnPeriodRow, standIns := [], harness := (true, "2d991d9195be9398d7a127d74f1234219554c053b011e8133a87acb5b6de390b"), looks := true }, kinds := [], alts := [], laidByText := true, laidKinds := [.data], laidTests := true, laidLooks := .later }
def FnPeriodCardSaid : Prop := Claim7.holds Tryd.pinned (.plain (OpenSpec.ofChange fnPeriodSpec)) fnPeriodCard

/-- THE TIED CARD OF 'laws.FnPut'. -/
def fnPutCard : Claim7 := { stood := { row := fnPutRow, standIns := [], harness := (true, "2d991d9195be9398d7a127d74f1234219554c053b011e8133a87acb5b6de390b"), looks := true }, kinds := [], alts := [], laidByText := true, laidKinds := [.data], laidTests := true, laidLooks := .later }
def FnPutCardSaid : Prop := Claim7.holds Tryd.pinned (.plain (OpenSpec.ofChange fnPutSpec)) fnPutCard

/-- THE TIED CARD OF 'laws.FnSplit'. -/
def fnSplitCard : Claim7 := { stood := { row := fnSplitRow, standIns := [], harness := (true, "2d991d9195be9398d7a127d74f1234219554c053b011e8133a87acb5b6de390b"), looks := true }, kinds := [], alts := [], laidByText := true, laidKinds := [.data], laidTests := true, laidLooks := .later }
def FnSplitCardSaid : Prop := Claim7.holds Tryd.pinned (.plain (OpenSpec.ofChange fnSplitSpec)) fnSplitCard

/-- THE TIED CARD OF 'laws.FnThrough'. -/
def fnThroughCard : Claim7 := { stood := { row := fnThroughRow, standIns := [], harness := (true, "2d991d9195be9398d7a127d74f1234219554c053b011e8133a87acb5b6de390b"), looks := true }, kinds := [], alts := [], laidByText := true, laidKinds := [.data], laidTests := true, laidLooks := .later }
def FnThroughCardSaid : Prop := Claim7.holds Tryd.pinned (.plain (OpenSpec.ofChange fnThroughSpec)) fnThroughCard

/-- THE TIED CARD OF 'laws.FnTimes'. -/
def fnTimesCard : Claim7 := { stood := { row := fnTimesRow, standIns := [], harness := (true, "2d991d9195be9398d7a127d74f1234219554c053b011e8133a87acb5b6de390b"), looks := true }, kinds := [], alts := [], laidByText := true, laidKinds := [.data], laidTests := true, laidLooks := .later }
def FnTimesCardSaid : Prop := Claim7.holds Tryd.pinned (.plain (OpenSpec.ofChange fnTimesSpec)) fnTimesCard

/-- THE TIED CARD OF 'laws.FnTurned'. -/
def fnTurnedCard : Claim7 := { stood := { row := fnTurnedRow, standIns := [], harness := (true, "2d991d9195be9398d7a127d74f1234219554c053b011e8133a87acb5b6de390b"), looks := true }, kinds := [], alts := [], laidByText := true, laidKinds := [.data], laidTests := true, laidLooks := .later }
def FnTurnedCardSaid : Prop := Claim7.holds Tryd.pinned (.plain (OpenSpec.ofChange fnTurnedSpec)) fnTurnedCard

/-- THE TIED CARD OF 'laws.FnAlone'. -/
def fnAloneCard : Claim7 := { stood := { row := fnAloneRow, standIns := [], harness := (true, "2d991d9195be9398d7a127d74f1234219554c053b011e8133a87acb5b6de390b"), looks := true }, kinds := [], alts := [], laidByText := true, laidKinds := [.data], laidTests := true, laidLooks := .later }
def FnAloneCardSaid : Prop := Claim7.holds Tryd.pinned (.plain (OpenSpec.ofChange fnAloneSpec)) fnAloneCard

/-- THE TIED CARD OF 'laws.FnBefore'. -/
def fnBeforeCard : Claim7 := { stood := { row := fnBeforeRow, standIns := [], harness := (true, "2d991d9195be9398d7a127d74f1234219554c053b011e8133a87acb5b6de390b"), looks := true }, kinds := [], alts := [], laidByText := true, laidKinds := [.data], laidTests := true, laidLooks := .later }
def FnBeforeCardSaid : Prop := Claim7.holds Tryd.pinned (.plain (OpenSpec.ofChange fnBeforeSpec)) fnBeforeCard

/-- THE TIED CARD OF 'laws.FnDifferent'. -/
def fnDifferentCard : Claim7 := { stood := { row := fnDifferentRow, standIns := [], harness := (true, "2d991d9195be9398d7a127d74f1234219554c053b011e8133a87acb5b6de390b"), looks := true }, kinds := [], alts := [], laidByText := true, laidKinds := [.data], laidTests := true, laidLooks := .later }
def FnDifferentCardSaid : Prop := Claim7.holds Tryd.pinned (.plain (OpenSpec.ofChange fnDifferentSpec)) fnDifferentCard

/-- THE TIED CARD OF 'laws.FnFree'. -/
def fnFreeCard : Claim7 := { stood := { row := fnFreeRow, standIns := [], harness := (true, "2d991d9195be9398d7a127d74f1234219554c053b011e8133a87acb5b6de390b"), looks := true }, kinds := [], alts := [], laidByText := true, laidKinds := [.data], laidTests := true, laidLooks := .later }
def FnFreeCardSaid : Prop := Claim7.holds Tryd.pinned (.plain (OpenSpec.ofChange fnFreeSpec)) fnFreeCard

/-- THE TIED CARD OF 'laws.FnLookups'. -/
def fnLookupsCard : Claim7 := { stood := { row := fnLookupsRow, standIns := [], harness := (true, "2d991d9195be9398d7a127d74f1234219554c053b011e8133a87acb5b6de390b"), looks := true }, kinds := [], alts := [], laidByText := true, laidKinds := [.data], laidTests := true, laidLooks := .later }
def FnLookupsCardSaid : Prop := Claim7.holds Tryd.pinned (.plain (OpenSpec.ofChange fnLookupsSpec)) fnLookupsCard

/-- THE TIED CARD OF 'laws.FnMost'. -/
def fnMostCard : Claim7 := { stood := { row := fnMostRow, standIns := [], harness := (true, "2d991d9195be9398d7a127d74f1234219554c053b011e8133a87acb5b6de390b"), looks := true }, kinds := [], alts := [], laidByText := true, laidKinds := [.data], laidTests := true, laidLooks := .later }
def FnMostCardSaid : Prop := Claim7.holds Tryd.pinned (.plain (OpenSpec.ofChange fnMostSpec)) fnMostCard

/-- THE TIED CARD OF 'laws.FnRepeated'. -/
def fnRepeatedCard : Claim7 := { stood := { row := fnRepeatedRow, standIns := [], harness := (true, "2d991d9195be9398d7a127d74f1234219554c053b011e8133a87acb5b6de390b"), looks := true }, kinds := [], alts := [], laidByText := true, laidKinds := [.data], laidTests := true, laidLooks := .later }
def FnRepeatedCardSaid : Prop := Claim7.holds Tryd.pinned (.plain (OpenSpec.ofChange fnRepeatedSpec)) fnRepeatedCard

/-- THE TIED CARD OF 'laws.FnShared'. -/
def fnSharedCard : Claim7 := { stood := { row := fnSharedRow, standIns := [], harness := (true, "2d991d9195be9398d7a127d74f1234219554c053b011e8133a87acb5b6de390b"), looks := true }, kinds := [], alts := [], laidByText := true, laidKinds := [.data], laidTests := true, laidLooks := .later }
def FnSharedCardSaid : Prop := Claim7.holds Tryd.pinned (.plain (OpenSpec.ofChange fnSharedSpec)) fnSharedCard

/-- THE TIED CARD OF 'laws.FnWhere'. -/
def fnWhereCard : Claim7 := { stood := { row := fnWhereRow, standIns := [], harness := (true, "2d991d9195be9398d7a127d74f1234219554c053b011e8133a87acb5b6de390b"), looks := true }, kinds := [], alts := [], laidByText := true, laidKinds := [.data], laidTests := true, laidLooks := .later }
def FnWhereCardSaid : Prop := Claim7.holds Tryd.pinned (.plain (OpenSpec.ofChange fnWhereSpec)) fnWhereCard

/-- THE TIED CARD OF 'laws.FnFull'. -/
def fnFullCard : Claim7 := { stood := { row := fnFullRow, standIns := [], harness := (true, "2d991d9195be9398d7a127d74f1234219554c053b011e8133a87acb5b6de390b"), looks := true }, kinds := [], alts := [], laidByText := true, laidKinds := [.data], laidTests := true, laidLooks := .later }
def FnFullCardSaid : Prop := Claim7.holds Tryd.pinned (.plain (OpenSpec.ofChange fnFullSpec)) fnFullCard

/-- THE TIED CARD OF 'laws.FnRest'. -/
def fnRestCard : Claim7 := { stood := { row := fnRestRow, standIns := [], harness := (true, "2d991d9195be9398d7a127d74f1234219554c053b011e8133a87acb5b6de390b"), looks := true }, kinds := [], alts := [], laidByText := true, laidKinds := [.sentinel, .sentinel, .sentinel, .data, .sentinel], laidTests := true, laidLooks := .later }
def FnRestCardSaid : Prop := Claim7.holds Tryd.pinned (.plain (OpenSpec.ofChange fnRestSpec)) fnRestCard

/-- THE TIED CARD OF 'laws.FnWrittenPieces'. -/
def fnWrittenPiecesCard : Claim7 := { stood := { row := fnWrittenPiecesRow, standIns := [], harness := (true, "2d991d9195be9398d7a127d74f1234219554c053b011e8133a87acb5b6de390b"), looks := true }, kinds := [], alts := [], laidByText := true, laidKinds := [.sentinel, .sentinel, .sentinel, .data, .sentinel], laidTests := true, laidLooks := .later }
def FnWrittenPiecesCardSaid : Prop := Claim7.holds Tryd.pinned (.plain (OpenSpec.ofChange fnWrittenPiecesSpec)) fnWrittenPiecesCard

/-- THE TIED CARD OF 'laws.FnAgain'. -/
def fnAgainCard : Claim7 := { stood := { row := fnAgainRow, standIns := [], harness := (true, "2d991d9195be9398d7a127d74f1234219554c053b011e8133a87acb5b6de390b"), looks := true }, kinds := [], alts := [], laidByText := true, laidKinds := [.sentinel, .sentinel, .sentinel, .data, .sentinel], laidTests := true, laidLooks := .later }
def FnAgainCardSaid : Prop := Claim7.holds Tryd.pinned (.plain (OpenSpec.ofChange fnAgainSpec)) fnAgainCard

/-- THE TIED CARD OF 'laws.FnStreamLess'. -/
def fnStreamLessCard : Claim7 := { stood := { row := fnStreamLessRow, standIns := [], harness := (true, "2d991d9195be9398d7a127d74f1234219554c053b011e8133a87acb5b6de390b"), looks := true }, kinds := [], alts := [], laidByText := true, laidKinds := [.sentinel, .sentinel, .sentinel, .data, .sentinel], laidTests := true, laidLooks := .later }
def FnStreamLessCardSaid : Prop := Claim7.holds Tryd.pinned (.plain (OpenSpec.ofChange fnStreamLessSpec)) fnStreamLessCard

/-- THE SECOND FORM's CARD OF 'laws.FnApart'. -/
def fnApartUptoCard : Claim7 := { stood := { row := fnApartUptoRow, standIns := [], harness := (true, "2d991d9195be9398d7a127d74f1234219554c053b011e8133a87acb5b6de390b"), looks := true }, kinds := [], alts := [], laidByText := true, laidKinds := [.data], laidTests := true, laidLooks := .later }
def FnApartUptoCardSaid : Prop := Claim7.holds Tryd.pinned (.plain (OpenSpec.upto fnApartSpec)) fnApartUptoCard

/-- THE SECOND FORM's CARD OF 'laws.FnChanged'. -/
def fnChangedUptoCard : Claim7 := { stood := { row := fnChangedUptoRow, standIns := [], harness := (true, "2d991d9195be9398d7a127d74f1234219554c053b011e8133a87acb5b6de390b"), looks := true }, kinds := [], alts := [], laidByText := true, laidKinds := [.data], laidTests := true, laidLooks := .later }
def FnChangedUptoCardSaid : Prop := Claim7.holds Tryd.pinned (.plain (OpenSpec.upto fnChangedSpec)) fnChangedUptoCard

/-- THE SECOND FORM's CARD OF 'laws.FnInside'. -/
def fnInsideUptoCard : Claim7 := { stood := { row := fnInsideUptoRow, standIns := [], harness := (true, "2d991d9195be9398d7a127d74f1234219554c053b011e8133a87acb5b6de390b"), looks := true }, kinds := [], alts := [], laidByText := true, laidKinds := [.data], laidTests := true, laidLooks := .later }
def FnInsideUptoCardSaid : Prop := Claim7.holds Tryd.pinned (.plain (OpenSpec.upto fnInsideSpec)) fnInsideUptoCard

/-- THE SECOND FORM's CARD OF 'laws.FnPeriod'. -/
def fnPeriodUptoCard : Claim7 := { stood := { row := fnPeriodUptoRow, standIns := [], harness := (true, "2d991d9195be9398d7a127d74f1234219554c053b011e8133a87acb5b6de390b"), looks := true }, kinds := [], alts := [], laidByText := true, laidKinds := [.data], laidTests := true, laidLooks := .later }
def FnPeriodUptoCardSaid : Prop := Claim7.holds Tryd.pinned (.plain (OpenSpec.upto fnPeriodSpec)) fnPeriodUptoCard

/-- THE SECOND FORM's CARD OF 'laws.FnPut'. -/
def fnPutUptoCard : Claim7 := { stood := { row := fnPutUptoRow, standIns := [], harness := (true, "2d991d9195be9398d7a127d74f1234219554c053b011e8133a87acb5b6de390b"), looks := true }, kinds := [], alts := [], laidByText := true, laidKinds := [.data], laidTests := true, laidLooks := .later }
def FnPutUptoCardSaid : Prop := Claim7.holds Tryd.pinned (.plain (OpenSpec.upto fnPutSpec)) fnPutUptoCard

/-- THE SECOND FORM's CARD OF 'laws.FnSplit'. -/
def fnSplitUptoCard : Claim7 := { stood := { row := fnSplitUptoRow, standIns := [], harness := (true, "2d991d9195be9398d7a127d74f1234219554c053b011e8133a87acb5b6de390b"), looks := true }, kinds := [], alts := [], laidByText := true, laidKinds := [.data], laidTests := true, laidLooks := .later }
def FnSplitUptoCardSaid : Prop := Claim7.holds Tryd.pinned (.plain (OpenSpec.upto fnSplitSpec)) fnSplitUptoCard

/-- THE SECOND FORM's CARD OF 'laws.FnThrough'. -/
def fnThroughUptoCard : Claim7 := { stood := { row := fnThroughUptoRow, standIns := [], harness := (true, "2d991d9195be9398d7a127d74f1234219554c053b011e8133a87acb5b6de390b"), looks := true }, kinds := [], alts := [], laidByText := true, laidKinds := [.data], laidTests := true, laidLooks := .later }
def FnThroughUptoCardSaid : Prop := Claim7.holds Tryd.pinned (.plain (OpenSpec.upto fnThroughSpec)) fnThroughUptoCard

/-- THE SECOND FORM's CARD OF 'laws.FnTimes'. -/
def fnTimesUptoCard : Claim7 := { stood := { row := fnTimesUptoRow, standIns := [], harness := (true, "2d991d9195be9398d7a127d74f1234219554c053b011e8133a87acb5b6de390b"), looks := true }, kinds := [], alts := [], laidByText := true, laidKinds := [.data], laidTests := true, laidLooks := .later }
def FnTimesUptoCardSaid : Prop := Claim7.holds Tryd.pinned (.plain (OpenSpec.upto fnTimesSpec)) fnTimesUptoCard

/-- THE SECOND FORM's CARD OF 'laws.FnTurned'. -/
def fnTurnedUptoCard : Claim7 := { stood := { row := fnTurnedUptoRow, standIns := [], harness := (true, "2d991d9195be9398d7a127d74f1234219554c053b011e8133a87acb5b6de390b"), looks := true }, kinds := [], alts := [], laidByText := true, laidKinds := [.data], laidTests := true, laidLooks := .later }
def FnTurnedUptoCardSaid : Prop := Claim7.holds Tryd.pinned (.plain (OpenSpec.upto fnTurnedSpec)) fnTurnedUptoCard

/-- THE SECOND FORM's CARD OF 'laws.FnAlone'. -/
def fnAloneUptoCard : Claim7 := { stood := { row := fnAloneUptoRow, standIns := [], harness := (true, "2d991d9195be9398d7a127d74f1234219554c053b011e8133a87acb5b6de390b"), looks := true }, kinds := [], alts := [], laidByText := true, laidKinds := [.data], laidTests := true, laidLooks := .later }
def FnAloneUptoCardSaid : Prop := Claim7.holds Tryd.pinned (.plain (OpenSpec.upto fnAloneSpec)) fnAloneUptoCard

/-- THE SECOND FORM's CARD OF 'laws.FnBefore'. -/
def fnBeforeUptoCard : Claim7 := { stood := { row := fnBeforeUptoRow, standIns := [], harness := (true, "2d991d9195be9398d7a127d74f1234219554c053b011e8133a87acb5b6de390b"), looks := true }, kinds := [], alts := [], laidByText := true, laidKinds := [.data], laidTests := true, laidLooks := .later }
def FnBeforeUptoCardSaid : Prop := Claim7.holds Tryd.pinned (.plain (OpenSpec.upto fnBeforeSpec)) fnBeforeUptoCard

/-- THE SECOND FORM's CARD OF 'laws.FnDifferent'. -/
def fnDifferentUptoCard : Claim7 := { stood := { row := fnDifferentUptoRow, standIns := [], harness := (true, "2d991d9195be9398d7a127d74f1234219554c053b011e8133a87acb5b6de390b"), looks := true }, kinds := [], alts := [], laidByText := true, laidKinds := [.data], laidTests := true, laidLooks := .later }
def FnDifferentUptoCardSaid : Prop := Claim7.holds Tryd.pinned (.plain (OpenSpec.upto fnDifferentSpec)) fnDifferentUptoCard

/-- THE SECOND FORM's CARD OF 'laws.FnFree'. -/
def fnFreeUptoCard : Claim7 := { stood := { row := fnFreeUptoRow, standIns := [], harness := (true, "2d991d9195be9398d7a127d74f1234219554c053b011e8133a87acb5b6de390b"), looks := true }, kinds := [], alts := [], laidByText := true, laidKinds := [.data], laidTests := true, laidLooks := .later }
def FnFreeUptoCardSaid : Prop := Claim7.holds Tryd.pinned (.plain (OpenSpec.upto fnFreeSpec)) fnFreeUptoCard

/-- THE SECOND FORM's CARD OF 'laws.FnLookups'. -/
def fnLookupsUptoCard : Claim7 := { stood := { row := fnLookupsUptoRow, standIns := [], harness := (true, "2d991d9195be9398d7a127d74f1234219554c053b011e8133a87acb5b6de390b"), looks := true }, kinds := [], alts := [], laidByText := true, laidKinds := [.data], laidTests := true, laidLooks := .later }
def FnLookupsUptoCardSaid : Prop := Claim7.holds Tryd.pinned (.plain (OpenSpec.upto fnLookupsSpec)) fnLookupsUptoCard

/-- THE SECOND FORM's CARD OF 'laws.FnMost'. -/
def fnMostUptoCard : Claim7 := { stood := { row := fnMostUptoRow, standIns := [], harness := (true, "2d991d9195be9398d7a127d74f1234219554c053b011e8133a87acb5b6de390b"), looks := true }, kinds := [], alts := [], laidByText := true, laidKinds := [.data], laidTests := true, laidLooks := .later }
def FnMostUptoCardSaid : Prop := Claim7.holds Tryd.pinned (.plain (OpenSpec.upto fnMostSpec)) fnMostUptoCard

/-- THE SECOND FORM's CARD OF 'laws.FnRepeated'. -/
def fnRepeatedUptoCard : Claim7 := { stood := { row := fnRepeatedUptoRow, standIns := [], harness := (true, "2d991d9195be9398d7a127d74f1234219554c053b011e8133a87acb5b6de390b"), looks := true }, kinds := [], alts := [], laidByText := true, laidKinds := [.data], laidTests := true, laidLooks := .later }
def FnRepeatedUptoCardSaid : Prop := Claim7.holds Tryd.pinned (.plain (OpenSpec.upto fnRepeatedSpec)) fnRepeatedUptoCard

/-- THE SECOND FORM's CARD OF 'laws.FnShared'. -/
def fnSharedUptoCard : Claim7 := { stood := { row := fnSharedUptoRow, standIns := [], harness := (true, "2d991d9195be9398d7a127d74f1234219554c053b011e8133a87acb5b6de390b"), looks := true }, kinds := [], alts := [], laidByText := true, laidKinds := [.data], laidTests := true, laidLooks := .later }
def FnSharedUptoCardSaid : Prop := Claim7.holds Tryd.pinned (.plain (OpenSpec.upto fnSharedSpec)) fnSharedUptoCard

/-- THE SECOND FORM's CARD OF 'laws.FnWhere'. -/
def fnWhereUptoCard : Claim7 := { stood := { row := fnWhereUptoRow, standIns := [], harness := (true, "2d991d9195be9398d7a127d74f1234219554c053b011e8133a87acb5b6de390b"), looks := true }, kinds := [], alts := [], laidByText := true, laidKinds := [.data], laidTests := true, laidLooks := .later }
def FnWhereUptoCardSaid : Prop := Claim7.holds Tryd.pinned (.plain (OpenSpec.upto fnWhereSpec)) fnWhereUptoCard

/-- THE SECOND FORM's CARD OF 'laws.FnFull'. -/
def fnFullUptoCard : Claim7 := { stood := { row := fnFullUptoRow, standIns := [], harness := (true, "2d991d9195be9398d7a127d74f1234219554c053b011e8133a87acb5b6de390b"), looks := true }, kinds := [], alts := [], laidByText := true, laidKinds := [.data], laidTests := true, laidLooks := .later }
def FnFullUptoCardSaid : Prop := Claim7.holds Tryd.pinned (.plain (OpenSpec.upto fnFullSpec)) fnFullUptoCard

/-- THE SECOND FORM's CARD OF 'laws.FnRest'. -/
def fnRestUptoCard : Claim7 := { stood := { row := fnRestUptoRow, standIns := [], harness := (true, "2d991d9195be9398d7a127d74f1234219554c053b011e8133a87acb5b6de390b"), looks := true }, kinds := [], alts := [], laidByText := true, laidKinds := [.sentinel, .sentinel, .sentinel, .data, .sentinel], laidTests := true, laidLooks := .later }
def FnRestUptoCardSaid : Prop := Claim7.holds Tryd.pinned (.plain (OpenSpec.upto fnRestSpec)) fnRestUptoCard

/-- THE SECOND FORM's CARD OF 'laws.FnWrittenPieces'. -/
def fnWrittenPiecesUptoCard : Claim7 := { stood := { row := fnWrittenPiecesUptoRow, standIns := [], harness := (true, "2d991d9195be9398d7a127d74f1234219554c053b011e8133a87acb5b6de390b"), looks := true }, kinds := [], alts := [], laidByText := true, laidKinds := [.sentinel, .sentinel, .sentinel, .data, .sentinel], laidTests := true, laidLooks := .later }
def FnWrittenPiecesUptoCardSaid : Prop := Claim7.holds Tryd.pinned (.plain (OpenSpec.upto fnWrittenPiecesSpec)) fnWrittenPiecesUptoCard

/-- THE SECOND FORM's CARD OF 'laws.FnAgain'. -/
def fnAgainUptoCard : Claim7 := { stood := { row := fnAgainUptoRow, standIns := [], harness := (true, "2d991d9195be9398d7a127d74f1234219554c053b011e8133a87acb5b6de390b"), looks := true }, kinds := [], alts := [], laidByText := true, laidKinds := [.sentinel, .sentinel, .sentinel, .data, .sentinel], laidTests := true, laidLooks := .later }
def FnAgainUptoCardSaid : Prop := Claim7.holds Tryd.pinned (.plain (OpenSpec.upto fnAgainSpec)) fnAgainUptoCard

/-- THE SECOND FORM's CARD OF 'laws.FnStreamLess'. -/
def fnStreamLessUptoCard : Claim7 := { stood := { row := fnStreamLessUptoRow, standIns := [], harness := (true, "2d991d9195be9398d7a127d74f1234219554c053b011e8133a87acb5b6de390b"), looks := true }, kinds := [], alts := [], laidByText := true, laidKinds := [.sentinel, .sentinel, .sentinel, .data, .sentinel], laidTests := true, laidLooks := .later }
def FnStreamLessUptoCardSaid : Prop := Claim7.holds Tryd.pinned (.plain (OpenSpec.upto fnStreamLessSpec)) fnStreamLessUptoCard
end Rows
end Go.Proofs.YtgmmenfnhppofaaDoor
