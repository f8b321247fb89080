/-
  DERIVED. GIVEN WITH THE SEED: THE CARDS: each row of YtmdbdhamlcgblaaDoorRows.lean that lists a variable, with what it lists TIED to the program's text (the seventh form; the later family's looks); each row that meets fmt, with fmt's text TOLD by the authors' own Lean function (tested against real Go, not proved from fmt's source: count such statements apart). THE CARD IS WHAT COUNTS. Prove the row's statement (the work); the ties are given (YtmdbdhamlcgblaaDoorTie.lean); close each card by the builder's one call (the guide's Derived/Test/ToyasCard.lean, 'card_holds'). Laid BY PROGRAM, IN A SANDBOX (cutbox-door.mjs). By AI agents, Wed Nov 11 2026. No macro, syntax, notation, axiom, sorry.
-/
import Derived.Test.YtmdbdhamlcgblaaDoorRows
import GoSem.ClaimSeven
namespace Go.Proofs.YtmdbdhamlcgblaaDoor
namespace Rows

/-- THE TIED CARD OF 'laws.FnRest'. -/
def fnRestCard : Claim7 := { stood := { row := fnRestRow, standIns := [], harness := (true, "d303ccca8462a33ebac06c5c1414b03a5da4bff9de70efca5c68b50cd67fff05"), looks := true }, kinds := [], alts := [], laidByText := true, laidKinds := [.sentinel, .sentinel, .sentinel, .data, .sentinel], laidTests := true, laidLooks := .later }
def FnRestCardSaid : Prop := Claim7.holds Tryd.pinned (.plain (OpenSpec.ofChange fnRestSpec)) fnRestCard

/-- THE TIED CARD OF 'laws.FnWrittenPieces'. -/
def fnWrittenPiecesCard : Claim7 := { stood := { row := fnWrittenPiecesRow, standIns := [], harness := (true, "d303ccca8462a33ebac06c5c1414b03a5da4bff9de70efca5c68b50cd67fff05"), looks := true }, kinds := [], alts := [], laidByText := true, laidKinds := [.sentinel, .sentinel, .sentinel, .data, .sentinel], laidTests := true, laidLooks := .later }
def FnWrittenPiecesCardSaid : Prop := Claim7.holds Tryd.pinned (.plain (OpenSpec.ofChange fnWrittenPiecesSpec)) fnWrittenPiecesCard

/-- THE TIED CARD OF 'laws.FnAgain'. -/
def fnAgainCard : Claim7 := { stood := { row := fnAgainRow, standIns := [], harness := (true, "d303ccca8462a33ebac06c5c1414b03a5da4bff9de70efca5c68b50cd67fff05"), looks := true }, kinds := [], alts := [], laidByText := true, laidKinds := [.sentinel, .sentinel, .sentinel, .data, .sentinel], laidTests := true, laidLooks := .later }
def FnAgainCardSaid : Prop := Claim7.holds Tryd.pinned (.plain (OpenSpec.ofChange fnAgainSpec)) fnAgainCard

/-- THE TIED CARD OF 'laws.FnStreamLess'. -/
def fnStreamLessCard : Claim7 := { stood := { row := fnStreamLessRow, standIns := [], harness := (true, "d303ccca8462a33ebac06c5c1414b03a5da4bff9de70efca5c68b50cd67fff05"), looks := true }, kinds := [], alts := [], laidByText := true, laidKinds := [.sentinel, .sentinel, .sentinel, .data, .sentinel], laidTests := true, laidLooks := .later }
def FnStreamLessCardSaid : Prop := Claim7.holds Tryd.pinned (.plain (OpenSpec.ofChange fnStreamLessSpec)) fnStreamLessCard

/-- THE SECOND FORM's CARD OF 'laws.FnRest'. -/
def fnRestUptoCard : Claim7 := { stood := { row := fnRestUptoRow, standIns := [], harness := (true, "d303ccca8462a33ebac06c5c1414b03a5da4bff9de70efca5c68b50cd67fff05"), looks := true }, kinds := [], alts := [], laidByText := true, laidKinds := [.sentinel, .sentinel, .sentinel, .data, .sentinel], laidTests := true, laidLooks := .later }
def FnRestUptoCardSaid : Prop := Claim7.holds Tryd.pinned (.plain (OpenSpec.upto fnRestSpec)) fnRestUptoCard

/-- THE SECOND FORM's CARD OF 'laws.FnWrittenPieces'. -/
def fnWrittenPiecesUptoCard : Claim7 := { stood := { row := fnWrittenPiecesUptoRow, standIns := [], harness := (true, "d303ccca8462a33ebac06c5c1414b03a5da4bff9de70efca5c68b50cd67fff05"), looks := true }, kinds := [], alts := [], laidByText := true, laidKinds := [.sentinel, .sentinel, .sentinel, .data, .sentinel], laidTests := true, laidLooks := .later }
def FnWrittenPiecesUptoCardSaid : Prop := Claim7.holds Tryd.pinned (.plain (OpenSpec.upto fnWrittenPiecesSpec)) fnWrittenPiecesUptoCard

/-- THE SECOND FORM's CARD OF 'laws.FnAgain'. -/
def fnAgainUptoCard : Claim7 := { stood := { row := fnAgainUptoRow, standIns := [], harness := (true, "d303ccca8462a33ebac06c5c1414b03a5da4bff9de70efca5c68b50cd67fff05"), looks := true }, kinds := [], alts := [], laidByText := true, laidKinds := [.sentinel, .sentinel, .sentinel, .data, .sentinel], laidTests := true, laidLooks := .later }
def FnAgainUptoCardSaid : Prop := Claim7.holds Tryd.pinned (.plain (OpenSpec.upto fnAgainSpec)) fnAgainUptoCard

/-- THE SECOND FORM's CARD OF 'laws.FnStreamLess'. -/
def fnStreamLessUptoCard : Claim7 := { stood := { row := fnStreamLessUptoRow, standIns := [], harness := (true, "d303ccca8462a33ebac06c5c1414b03a5da4bff9de70efca5c68b50cd67fff05"), looks := true }, kinds := [], alts := [], laidByText := true, laidKinds := [.sentinel, .sentinel, .sentinel, .data, .sentinel], laidTests := true, laidLooks := .later }
def FnStreamLessUptoCardSaid : Prop := Claim7.holds Tryd.pinned (.plain (OpenSpec.upto fnStreamLessSpec)) fnStreamLessUptoCard
end Rows
end Go.Proofs.YtmdbdhamlcgblaaDoor
