/-
  DERIVED. GIVEN WITH THE SEED: THE CARDS: each row of YtpknikogkaogjaaDoorRows.lean that lists a variable, with what it lists TIED to the program's text (the seventh form; the later family's looks); each row that meets fmt, with fmt's text TOLD by the authors' own Lean function (tested against real Go, not proved from fmt's source: count such statements apart). THE CARD IS WHAT COUNTS. Prove the row's statement (the work); the ties are given (YtpknikogkaogjaaDoorTie.lean); close each card by the builder's one call (the guide's Derived/Test/ToyasCard.lean, 'card_holds'). Laid BY PROGRAM, IN A SANDBOX (cutbox-door.mjs). By AI agents, Wed Nov 11 2026. No macro, syntax, notation, axiom, sorry.
-/
import Derived.Test.YtpknikogkaogjaaDoorRows
import GoSem.ClaimSeven
namespace Go.Proofs.YtpknikogkaogjaaDoor
namespace Rows

/-- THE TIED CARD OF 'laws.FnLookups'. -/
def fnLookupsCard : Claim7 := { stood := { row := fnLookupsRow, standIns := [], harness := (true, "c89f218caa22839110415b634b108cc03f8aa894764f96ebdca713b3ff251df6"), looks := true }, kinds := [], alts := [], laidByText := true, laidKinds := [.data], laidTests := true, laidLooks := .later }
def FnLookupsCardSaid : Prop := Claim7.holds Tryd.pinned (.plain (OpenSpec.ofChange fnLookupsSpec)) fnLookupsCard

/-- THE TIED CARD OF 'laws.FnShared'. -/
def fnSharedCard : Claim7 := { stood := { row := fnSharedRow, standIns := [], harness := (true, "c89f218caa22839110415b634b108cc03f8aa894764f96ebdca713b3ff251df6"), looks := true }, kinds := [], alts := [], laidByText := true, laidKinds := [.data], laidTests := true, laidLooks := .later }
def FnSharedCardSaid : Prop := Claim7.holds Tryd.pinned (.plain (OpenSpec.ofChange fnSharedSpec)) fnSharedCard

/-- THE TIED CARD OF 'laws.FnWhere'. -/
def fnWhereCard : Claim7 := { stood := { row := fnWhereRow, standIns := [], harness := (true, "c89f218caa22839110415b634b108cc03f8aa894764f96ebdca713b3ff251df6"), looks := true }, kinds := [], alts := [], laidByText := true, laidKinds := [.data], laidTests := true, laidLooks := .later }
def FnWhereCardSaid : Prop := Claim7.holds Tryd.pinned (.plain (OpenSpec.ofChange fnWhereSpec)) fnWhereCard

/-- THE TIED CARD OF 'laws.FnFull'. -/
def fnFullCard : Claim7 := { stood := { row := fnFullRow, standIns := [], harness := (true, "c89f218caa22839110415b634b108cc03f8aa894764f96ebdca713b3ff251df6"), looks := true }, kinds := [], alts := [], laidByText := true, laidKinds := [.data], laidTests := true, laidLooks := .later }
def FnFullCardSaid : Prop := Claim7.holds Tryd.pinned (.plain (OpenSpec.ofChange fnFullSpec)) fnFullCard

/-- THE TIED CARD OF 'laws.FnRest'. -/
def fnRestCard : Claim7 := { stood := { row := fnRestRow, standIns := [], harness := (true, "c89f218caa22839110415b634b108cc03f8aa894764f96ebdca713b3ff251df6"), looks := true }, kinds := [], alts := [], laidByText := true, laidKinds := [.sentinel, .sentinel, .sentinel, .data, .sentinel], laidTests := true, laidLooks := .later }
def FnRestCardSaid : Prop := Claim7.holds Tryd.pinned (.plain (OpenSpec.ofChange fnRestSpec)) fnRestCard

/-- THE TIED CARD OF 'laws.FnWrittenPieces'. -/
def fnWrittenPiecesCard : Claim7 := { stood := { row := fnWrittenPiecesRow, standIns := [], harness := (true, "c89f218caa22839110415b634b108cc03f8aa894764f96ebdca713b3ff251df6"), looks := true }, kinds := [], alts := [], laidByText := true, laidKinds := [.sentinel, .sentinel, .sentinel, .data, .sentinel], laidTests := true, laidLooks := .later }
def FnWrittenPiecesCardSaid : Prop := Claim7.holds Tryd.pinned (.plain (OpenSpec.ofChange fnWrittenPiecesSpec)) fnWrittenPiecesCard

/-- THE TIED CARD OF 'laws.FnAgain'. -/
def fnAgainCard : Claim7 := { stood := { row := fnAgainRow, standIns := [], harness := (true, "c89f218caa22839110415b634b108cc03f8aa894764f96ebdca713b3ff251df6"), looks := true }, kinds := [], alts := [], laidByText := true, laidKinds := [.sentinel, .sentinel, .sentinel, .data, .sentinel], laidTests := true, laidLooks := .later }
def FnAgainCardSaid : Prop := Claim7.holds Tryd.pinned (.plain (OpenSpec.ofChange fnAgainSpec)) fnAgainCard

/-- THE TIED CARD OF 'laws.FnStreamLess'. -/
def fnStreamLessCard : Claim7 := { stood := { row := fnStreamLessRow, standIns := [], harness := (true, "c89f218caa22839110415b634b108cc03f8aa894764f96ebdca713b3ff251df6"), looks := true }, kinds := [], alts := [], laidByText := true, laidKinds := [.sentinel, .sentinel, .sentinel, .data, .sentinel], laidTests := true, laidLooks := .later }
def FnStreamLessCardSaid : Prop := Claim7.holds Tryd.pinned (.plain (OpenSpec.ofChange fnStreamLessSpec)) fnStreamLessCard

/-- THE SECOND FORM's CARD OF 'laws.FnLookups'. -/
def fnLookupsUptoCard : Claim7 := { stood := { row := fnLookupsUptoRow, standIns := [], harness := (true, "c89f218caa22839110415b634b108cc03f8aa894764f96ebdca713b3ff251df6"), looks := true }, kinds := [], alts := [], laidByText := true, laidKinds := [.data], laidTests := true, laidLooks := .later }
def FnLookupsUptoCardSaid : Prop := Claim7.holds Tryd.pinned (.plain (OpenSpec.upto fnLookupsSpec)) fnLookupsUptoCard

/-- THE SECOND FORM's CARD OF 'laws.FnShared'. -/
def fnSharedUptoCard : Claim7 := { stood := { row := fnSharedUptoRow, standIns := [], harness := (true, "c89f218caa22839110415b634b108cc03f8aa894764f96ebdca713b3ff251df6"), looks := true }, kinds := [], alts := [], laidByText := true, laidKinds := [.data], laidTests := true, laidLooks := .later }
def FnSharedUptoCardSaid : Prop := Claim7.holds Tryd.pinned (.plain (OpenSpec.upto fnSharedSpec)) fnSharedUptoCard

/-- THE SECOND FORM's CARD OF 'laws.FnWhere'. -/
def fnWhereUptoCard : Claim7 := { stood := { row := fnWhereUptoRow, standIns := [], harness := (true, "c89f218caa22839110415b634b108cc03f8aa894764f96ebdca713b3ff251df6"), looks := true }, kinds := [], alts := [], laidByText := true, laidKinds := [.data], laidTests := true, laidLooks := .later }
def FnWhereUptoCardSaid : Prop := Claim7.holds Tryd.pinned (.plain (OpenSpec.upto fnWhereSpec)) fnWhereUptoCard

/-- THE SECOND FORM's CARD OF 'laws.FnFull'. -/
def fnFullUptoCard : Claim7 := { stood := { row := fnFullUptoRow, standIns := [], harness := (true, "c89f218caa22839110415b634b108cc03f8aa894764f96ebdca713b3ff251df6"), looks := true }, kinds := [], alts := [], laidByText := true, laidKinds := [.data], laidTests := true, laidLooks := .later }
def FnFullUptoCardSaid : Prop := Claim7.holds Tryd.pinned (.plain (OpenSpec.upto fnFullSpec)) fnFullUptoCard

/-- THE SECOND FORM's CARD OF 'laws.FnRest'. -/
def fnRestUptoCard : Claim7 := { stood := { row := fnRestUptoRow, standIns := [], harness := (true, "c89f218caa22839110415b634b108cc03f8aa894764f96ebdca713b3ff251df6"), looks := true }, kinds := [], alts := [], laidByText := true, laidKinds := [.sentinel, .sentinel, .sentinel, .data, .sentinel], laidTests := true, laidLooks := .later }
def FnRestUptoCardSaid : Prop := Claim7.holds Tryd.pinned (.plain (OpenSpec.upto fnRestSpec)) fnRestUptoCard

/-- THE SECOND FORM's CARD OF 'laws.FnWrittenPieces'. -/
def fnWrittenPiecesUptoCard : Claim7 := { stood := { row := fnWrittenPiecesUptoRow, standIns := [], harness := (true, "c89f218caa22839110415b634b108cc03f8aa894764f96ebdca713b3ff251df6"), looks := true }, kinds := [], alts := [], laidByText := true, laidKinds := [.sentinel, .sentinel, .sentinel, .data, .sentinel], laidTests := true, laidLooks := .later }
def FnWrittenPiecesUptoCardSaid : Prop := Claim7.holds Tryd.pinned (.plain (OpenSpec.upto fnWrittenPiecesSpec)) fnWrittenPiecesUptoCard

/-- THE SECOND FORM's CARD OF 'laws.FnAgain'. -/
def fnAgainUptoCard : Claim7 := { stood := { row := fnAgainUptoRow, standIns := [], harness := (true, "c89f218caa22839110415b634b108cc03f8aa894764f96ebdca713b3ff251df6"), looks := true }, kinds := [], alts := [], laidByText := true, laidKinds := [.sentinel, .sentinel, .sentinel, .data, .sentinel], laidTests := true, laidLooks := .later }
def FnAgainUptoCardSaid : Prop := Claim7.holds Tryd.pinned (.plain (OpenSpec.upto fnAgainSpec)) fnAgainUptoCard

/-- THE SECOND FORM's CARD OF 'laws.FnStreamLess'. -/
def fnStreamLessUptoCard : Claim7 := { stood := { row := fnStreamLessUptoRow, standIns := [], harness := (true, "c89f218caa22839110415b634b108cc03f8aa894764f96ebdca713b3ff251df6"), looks := true }, kinds := [], alts := [], laidByText := true, laidKinds := [.sentinel, .sentinel, .sentinel, .data, .sentinel], laidTests := true, laidLooks := .later }
def FnStreamLessUptoCardSaid : Prop := Claim7.holds Tryd.pinned (.plain (OpenSpec.upto fnStreamLessSpec)) fnStreamLessUptoCard
end Rows
end Go.Proofs.YtpknikogkaogjaaDoor
