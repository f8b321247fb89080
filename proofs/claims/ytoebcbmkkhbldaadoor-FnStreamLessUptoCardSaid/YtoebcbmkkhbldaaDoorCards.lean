/-
  DERIVED. GIVEN WITH THE SEED: THE CARDS: each row of YtoebcbmkkhbldaaDoorRows.lean that lists a variable, with what it lists TIED to the program's text (the seventh form; the later family's looks); each row that meets fmt, with fmt's text TOLD by the authors' own Lean function (tested against real Go, not proved from fmt's source: count such statements apart). THE CARD IS WHAT COUNTS. Prove the row's statement (the work); the ties are given (YtoebcbmkkhbldaaDoorTie.lean); close each card by the builder's one call (the guide's Derived/Test/ToyasCard.lean, 'card_holds'). Laid BY PROGRAM, IN A SANDBOX (cutbox-door.mjs). By AI agents, Wed Nov 11 2026. No macro, syntax, notation, axiom, sorry.
-/
import Derived.Test.YtoebcbmkkhbldaaDoorRows
import GoSem.ClaimSeven
namespace Go.Proofs.YtoebcbmkkhbldaaDoor
namespace Rows

/-- THE TIED CARD OF 'laws.FnStreamLess'. -/
def fnStreamLessCard : Claim7 := { stood := { row := fnStreamLessRow, standIns := [], harness := (true, "1db192d23542441b0f22f9771f564ad7a5b241612906ac26035805ce097bdd47"), looks := true }, kinds := [], alts := [], laidByText := true, laidKinds := [.sentinel, .sentinel, .sentinel, .data, .sentinel], laidTests := true, laidLooks := .later }
def FnStreamLessCardSaid : Prop := Claim7.holds Tryd.pinned (.plain (OpenSpec.ofChange fnStreamLessSpec)) fnStreamLessCard

/-- THE SECOND FORM's CARD OF 'laws.FnStreamLess'. -/
def fnStreamLessUptoCard : Claim7 := { stood := { row := fnStreamLessUptoRow, standIns := [], harness := (true, "1db192d23542441b0f22f9771f564ad7a5b241612906ac26035805ce097bdd47"), looks := true }, kinds := [], alts := [], laidByText := true, laidKinds := [.sentinel, .sentinel, .sentinel, .data, .sentinel], laidTests := true, laidLooks := .later }
def FnStreamLessUptoCardSaid : Prop := Claim7.holds Tryd.pinned (.plain (OpenSpec.upto fnStreamLessSpec)) fnStreamLessUptoCard
end Rows
end Go.Proofs.YtoebcbmkkhbldaaDoor
