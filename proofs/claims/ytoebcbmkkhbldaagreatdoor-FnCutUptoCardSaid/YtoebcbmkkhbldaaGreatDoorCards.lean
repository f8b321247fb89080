/-
  DERIVED. GIVEN WITH THE SEED: THE CARDS: each row of YtoebcbmkkhbldaaGreatDoorRows.lean that lists a variable, with what it lists TIED to the program's text (the seventh form; the later family's looks); each row that meets fmt, with fmt's text TOLD by the authors' own Lean function (tested against real Go, not proved from fmt's source: count such statements apart). THE CARD IS WHAT COUNTS. Prove the row's statement (the work); the ties are given (YtoebcbmkkhbldaaGreatDoorTie.lean); close each card by the builder's one call (the guide's Derived/Test/ToyasCard.lean, 'card_holds'). Laid BY PROGRAM, IN A SANDBOX (cutbox-door.mjs). By AI agents, Wed Nov 11 2026. No macro, syntax, notation, axiom, sorry.
-/
import Derived.Test.YtoebcbmkkhbldaaGreatDoorRows
import GoSem.ClaimSeven
namespace Go.Proofs.YtoebcbmkkhbldaaGreatDoor
namespace Rows

/-- THE TIED CARD OF 'laws.FnStream'. -/
def fnStreamCard : Claim7 := { stood := { row := fnStreamRow, standIns := [], harness := (true, "bb9980030a73aa2dca42aad1603377e6712111e2f80dfbd816ca335f967018a4"), looks := true }, kinds := [], alts := [], laidByText := true, laidKinds := [.sentinel, .sentinel, .sentinel, .data, .sentinel], laidTests := true, laidLooks := .later }
def FnStreamCardSaid : Prop := Claim7.holds Tryz.pinned (.plain (OpenSpec.ofChange fnStreamSpec)) fnStreamCard

/-- THE TIED CARD OF 'laws.FnStreamApart'. -/
def fnStreamApartCard : Claim7 := { stood := { row := fnStreamApartRow, standIns := [], harness := (true, "bb9980030a73aa2dca42aad1603377e6712111e2f80dfbd816ca335f967018a4"), looks := true }, kinds := [], alts := [], laidByText := true, laidKinds := [.sentinel, .sentinel, .sentinel, .data, .sentinel], laidTests := true, laidLooks := .later }
def FnStreamApartCardSaid : Prop := Claim7.holds Tryz.pinned (.plain (OpenSpec.ofChange fnStreamApartSpec)) fnStreamApartCard

/-- THE TIED CARD OF 'laws.FnStreamOver'. -/
def fnStreamOverCard : Claim7 := { stood := { row := fnStreamOverRow, standIns := [], harness := (true, "bb9980030a73aa2dca42aad1603377e6712111e2f80dfbd816ca335f967018a4"), looks := true }, kinds := [], alts := [], laidByText := true, laidKinds := [.sentinel, .sentinel, .sentinel, .data, .sentinel], laidTests := true, laidLooks := .later }
def FnStreamOverCardSaid : Prop := Claim7.holds Tryz.pinned (.plain (OpenSpec.ofChange fnStreamOverSpec)) fnStreamOverCard

/-- THE TIED CARD OF 'laws.FnStreamOrder'. -/
def fnStreamOrderCard : Claim7 := { stood := { row := fnStreamOrderRow, standIns := [], harness := (true, "bb9980030a73aa2dca42aad1603377e6712111e2f80dfbd816ca335f967018a4"), looks := true }, kinds := [], alts := [], laidByText := true, laidKinds := [.sentinel, .sentinel, .sentinel, .data, .sentinel], laidTests := true, laidLooks := .later }
def FnStreamOrderCardSaid : Prop := Claim7.holds Tryz.pinned (.plain (OpenSpec.ofChange fnStreamOrderSpec)) fnStreamOrderCard

/-- THE TIED CARD OF 'laws.FnChunks'. -/
def fnChunksCard : Claim7 := { stood := { row := fnChunksRow, standIns := [], harness := (true, "bb9980030a73aa2dca42aad1603377e6712111e2f80dfbd816ca335f967018a4"), looks := true }, kinds := [], alts := [], laidByText := true, laidKinds := [.sentinel, .sentinel, .sentinel, .data, .sentinel], laidTests := true, laidLooks := .later }
def FnChunksCardSaid : Prop := Claim7.holds Tryz.pinned (.plain (OpenSpec.ofChange fnChunksSpec)) fnChunksCard

/-- THE TIED CARD OF 'laws.FnChunksAgree'. -/
def fnChunksAgreeCard : Claim7 := { stood := { row := fnChunksAgreeRow, standIns := [], harness := (true, "bb9980030a73aa2dca42aad1603377e6712111e2f80dfbd816ca335f967018a4"), looks := true }, kinds := [], alts := [], laidByText := true, laidKinds := [.sentinel, .sentinel, .sentinel, .data, .sentinel], laidTests := true, laidLooks := .later }
def FnChunksAgreeCardSaid : Prop := Claim7.holds Tryz.pinned (.plain (OpenSpec.ofChange fnChunksAgreeSpec)) fnChunksAgreeCard

/-- THE TIED CARD OF 'laws.FnCut'. -/
def fnCutCard : Claim7 := { stood := { row := fnCutRow, standIns := [], harness := (true, "bb9980030a73aa2dca42aad1603377e6712111e2f80dfbd816ca335f967018a4"), looks := true }, kinds := [], alts := [], laidByText := true, laidKinds := [.sentinel, .sentinel, .sentinel, .data, .sentinel], laidTests := true, laidLooks := .later }
def FnCutCardSaid : Prop := Claim7.holds Tryz.pinned (.plain (OpenSpec.ofChange fnCutSpec)) fnCutCard

/-- THE SECOND FORM's CARD OF 'laws.FnStream'. -/
def fnStreamUptoCard : Claim7 := { stood := { row := fnStreamUptoRow, standIns := [], harness := (true, "bb9980030a73aa2dca42aad1603377e6712111e2f80dfbd816ca335f967018a4"), looks := true }, kinds := [], alts := [], laidByText := true, laidKinds := [.sentinel, .sentinel, .sentinel, .data, .sentinel], laidTests := true, laidLooks := .later }
def FnStreamUptoCardSaid : Prop := Claim7.holds Tryz.pinned (.plain (OpenSpec.upto fnStreamSpec)) fnStreamUptoCard

/-- THE SECOND FORM's CARD OF 'laws.FnStreamApart'. -/
def fnStreamApartUptoCard : Claim7 := { stood := { row := fnStreamApartUptoRow, standIns := [], harness := (true, "bb9980030a73aa2dca42aad1603377e6712111e2f80dfbd816ca335f967018a4"), looks := true }, kinds := [], alts := [], laidByText := true, laidKinds := [.sentinel, .sentinel, .sentinel, .data, .sentinel], laidTests := true, laidLooks := .later }
def FnStreamApartUptoCardSaid : Prop := Claim7.holds Tryz.pinned (.plain (OpenSpec.upto fnStreamApartSpec)) fnStreamApartUptoCard

/-- THE SECOND FORM's CARD OF 'laws.FnStreamOver'. -/
def fnStreamOverUptoCard : Claim7 := { stood := { row := fnStreamOverUptoRow, standIns := [], harness := (true, "bb9980030a73aa2dca42aad1603377e6712111e2f80dfbd816ca335f967018a4"), looks := true }, kinds := [], alts := [], laidByText := true, laidKinds := [.sentinel, .sentinel, .sentinel, .data, .sentinel], laidTests := true, laidLooks := .later }
def FnStreamOverUptoCardSaid : Prop := Claim7.holds Tryz.pinned (.plain (OpenSpec.upto fnStreamOverSpec)) fnStreamOverUptoCard

/-- THE SECOND FORM's CARD OF 'laws.FnStreamOrder'. -/
def fnStreamOrderUptoCard : Claim7 := { stood := { row := fnStreamOrderUptoRow, standIns := [], harness := (true, "bb9980030a73aa2dca42aad1603377e6712111e2f80dfbd816ca335f967018a4"), looks := true }, kinds := [], alts := [], laidByText := true, laidKinds := [.sentinel, .sentinel, .sentinel, .data, .sentinel], laidTests := true, laidLooks := .later }
def FnStreamOrderUptoCardSaid : Prop := Claim7.holds Tryz.pinned (.plain (OpenSpec.upto fnStreamOrderSpec)) fnStreamOrderUptoCard

/-- THE SECOND FORM's CARD OF 'laws.FnChunks'. -/
def fnChunksUptoCard : Claim7 := { stood := { row := fnChunksUptoRow, standIns := [], harness := (true, "bb9980030a73aa2dca42aad1603377e6712111e2f80dfbd816ca335f967018a4"), looks := true }, kinds := [], alts := [], laidByText := true, laidKinds := [.sentinel, .sentinel, .sentinel, .data, .sentinel], laidTests := true, laidLooks := .later }
def FnChunksUptoCardSaid : Prop := Claim7.holds Tryz.pinned (.plain (OpenSpec.upto fnChunksSpec)) fnChunksUptoCard

/-- THE SECOND FORM's CARD OF 'laws.FnChunksAgree'. -/
def fnChunksAgreeUptoCard : Claim7 := { stood := { row := fnChunksAgreeUptoRow, standIns := [], harness := (true, "bb9980030a73aa2dca42aad1603377e6712111e2f80dfbd816ca335f967018a4"), looks := true }, kinds := [], alts := [], laidByText := true, laidKinds := [.sentinel, .sentinel, .sentinel, .data, .sentinel], laidTests := true, laidLooks := .later }
def FnChunksAgreeUptoCardSaid : Prop := Claim7.holds Tryz.pinned (.plain (OpenSpec.upto fnChunksAgreeSpec)) fnChunksAgreeUptoCard

/-- THE SECOND FORM's CARD OF 'laws.FnCut'. -/
def fnCutUptoCard : Claim7 := { stood := { row := fnCutUptoRow, standIns := [], harness := (true, "bb9980030a73aa2dca42aad1603377e6712111e2f80dfbd816ca335f967018a4"), looks := true }, kinds := [], alts := [], laidByText := true, laidKinds := [.sentinel, .sentinel, .sentinel, .data, .sentinel], laidTests := true, laidLooks := .later }
def FnCutUptoCardSaid : Prop := Claim7.holds Tryz.pinned (.plain (OpenSpec.upto fnCutSpec)) fnCutUptoCard
end Rows
end Go.Proofs.YtoebcbmkkhbldaaGreatDoor
