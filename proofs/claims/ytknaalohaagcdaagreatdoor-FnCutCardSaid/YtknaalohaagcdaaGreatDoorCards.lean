/-
  DERIVED. GIVEN WITH THE SEED: THE CARDS: each row of YtknaalohaagcdaaGreatDoorRows.lean that lists a variable, with what it lists TIED to the program's text (the seventh form; the later family's looks); each row that meets fmt, with fmt's text TOLD by the authors' own Lean function (tested against real Go, not proved from fmt's source: count such statements apart). THE CARD IS WHAT COUNTS. Prove the row's statement (the work); the ties are given (YtknaalohaagcdaaGreatDoorTie.lean); close each card by the builder's one call (the guide's Derived/Test/ToyasCard.lean, 'card_holds'). Laid BY PROGRAM, IN A SANDBOX (cutbox-door.mjs). By AI agents, Wed Nov 11 2026. No macro, syntax, notation, axiom, sorry.
-/
import Derived.Test.YtknaalohaagcdaaGreatDoorRows
import GoSem.ClaimSeven
namespace Go.Proofs.YtknaalohaagcdaaGreatDoor
namespace Rows

/-- THE TIED CARD OF 'laws.FnValid'. -/
def fnValidCard : Claim7 := { stood := { row := fnValidRow, standIns := [], harness := (true, "34069bce50de1feb11c3be489d3ce2d001de45dee706318d86754fbff1a9e5c3"), looks := true }, kinds := [], alts := [], laidByText := true, laidKinds := [.data, .data, .data, .data, .sentinel, .sentinel, .data, .sentinel, .sentinel, .sentinel, .sentinel, .sentinel, .sentinel, .sentinel, .sentinel, .data, .pinned], laidTests := true, laidLooks := .later }
def FnValidCardSaid : Prop := Claim7.holds Tryz.pinned (.plain (OpenSpec.ofChange fnValidSpec)) fnValidCard

/-- THE TIED CARD OF 'laws.FnCut'. -/
def fnCutCard : Claim7 := { stood := { row := fnCutRow, standIns := [], harness := (true, "34069bce50de1feb11c3be489d3ce2d001de45dee706318d86754fbff1a9e5c3"), looks := true }, kinds := [], alts := [], laidByText := true, laidKinds := [.data, .data, .data, .data, .sentinel, .sentinel, .data, .sentinel, .sentinel, .sentinel, .sentinel, .sentinel, .sentinel, .sentinel, .sentinel, .data, .pinned], laidTests := true, laidLooks := .later }
def FnCutCardSaid : Prop := Claim7.holds Tryz.pinned (.plain (OpenSpec.ofChange fnCutSpec)) fnCutCard

/-- THE TIED CARD OF 'laws.FnSpaced'. -/
def fnSpacedCard : Claim7 := { stood := { row := fnSpacedRow, standIns := [], harness := (true, "34069bce50de1feb11c3be489d3ce2d001de45dee706318d86754fbff1a9e5c3"), looks := true }, kinds := [], alts := [], laidByText := true, laidKinds := [.data, .data, .data, .data, .sentinel, .sentinel, .data, .sentinel, .sentinel, .sentinel, .sentinel, .sentinel, .sentinel, .sentinel, .sentinel, .data, .pinned], laidTests := true, laidLooks := .later }
def FnSpacedCardSaid : Prop := Claim7.holds Tryz.pinned (.plain (OpenSpec.ofChange fnSpacedSpec)) fnSpacedCard

/-- THE TIED CARD OF 'laws.FnWrapped'. -/
def fnWrappedCard : Claim7 := { stood := { row := fnWrappedRow, standIns := [], harness := (true, "34069bce50de1feb11c3be489d3ce2d001de45dee706318d86754fbff1a9e5c3"), looks := true }, kinds := [], alts := [], laidByText := true, laidKinds := [.data, .data, .data, .data, .sentinel, .sentinel, .data, .sentinel, .sentinel, .sentinel, .sentinel, .sentinel, .sentinel, .sentinel, .sentinel, .data, .pinned], laidTests := true, laidLooks := .later }
def FnWrappedCardSaid : Prop := Claim7.holds Tryz.pinned (.plain (OpenSpec.ofChange fnWrappedSpec)) fnWrappedCard

/-- THE SECOND FORM's CARD OF 'laws.FnValid'. -/
def fnValidUptoCard : Claim7 := { stood := { row := fnValidUptoRow, standIns := [], harness := (true, "34069bce50de1feb11c3be489d3ce2d001de45dee706318d86754fbff1a9e5c3"), looks := true }, kinds := [], alts := [], laidByText := true, laidKinds := [.data, .data, .data, .data, .sentinel, .sentinel, .data, .sentinel, .sentinel, .sentinel, .sentinel, .sentinel, .sentinel, .sentinel, .sentinel, .data, .pinned], laidTests := true, laidLooks := .later }
def FnValidUptoCardSaid : Prop := Claim7.holds Tryz.pinned (.plain (OpenSpec.upto fnValidSpec)) fnValidUptoCard

/-- THE SECOND FORM's CARD OF 'laws.FnCut'. -/
def fnCutUptoCard : Claim7 := { stood := { row := fnCutUptoRow, standIns := [], harness := (true, "34069bce50de1feb11c3be489d3ce2d001de45dee706318d86754fbff1a9e5c3"), looks := true }, kinds := [], alts := [], laidByText := true, laidKinds := [.data, .data, .data, .data, .sentinel, .sentinel, .data, .sentinel, .sentinel, .sentinel, .sentinel, .sentinel, .sentinel, .sentinel, .sentinel, .data, .pinned], laidTests := true, laidLooks := .later }
def FnCutUptoCardSaid : Prop := Claim7.holds Tryz.pinned (.plain (OpenSpec.upto fnCutSpec)) fnCutUptoCard

/-- THE SECOND FORM's CARD OF 'laws.FnSpaced'. -/
def fnSpacedUptoCard : Claim7 := { stood := { row := fnSpacedUptoRow, standIns := [], harness := (true, "34069bce50de1feb11c3be489d3ce2d001de45dee706318d86754fbff1a9e5c3"), looks := true }, kinds := [], alts := [], laidByText := true, laidKinds := [.data, .data, .data, .data, .sentinel, .sentinel, .data, .sentinel, .sentinel, .sentinel, .sentinel, .sentinel, .sentinel, .sentinel, .sentinel, .data, .pinned], laidTests := true, laidLooks := .later }
def FnSpacedUptoCardSaid : Prop := Claim7.holds Tryz.pinned (.plain (OpenSpec.upto fnSpacedSpec)) fnSpacedUptoCard

/-- THE SECOND FORM's CARD OF 'laws.FnWrapped'. -/
def fnWrappedUptoCard : Claim7 := { stood := { row := fnWrappedUptoRow, standIns := [], harness := (true, "34069bce50de1feb11c3be489d3ce2d001de45dee706318d86754fbff1a9e5c3"), looks := true }, kinds := [], alts := [], laidByText := true, laidKinds := [.data, .data, .data, .data, .sentinel, .sentinel, .data, .sentinel, .sentinel, .sentinel, .sentinel, .sentinel, .sentinel, .sentinel, .sentinel, .data, .pinned], laidTests := true, laidLooks := .later }
def FnWrappedUptoCardSaid : Prop := Claim7.holds Tryz.pinned (.plain (OpenSpec.upto fnWrappedSpec)) fnWrappedUptoCard
end Rows
end Go.Proofs.YtknaalohaagcdaaGreatDoor
