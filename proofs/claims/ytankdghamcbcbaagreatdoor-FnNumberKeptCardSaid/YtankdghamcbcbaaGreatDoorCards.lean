/-
  DERIVED. GIVEN WITH THE SEED: THE CARDS: each row of YtankdghamcbcbaaGreatDoorRows.lean that lists a variable, with what it lists TIED to the program's text (the seventh form; the later family's looks); each row that meets fmt, with fmt's text TOLD by the authors' own Lean function (tested against real Go, not proved from fmt's source: count such statements apart). THE CARD IS WHAT COUNTS. Prove the row's statement (the work); the ties are given (YtankdghamcbcbaaGreatDoorTie.lean); close each card by the builder's one call (the guide's Derived/Test/ToyasCard.lean, 'card_holds'). Laid BY PROGRAM, IN A SANDBOX (cutbox-door.mjs). By AI agents, Wed Nov 11 2026. No macro, syntax, notation, axiom, sorry.
-/
import Derived.Test.YtankdghamcbcbaaGreatDoorRows
import GoSem.ClaimSeven
namespace Go.Proofs.YtankdghamcbcbaaGreatDoor
namespace Rows

/-- THE TIED CARD OF 'laws.FnNumberKept'. -/
def fnNumberKeptCard : Claim7 := { stood := { row := fnNumberKeptRow, standIns := [], harness := (true, "3be7cefeaf436ab66ab3331338fb182521efbe86b0cc829180565840782df17c"), looks := true }, kinds := [], alts := [], laidByText := true, laidKinds := [.data, .data, .widerDeep, .widerDeep, .data, .data, .data, .data, .data, .data, .sentinel, .sentinel, .sentinel, .pinned, .pinned, .pinned], laidTests := true, laidLooks := .later }
def FnNumberKeptCardSaid : Prop := Claim7.holds Tryz.pinned (.plain (OpenSpec.ofChange fnNumberKeptSpec)) fnNumberKeptCard

/-- THE SECOND FORM's CARD OF 'laws.FnNumberKept'. -/
def fnNumberKeptUptoCard : Claim7 := { stood := { row := fnNumberKeptUptoRow, standIns := [], harness := (true, "3be7cefeaf436ab66ab3331338fb182521efbe86b0cc829180565840782df17c"), looks := true }, kinds := [], alts := [], laidByText := true, laidKinds := [.data, .data, .widerDeep, .widerDeep, .data, .data, .data, .data, .data, .data, .sentinel, .sentinel, .sentinel, .pinned, .pinned, .pinned], laidTests := true, laidLooks := .later }
def FnNumberKeptUptoCardSaid : Prop := Claim7.holds Tryz.pinned (.plain (OpenSpec.upto fnNumberKeptSpec)) fnNumberKeptUptoCard
end Rows
end Go.Proofs.YtankdghamcbcbaaGreatDoor
