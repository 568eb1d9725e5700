/-
  DERIVED. GIVEN WITH THE SEED: THE CARDS: each row of YtmocaapfbpefpaaGreatDoorRows.lean that lists a variable, with what it lists TIED to the program's text (the seventh form; the later family's looks); each row that meets fmt, with fmt's text TOLD by the authors' own Lean function (tested against real Go, not proved from fmt's source: count such statements apart). THE CARD IS WHAT COUNTS. Prove the row's statement (the work); the ties are given (YtmocaapfbpefpaaGreatDoorTie.lean); close each card by the builder's one call (the guide's Derived/Test/ToyasCard.lean, 'card_holds'). Laid BY PROGRAM, IN A SANDBOX (cutbox-door.mjs). By AI agents, Wed Nov 11 2026. No macro, syntax, notation, axiom, sorry.
-/
import Derived.Test.YtmocaapfbpefpaaGreatDoorRows
import GoSem.ClaimSeven
namespace Go.Proofs.YtmocaapfbpefpaaGreatDoor
namespace Rows

/-- THE TIED CARD OF 'laws.FnIntAsUint'. -/
def fnIntAsUintCard : Claim7 := { stood := { row := fnIntAsUintRow, standIns := [], harness := (true, "ec5630d8ebbaefbbc1c9bd9eccf7ee639f98cebf432cbed137337a2690793957"), looks := true }, kinds := [], alts := [], laidByText := true, laidKinds := [.data, .data, .widerDeep, .widerDeep, .data, .data, .data, .data, .data, .data, .sentinel, .sentinel, .sentinel, .data, .sentinel, .data, .pinned, .pinned, .pinned], laidTests := true, laidLooks := .later }
def FnIntAsUintCardSaid : Prop := Claim7.holds Tryz.pinned (.plain (OpenSpec.ofChange fnIntAsUintSpec)) fnIntAsUintCard

/-- THE TIED CARD OF 'laws.FnUintAsInt'. -/
def fnUintAsIntCard : Claim7 := { stood := { row := fnUintAsIntRow, standIns := [], harness := (true, "ec5630d8ebbaefbbc1c9bd9eccf7ee639f98cebf432cbed137337a2690793957"), looks := true }, kinds := [], alts := [], laidByText := true, laidKinds := [.data, .data, .widerDeep, .widerDeep, .data, .data, .data, .data, .data, .data, .sentinel, .sentinel, .sentinel, .data, .sentinel, .data, .pinned, .pinned, .pinned], laidTests := true, laidLooks := .later }
def FnUintAsIntCardSaid : Prop := Claim7.holds Tryz.pinned (.plain (OpenSpec.ofChange fnUintAsIntSpec)) fnUintAsIntCard

/-- THE SECOND FORM's CARD OF 'laws.FnIntAsUint'. -/
def fnIntAsUintUptoCard : Claim7 := { stood := { row := fnIntAsUintUptoRow, standIns := [], harness := (true, "ec5630d8ebbaefbbc1c9bd9eccf7ee639f98cebf432cbed137337a2690793957"), looks := true }, kinds := [], alts := [], laidByText := true, laidKinds := [.data, .data, .widerDeep, .widerDeep, .data, .data, .data, .data, .data, .data, .sentinel, .sentinel, .sentinel, .data, .sentinel, .data, .pinned, .pinned, .pinned], laidTests := true, laidLooks := .later }
def FnIntAsUintUptoCardSaid : Prop := Claim7.holds Tryz.pinned (.plain (OpenSpec.upto fnIntAsUintSpec)) fnIntAsUintUptoCard

/-- THE SECOND FORM's CARD OF 'laws.FnUintAsInt'. -/
def fnUintAsIntUptoCard : Claim7 := { stood := { row := fnUintAsIntUptoRow, standIns := [], harness := (true, "ec5630d8ebbaefbbc1c9bd9eccf7ee639f98cebf432cbed137337a2690793957"), looks := true }, kinds := [], alts := [], laidByText := true, laidKinds := [.data, .data, .widerDeep, .widerDeep, .data, .data, .data, .data, .data, .data, .sentinel, .sentinel, .sentinel, .data, .sentinel, .data, .pinned, .pinned, .pinned], laidTests := true, laidLooks := .later }
def FnUintAsIntUptoCardSaid : Prop := Claim7.holds Tryz.pinned (.plain (OpenSpec.upto fnUintAsIntSpec)) fnUintAsIntUptoCard
end Rows
end Go.Proofs.YtmocaapfbpefpaaGreatDoor
