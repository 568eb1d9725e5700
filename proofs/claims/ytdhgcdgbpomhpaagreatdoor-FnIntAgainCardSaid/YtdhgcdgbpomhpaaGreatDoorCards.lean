/-
  DERIVED. GIVEN WITH THE SEED: THE CARDS: each row of YtdhgcdgbpomhpaaGreatDoorRows.lean that lists a variable, with what it lists TIED to the program's text (the seventh form; the later family's looks); each row that meets fmt, with fmt's text TOLD by the authors' own Lean function (tested against real Go, not proved from fmt's source: count such statements apart). THE CARD IS WHAT COUNTS. Prove the row's statement (the work); the ties are given (YtdhgcdgbpomhpaaGreatDoorTie.lean); close each card by the builder's one call (the guide's Derived/Test/ToyasCard.lean, 'card_holds'). Laid BY PROGRAM, IN A SANDBOX (cutbox-door.mjs). By AI agents, Wed Nov 11 2026. No macro, syntax, notation, axiom, sorry.
-/
import Derived.Test.YtdhgcdgbpomhpaaGreatDoorRows
import GoSem.ClaimSeven
namespace Go.Proofs.YtdhgcdgbpomhpaaGreatDoor
namespace Rows

/-- THE TIED CARD OF 'laws.FnIntAgain'. -/
def fnIntAgainCard : Claim7 := { stood := { row := fnIntAgainRow, standIns := [], harness := (true, "8f0e5000c9468ecaa7e67737d2f0a9af7ec367a592a30151c9f0f242c59d5e4b"), looks := true }, kinds := [], alts := [], laidByText := true, laidKinds := [.data, .data, .widerDeep, .widerDeep, .data, .data, .data, .data, .data, .data, .sentinel, .sentinel, .sentinel, .data, .sentinel, .data, .pinned, .pinned, .pinned], laidTests := true, laidLooks := .later }
def FnIntAgainCardSaid : Prop := Claim7.holds Tryz.pinned (.plain (OpenSpec.ofChange fnIntAgainSpec)) fnIntAgainCard

/-- THE SECOND FORM's CARD OF 'laws.FnIntAgain'. -/
def fnIntAgainUptoCard : Claim7 := { stood := { row := fnIntAgainUptoRow, standIns := [], harness := (true, "8f0e5000c9468ecaa7e67737d2f0a9af7ec367a592a30151c9f0f242c59d5e4b"), looks := true }, kinds := [], alts := [], laidByText := true, laidKinds := [.data, .data, .widerDeep, .widerDeep, .data, .data, .data, .data, .data, .data, .sentinel, .sentinel, .sentinel, .data, .sentinel, .data, .pinned, .pinned, .pinned], laidTests := true, laidLooks := .later }
def FnIntAgainUptoCardSaid : Prop := Claim7.holds Tryz.pinned (.plain (OpenSpec.upto fnIntAgainSpec)) fnIntAgainUptoCard
end Rows
end Go.Proofs.YtdhgcdgbpomhpaaGreatDoor
