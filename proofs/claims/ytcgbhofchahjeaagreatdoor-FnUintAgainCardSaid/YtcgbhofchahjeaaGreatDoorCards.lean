/-
  DERIVED. GIVEN WITH THE SEED: THE CARDS: each row of YtcgbhofchahjeaaGreatDoorRows.lean that lists a variable, with what it lists TIED to the program's text (the seventh form; the later family's looks); each row that meets fmt, with fmt's text TOLD by the authors' own Lean function (tested against real Go, not proved from fmt's source: count such statements apart). THE CARD IS WHAT COUNTS. Prove the row's statement (the work); the ties are given (YtcgbhofchahjeaaGreatDoorTie.lean); close each card by the builder's one call (the guide's Derived/Test/ToyasCard.lean, 'card_holds'). Laid BY PROGRAM, IN A SANDBOX (cutbox-door.mjs). By AI agents, Wed Nov 11 2026. No macro, syntax, notation, axiom, sorry.
-/
import Derived.Test.YtcgbhofchahjeaaGreatDoorRows
import GoSem.ClaimSeven
namespace Go.Proofs.YtcgbhofchahjeaaGreatDoor
namespace Rows

/-- THE TIED CARD OF 'laws.FnUintAgain'. -/
def fnUintAgainCard : Claim7 := { stood := { row := fnUintAgainRow, standIns := [], harness := (true, "3647955d946d058d05f17d20fa71311a58776c540e8b6d6fb18a44b59c1e6350"), looks := true }, kinds := [], alts := [], laidByText := true, laidKinds := [.data, .data, .widerDeep, .widerDeep, .data, .data, .data, .data, .data, .data, .sentinel, .sentinel, .sentinel, .data, .sentinel, .data, .pinned, .pinned, .pinned], laidTests := true, laidLooks := .later }
def FnUintAgainCardSaid : Prop := Claim7.holds Tryz.pinned (.plain (OpenSpec.ofChange fnUintAgainSpec)) fnUintAgainCard

/-- THE SECOND FORM's CARD OF 'laws.FnUintAgain'. -/
def fnUintAgainUptoCard : Claim7 := { stood := { row := fnUintAgainUptoRow, standIns := [], harness := (true, "3647955d946d058d05f17d20fa71311a58776c540e8b6d6fb18a44b59c1e6350"), looks := true }, kinds := [], alts := [], laidByText := true, laidKinds := [.data, .data, .widerDeep, .widerDeep, .data, .data, .data, .data, .data, .data, .sentinel, .sentinel, .sentinel, .data, .sentinel, .data, .pinned, .pinned, .pinned], laidTests := true, laidLooks := .later }
def FnUintAgainUptoCardSaid : Prop := Claim7.holds Tryz.pinned (.plain (OpenSpec.upto fnUintAgainSpec)) fnUintAgainUptoCard
end Rows
end Go.Proofs.YtcgbhofchahjeaaGreatDoor
