/-
  DERIVED. GIVEN WITH THE SEED: THE CARDS: each row of YtdljfcleepmmmaaGreatDoorRows.lean that lists a variable, with what it lists TIED to the program's text (the seventh form; the later family's looks); each row that meets fmt, with fmt's text TOLD by the authors' own Lean function (tested against real Go, not proved from fmt's source: count such statements apart). THE CARD IS WHAT COUNTS. Prove the row's statement (the work); the ties are given (YtdljfcleepmmmaaGreatDoorTie.lean); close each card by the builder's one call (the guide's Derived/Test/ToyasCard.lean, 'card_holds'). Laid BY PROGRAM, IN A SANDBOX (cutbox-door.mjs). By AI agents, Wed Nov 11 2026. No macro, syntax, notation, axiom, sorry.
-/
import Derived.Test.YtdljfcleepmmmaaGreatDoorRows
import GoSem.ClaimSeven
namespace Go.Proofs.YtdljfcleepmmmaaGreatDoor
namespace Rows

/-- THE TIED CARD OF 'laws.FnFloatAgain'. -/
def fnFloatAgainCard : Claim7 := { stood := { row := fnFloatAgainRow, standIns := [], harness := (true, "5646cb0b3f3070755928a4facb066c6c19639f63fd69b06f1583bde8588877ae"), looks := true }, kinds := [], alts := [], laidByText := true, laidKinds := [.data, .data, .widerDeep, .widerDeep, .data, .data, .data, .data, .data, .data, .sentinel, .sentinel, .sentinel, .data, .sentinel, .data, .pinned, .pinned, .pinned], laidTests := true, laidLooks := .later }
def FnFloatAgainCardSaid : Prop := Claim7.holds Tryz.pinned (.plain (OpenSpec.ofChange fnFloatAgainSpec)) fnFloatAgainCard

/-- THE SECOND FORM's CARD OF 'laws.FnFloatAgain'. -/
def fnFloatAgainUptoCard : Claim7 := { stood := { row := fnFloatAgainUptoRow, standIns := [], harness := (true, "5646cb0b3f3070755928a4facb066c6c19639f63fd69b06f1583bde8588877ae"), looks := true }, kinds := [], alts := [], laidByText := true, laidKinds := [.data, .data, .widerDeep, .widerDeep, .data, .data, .data, .data, .data, .data, .sentinel, .sentinel, .sentinel, .data, .sentinel, .data, .pinned, .pinned, .pinned], laidTests := true, laidLooks := .later }
def FnFloatAgainUptoCardSaid : Prop := Claim7.holds Tryz.pinned (.plain (OpenSpec.upto fnFloatAgainSpec)) fnFloatAgainUptoCard
end Rows
end Go.Proofs.YtdljfcleepmmmaaGreatDoor
