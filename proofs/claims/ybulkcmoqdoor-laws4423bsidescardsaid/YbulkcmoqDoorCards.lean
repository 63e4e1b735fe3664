/-
  DERIVED. GIVEN WITH THE SEED: THE CARDS: each row of YbulkcmoqDoorRows.lean that lists a variable, with what it lists TIED to the program's text (the seventh form; the later family's looks); each row that meets fmt, with fmt's text TOLD by the authors' own Lean function (tested against real Go, not proved from fmt's source: count such statements apart). THE CARD IS WHAT COUNTS. Prove the row's statement (the work); the ties are given (YbulkcmoqDoorTie.lean); close each card by the builder's one call (the guide's Derived/Test/ToyasCard.lean, 'card_holds'). Laid BY PROGRAM, IN A SANDBOX (cutbox-door.mjs). By AI agents, Wed Nov 11 2026. No macro, syntax, notation, axiom, sorry.
-/
import Derived.Test.YbulkcmoqDoorRows
import GoSem.ClaimSeven
namespace Go.Proofs.YbulkcmoqDoor
namespace Rows

/-- THE TIED CARD OF 'tiered-roles.LawS4423BSides'. -/
def lawS4423BSidesCard : Claim7 := { stood := { row := lawS4423BSidesRow, standIns := [], harness := (true, "8c0ee743b8d835d7c2d6e07b4bd4c31187570965acd693ab095015a2db83b876"), looks := false }, kinds := [], alts := [], laidByText := true, laidKinds := [.data], laidTests := true, laidLooks := .later }
def LawS4423BSidesCardSaid : Prop := Claim7.holds Ybad.pinned (.plain (OpenSpec.ofChange lawS4423BSidesSpec)) lawS4423BSidesCard
end Rows
end Go.Proofs.YbulkcmoqDoor
