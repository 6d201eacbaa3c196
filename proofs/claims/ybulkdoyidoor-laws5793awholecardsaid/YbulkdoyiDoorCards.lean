/-
  DERIVED. GIVEN WITH THE SEED: THE CARDS: each row of YbulkdoyiDoorRows.lean that lists a variable, with what it lists TIED to the program's text (the seventh form; the later family's looks); each row that meets fmt, with fmt's text TOLD by the authors' own Lean function (tested against real Go, not proved from fmt's source: count such statements apart). THE CARD IS WHAT COUNTS. Prove the row's statement (the work); the ties are given (YbulkdoyiDoorTie.lean); close each card by the builder's one call (the guide's Derived/Test/ToyasCard.lean, 'card_holds'). Laid BY PROGRAM, IN A SANDBOX (cutbox-door.mjs). By AI agents, Wed Nov 11 2026. No macro, syntax, notation, axiom, sorry.
-/
import Derived.Test.YbulkdoyiDoorRows
import GoSem.ClaimSeven
namespace Go.Proofs.YbulkdoyiDoor
namespace Rows

/-- THE TIED CARD OF 'vault.LawS5793AWhole'. -/
def lawS5793AWholeCard : Claim7 := { stood := { row := lawS5793AWholeRow, standIns := [], harness := (true, "f121e90adaa33c0424446274068188c5d698dd55902f658f6fe35b8d618e3ab8"), looks := true }, kinds := [], alts := [], laidByText := true, laidKinds := [.sentinel, .sentinel], laidTests := true, laidLooks := .later }
def LawS5793AWholeCardSaid : Prop := Claim7.holds Ybad.pinned (.plain (OpenSpec.ofChange lawS5793AWholeSpec)) lawS5793AWholeCard
end Rows
end Go.Proofs.YbulkdoyiDoor
