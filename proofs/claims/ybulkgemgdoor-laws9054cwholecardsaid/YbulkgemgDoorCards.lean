/-
  DERIVED. GIVEN WITH THE SEED: THE CARDS: each row of YbulkgemgDoorRows.lean that lists a variable, with what it lists TIED to the program's text (the seventh form; the later family's looks); each row that meets fmt, with fmt's text TOLD by the authors' own Lean function (tested against real Go, not proved from fmt's source: count such statements apart). THE CARD IS WHAT COUNTS. Prove the row's statement (the work); the ties are given (YbulkgemgDoorTie.lean); close each card by the builder's one call (the guide's Derived/Test/ToyasCard.lean, 'card_holds'). Laid BY PROGRAM, IN A SANDBOX (cutbox-door.mjs). By AI agents, Wed Nov 11 2026. No macro, syntax, notation, axiom, sorry.
-/
import Derived.Test.YbulkgemgDoorRows
import GoSem.ClaimSeven
namespace Go.Proofs.YbulkgemgDoor
namespace Rows

/-- THE TIED CARD OF 'bindwright.LawS9054CWhole'. -/
def lawS9054CWholeCard : Claim7 := { stood := { row := lawS9054CWholeRow, standIns := [], harness := (true, "c8da5faf731561307e01e8d8a8aae4c7349f1aaeb0795d55ad923ba15245583b"), looks := true }, kinds := [], alts := [], laidByText := true, laidKinds := [.sentinel], laidTests := true, laidLooks := .later }
def LawS9054CWholeCardSaid : Prop := Claim7.holds Ybad.pinned (.plain (OpenSpec.ofChange lawS9054CWholeSpec)) lawS9054CWholeCard
end Rows
end Go.Proofs.YbulkgemgDoor
