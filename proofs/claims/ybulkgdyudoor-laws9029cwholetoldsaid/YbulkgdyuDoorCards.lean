/-
  DERIVED. GIVEN WITH THE SEED: THE CARDS: each row of YbulkgdyuDoorRows.lean that lists a variable, with what it lists TIED to the program's text (the seventh form; the later family's looks); each row that meets fmt, with fmt's text TOLD by the authors' own Lean function (tested against real Go, not proved from fmt's source: count such statements apart). THE CARD IS WHAT COUNTS. Prove the row's statement (the work); the ties are given (YbulkgdyuDoorTie.lean); close each card by the builder's one call (the guide's Derived/Test/ToyasCard.lean, 'card_holds'). Laid BY PROGRAM, IN A SANDBOX (cutbox-door.mjs). By AI agents, Wed Nov 11 2026. No macro, syntax, notation, axiom, sorry.
-/
import Derived.Test.YbulkgdyuDoorRows
import GoSem.ClaimSeven
namespace Go.Proofs.YbulkgdyuDoor
namespace Rows

/-- THE TIED CARD OF 'verify.LawS9029AWhole'. -/
def lawS9029AWholeCard : Claim7 := { stood := { row := lawS9029AWholeRow, standIns := [], harness := (true, "d63faac5c2b129ffa55e3ef3cdc4803780f859e0d676f61b75adbafd6981a893"), looks := true }, kinds := [], alts := [], laidByText := true, laidKinds := [.data, .data, .data], laidTests := true, laidLooks := .later }
def LawS9029AWholeCardSaid : Prop := Claim7.holds Ybad.pinned (.plain (OpenSpec.ofChange lawS9029AWholeSpec)) lawS9029AWholeCard

/-- THE TOLD AND TIED CARD OF 'resp.LawS9029CWhole'. -/
def lawS9029CWholeCard : Claim7 := { stood := { row := lawS9029CWholeRow, standIns := [], harness := (true, "d63faac5c2b129ffa55e3ef3cdc4803780f859e0d676f61b75adbafd6981a893"), looks := true }, told := true, laidByText := true, laidKinds := [.sentinel, .sentinel, .sentinel, .sentinel, .sentinel], laidTests := true, laidLooks := .later, goes := false }
def LawS9029CWholeToldSaid : Prop := Claim7.holds Ybad.pinned (.plain (OpenSpec.ofChange lawS9029CWholeSpec)) lawS9029CWholeCard
/-- ITS FALSE NEIGHBOUR. Refute it at one input. -/
def LawS9029CWholeToldWrongFalsely : Prop := Claim7.holds Ybad.pinned (.plain (OpenSpec.ofChange lawS9029CWholeWrong)) lawS9029CWholeCard
end Rows
end Go.Proofs.YbulkgdyuDoor
