/-
  DERIVED. GIVEN WITH THE SEED: THE CARDS: each row of YbulkgeleFmtRows.lean that lists a variable, with what it lists TIED to the program's text (the seventh form; the later family's looks); each row that meets fmt, with fmt's text TOLD by the authors' own Lean function (tested against real Go, not proved from fmt's source: count such statements apart). THE CARD IS WHAT COUNTS. Prove the row's statement (the work); the ties are given (YbulkgeleFmtTie.lean); close each card by the builder's one call (the guide's Derived/Test/ToyasCard.lean, 'card_holds'). Laid BY PROGRAM, IN A SANDBOX (cutbox-door.mjs). By AI agents, Wed Nov 11 2026. No macro, syntax, notation, axiom, sorry.
-/
import Derived.Test.YbulkgeleFmtRows
import GoSem.ClaimSeven
namespace Go.Proofs.YbulkgeleFmt
namespace Rows

/-- THE TOLD CARD OF 'grievance.LawS9052AWhole'. -/
def lawS9052AWholeCard : Claim7 := { stood := { row := lawS9052AWholeRow, standIns := [], harness := (true, "28d1aa3028a3b88d9e7b41f988bc2787c9c12f740de4e08c6b52d5a207b4f7a4"), looks := false }, told := true, goes := false }
def LawS9052AWholeToldSaid : Prop := Claim7.holds Ybaf.pinned (.plain (OpenSpec.ofChange lawS9052AWholeSpec)) lawS9052AWholeCard
/-- ITS FALSE NEIGHBOUR. Refute it at one input. -/
def LawS9052AWholeToldWrongFalsely : Prop := Claim7.holds Ybaf.pinned (.plain (OpenSpec.ofChange lawS9052AWholeWrong)) lawS9052AWholeCard
end Rows
end Go.Proofs.YbulkgeleFmt
