/-
  DERIVED. GIVEN WITH THE SEED: THE CARDS: each row of YbulkgekqFmtRows.lean that lists a variable, with what it lists TIED to the program's text (the seventh form; the later family's looks); each row that meets fmt, with fmt's text TOLD by the authors' own Lean function (tested against real Go, not proved from fmt's source: count such statements apart). THE CARD IS WHAT COUNTS. Prove the row's statement (the work); the ties are given (YbulkgekqFmtTie.lean); close each card by the builder's one call (the guide's Derived/Test/ToyasCard.lean, 'card_holds'). Laid BY PROGRAM, IN A SANDBOX (cutbox-door.mjs). By AI agents, Wed Nov 11 2026. No macro, syntax, notation, axiom, sorry.
-/
import Derived.Test.YbulkgekqFmtRows
import GoSem.ClaimSeven
namespace Go.Proofs.YbulkgekqFmt
namespace Rows

/-- THE TOLD CARD OF 'namesake.LawS9051BWhole'. -/
def lawS9051BWholeCard : Claim7 := { stood := { row := lawS9051BWholeRow, standIns := [], harness := (true, "fc41ff388e9defd9c0981b4e523c44d584a6b213b0c418888540fbf7dfbacae2"), looks := true }, told := true, goes := false }
def LawS9051BWholeToldSaid : Prop := Claim7.holds Ybaf.pinned (.plain (OpenSpec.ofChange lawS9051BWholeSpec)) lawS9051BWholeCard
/-- ITS FALSE NEIGHBOUR. Refute it at one input. -/
def LawS9051BWholeToldWrongFalsely : Prop := Claim7.holds Ybaf.pinned (.plain (OpenSpec.ofChange lawS9051BWholeWrong)) lawS9051BWholeCard
end Rows
end Go.Proofs.YbulkgekqFmt
