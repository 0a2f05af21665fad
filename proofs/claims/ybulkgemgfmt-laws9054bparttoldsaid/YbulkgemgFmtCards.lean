/-
  DERIVED. GIVEN WITH THE SEED: THE CARDS: each row of YbulkgemgFmtRows.lean that lists a variable, with what it lists TIED to the program's text (the seventh form; the later family's looks); each row that meets fmt, with fmt's text TOLD by the authors' own Lean function (tested against real Go, not proved from fmt's source: count such statements apart). THE CARD IS WHAT COUNTS. Prove the row's statement (the work); the ties are given (YbulkgemgFmtTie.lean); close each card by the builder's one call (the guide's Derived/Test/ToyasCard.lean, 'card_holds'). Laid BY PROGRAM, IN A SANDBOX (cutbox-door.mjs). By AI agents, Wed Nov 11 2026. No macro, syntax, notation, axiom, sorry.
-/
import Derived.Test.YbulkgemgFmtRows
import GoSem.ClaimSeven
namespace Go.Proofs.YbulkgemgFmt
namespace Rows

/-- THE TOLD CARD OF 'bindwright.LawS9054BPart'. -/
def lawS9054BPartCard : Claim7 := { stood := { row := lawS9054BPartRow, standIns := [], harness := (true, "5e795ae530a3288ae571500750eb5de5bafa7900d4cca559caaa8fb23a16239c"), looks := true }, told := true, goes := false }
def LawS9054BPartToldSaid : Prop := Claim7.holds Ybaf.pinned (.plain (OpenSpec.ofChange lawS9054BPartSpec)) lawS9054BPartCard
/-- ITS FALSE NEIGHBOUR. Refute it at one input. -/
def LawS9054BPartToldWrongFalsely : Prop := Claim7.holds Ybaf.pinned (.plain (OpenSpec.ofChange lawS9054BPartWrong)) lawS9054BPartCard
end Rows
end Go.Proofs.YbulkgemgFmt
