/-
  No cell of these rows narrows 'for every input' (looked for: loops, veiled, ifaces, maps, wideKeys, modest, calm, conditions, laid).
  DERIVED. THE GIVEN ROWS OF THIS SEAT. 1 by the template 'for every input the law returns true; each argument reads behind the call as it read before'; 0 by the template 'total and deterministic' (their statements: YbulkgeleTotals.lean).
  GIVEN WITH THE SEED: the statements are not yours to turn. If you find one false, say at which input.
  Laid BY PROGRAM, IN A SANDBOX (cutbox-rows.mjs): the forced cells as the released guide's own fill.sh prints them over the translation 8fbb717e4fff2db5… (all of the seat's roots in one cut). By AI agents, Wed Nov 11 2026. No macro, syntax, notation, axiom, sorry.
-/
import Derived.Test.YbulkgeleChecked
import GoSem.Claim
import GoSem.ClaimJoined
import GoSem.ClaimMapViews
import Derived.JoinedTies
import Derived.KernelRfl
namespace Go.Proofs.Ybulkgele
/- THE CELL 'sum', in the pinned program and in every row, IS THE sha256 OF THE DUMP (.gsa) THAT YbulkgeleProg.lean LOADS. Nothing in Lean hashes anything: it is a label: what it is worth is what the hold of that sum in a sandbox is worth. -/
noncomputable def Yba.pinned : Pinned := { name := "ybulkgele", sum := "8fbb717e4fff2db5d0e0843bcb4af0e6acf953d2f5b3619f1d784cacc6120eee", checked := Yba.checked }
namespace Rows
def none {H : Type} : Left H := { results := [], args := [] }

/-- 'grievance.LawS9052CWhole': WHATEVER THE INPUT: true; the input reads as it did. -/
def lawS9052CWholeSpec : ChangeSpec := { name := "lawS9052CWhole", fn := fun _ => fun
  | [d1, d2, d3] => { results := [.lit (.bool true)], args := [d1, d2, d3] }
  | _ => none }
def lawS9052CWholeRow : OpenClaim := { program := "ybulkgele", sum := "8fbb717e4fff2db5d0e0843bcb4af0e6acf953d2f5b3619f1d784cacc6120eee", func := "example.com/grievance/grievance.LawS9052CWhole", spec := "lawS9052CWhole", apart := false }
def LawS9052CWholeSaid : Prop := lawS9052CWholeRow.holds Yba.pinned (OpenSpec.ofChange lawS9052CWholeSpec)

/-- ITS FALSE NEIGHBOUR: 'it returns false'. Refute it at one input. -/
def lawS9052CWholeWrong : ChangeSpec := { name := "lawS9052CWhole", fn := fun _ => fun
  | [d1, d2, d3] => { results := [.lit (.bool false)], args := [d1, d2, d3] }
  | _ => none }
def LawS9052CWholeWrongFalsely : Prop := lawS9052CWholeRow.holds Yba.pinned (OpenSpec.ofChange lawS9052CWholeWrong)

end Rows
end Go.Proofs.Ybulkgele
