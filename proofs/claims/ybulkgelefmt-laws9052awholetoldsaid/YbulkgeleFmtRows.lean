/-
  No cell of these rows narrows 'for every input' (looked for: loops, veiled, ifaces, maps, wideKeys, modest, calm, conditions, laid).
  DERIVED. THE GIVEN ROWS OF THIS SEAT. 1 by the template 'for every input the law returns true; each argument reads behind the call as it read before'; 0 by the template 'total and deterministic' (their statements: YbulkgeleFmtTotals.lean).
  GIVEN WITH THE SEED: the statements are not yours to turn. If you find one false, say at which input.
  Laid BY PROGRAM, IN A SANDBOX (cutbox-rows.mjs): the forced cells as the released guide's own fill.sh prints them over the translation 657e9e58223e9dbd… (all of the seat's roots in one cut). By AI agents, Wed Nov 11 2026. No macro, syntax, notation, axiom, sorry.
-/
import Derived.Test.YbulkgeleFmtChecked
import GoSem.Claim
import GoSem.ClaimJoined
import GoSem.ClaimMapViews
import Derived.JoinedTies
import Derived.KernelRfl
namespace Go.Proofs.YbulkgeleFmt
/- THE CELL 'sum', in the pinned program and in every row, IS THE sha256 OF THE DUMP (.gsa) THAT YbulkgeleFmtProg.lean LOADS. Nothing in Lean hashes anything: it is a label: what it is worth is what the hold of that sum in a sandbox is worth. -/
noncomputable def Ybaf.pinned : Pinned := { name := "ybulkgelefmt", sum := "657e9e58223e9dbdef245bbdb071073f1a2cf1d6594173acd926a165b08257b4", checked := Ybaf.checked }
namespace Rows
def none {H : Type} : Left H := { results := [], args := [] }

/-- 'grievance.LawS9052AWhole': WHATEVER THE INPUT: true; the input reads as it did. -/
def lawS9052AWholeSpec : ChangeSpec := { name := "lawS9052AWhole", fn := fun _ => fun
  | [d1, d2] => { results := [.lit (.bool true)], args := [d1, d2] }
  | _ => none }
def lawS9052AWholeRow : OpenClaim := { program := "ybulkgelefmt", sum := "657e9e58223e9dbdef245bbdb071073f1a2cf1d6594173acd926a165b08257b4", func := "example.com/grievance/grievance.LawS9052AWhole", spec := "lawS9052AWhole", stops := ["fmt.errorf"], inPlace := ["fmt.errorf"], apart := false }
/-- NO THEOREM (fmt's text is open here; it may be false): for the released tool's asking of the row's closed facts alone. THE STATEMENT IS 'LawS9052AWholeToldSaid' (YbulkgeleFmtCards.lean). -/
def LawS9052AWholeFormAsk : Prop := lawS9052AWholeRow.holds Ybaf.pinned (OpenSpec.ofChange lawS9052AWholeSpec)

/-- ITS FALSE NEIGHBOUR: 'it returns false'. Refute it at one input. -/
def lawS9052AWholeWrong : ChangeSpec := { name := "lawS9052AWhole", fn := fun _ => fun
  | [d1, d2] => { results := [.lit (.bool false)], args := [d1, d2] }
  | _ => none }
def LawS9052AWholeWrongFormAsk : Prop := lawS9052AWholeRow.holds Ybaf.pinned (OpenSpec.ofChange lawS9052AWholeWrong)

end Rows
end Go.Proofs.YbulkgeleFmt
