/-
  No cell of these rows narrows 'for every input' (looked for: loops, veiled, ifaces, maps, wideKeys, modest, calm, conditions, laid).
  DERIVED. THE GIVEN ROWS OF THIS SEAT. 1 by the template 'for every input the law returns true; each argument reads behind the call as it read before'; 0 by the template 'total and deterministic' (their statements: YbulkgekqTotals.lean).
  GIVEN WITH THE SEED: the statements are not yours to turn. If you find one false, say at which input.
  Laid BY PROGRAM, IN A SANDBOX (cutbox-rows.mjs): the forced cells as the released guide's own fill.sh prints them over the translation c2c5704894c8047a… (all of the seat's roots in one cut). By AI agents, Wed Nov 11 2026. No macro, syntax, notation, axiom, sorry.
-/
import Derived.Test.YbulkgekqChecked
import GoSem.Claim
import GoSem.ClaimJoined
import GoSem.ClaimMapViews
import Derived.JoinedTies
import Derived.KernelRfl
namespace Go.Proofs.Ybulkgekq
/- THE CELL 'sum', in the pinned program and in every row, IS THE sha256 OF THE DUMP (.gsa) THAT YbulkgekqProg.lean LOADS. Nothing in Lean hashes anything: it is a label: what it is worth is what the hold of that sum in a sandbox is worth. -/
noncomputable def Yba.pinned : Pinned := { name := "ybulkgekq", sum := "c2c5704894c8047a13103fa1ebc82a7fd6e1bca0a5aad2c2129356f5dc3f881a", checked := Yba.checked }
namespace Rows
def none {H : Type} : Left H := { results := [], args := [] }

/-- 'namesake.LawS9051AWhole': WHATEVER THE INPUT: true; the input reads as it did. -/
def lawS9051AWholeSpec : ChangeSpec := { name := "lawS9051AWhole", fn := fun _ => fun
  | [d1, d2] => { results := [.lit (.bool true)], args := [d1, d2] }
  | _ => none }
def lawS9051AWholeRow : OpenClaim := { program := "ybulkgekq", sum := "c2c5704894c8047a13103fa1ebc82a7fd6e1bca0a5aad2c2129356f5dc3f881a", func := "example.com/namesake/namesake.LawS9051AWhole", spec := "lawS9051AWhole", apart := false }
def LawS9051AWholeSaid : Prop := lawS9051AWholeRow.holds Yba.pinned (OpenSpec.ofChange lawS9051AWholeSpec)

/-- ITS FALSE NEIGHBOUR: 'it returns false'. Refute it at one input. -/
def lawS9051AWholeWrong : ChangeSpec := { name := "lawS9051AWhole", fn := fun _ => fun
  | [d1, d2] => { results := [.lit (.bool false)], args := [d1, d2] }
  | _ => none }
def LawS9051AWholeWrongFalsely : Prop := lawS9051AWholeRow.holds Yba.pinned (OpenSpec.ofChange lawS9051AWholeWrong)

end Rows
end Go.Proofs.Ybulkgekq
