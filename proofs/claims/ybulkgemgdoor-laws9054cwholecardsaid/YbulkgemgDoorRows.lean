/-
  NARROWER THAN 'FOR EVERY INPUT', by the rows' own cells (each row's printed sentence says how): LawS9054CWhole: ifaces, laid.
  DERIVED. THE GIVEN ROWS OF THIS SEAT. 1 by the template 'for every input the law returns true; each argument reads behind the call as it read before'; 0 by the template 'total and deterministic' (their statements: YbulkgemgDoorTotals.lean).
  GIVEN WITH THE SEED: the statements are not yours to turn. If you find one false, say at which input.
  Laid BY PROGRAM, IN A SANDBOX (cutbox-rows.mjs): the forced cells as the released guide's own fill.sh prints them over the translation 99c3122fa3984931… (all of the seat's roots in one cut). By AI agents, Wed Nov 11 2026. No macro, syntax, notation, axiom, sorry.
-/
import Derived.Test.YbulkgemgDoorChecked
import GoSem.Claim
import GoSem.ClaimJoined
import GoSem.ClaimMapViews
import Derived.JoinedTies
import Derived.KernelRfl
namespace Go.Proofs.YbulkgemgDoor
/- THE CELL 'sum', in the pinned program and in every row, IS THE sha256 OF THE DUMP (.gsa) THAT YbulkgemgDoorProg.lean LOADS. Nothing in Lean hashes anything: it is a label: what it is worth is what the hold of that sum in a sandbox is worth. -/
noncomputable def Ybad.pinned : Pinned := { name := "ybulkgemgdoor", sum := "99c3122fa3984931739038ad23934ac7e00336d31a3d5480abab6eceac4b5491", checked := Ybad.checked }
namespace Rows
def none {H : Type} : Left H := { results := [], args := [] }

/- WHAT THE LISTED PACKAGE-LEVEL VARIABLES READ AS WHEN THE CALL BEGINS. Each datum BY PROGRAM (the guide's laid-datum.mjs) off the statement by which the dump's own 'gosem.cut.vars' lays the variable. In a bare row this is a premise. The card (YbulkgemgDoorCards.lean) ties it to the program's text. -/
def laid_example_com_bindwright_bindwright_SkipOperand {H : Type} : DataW H := .iface "*errors.errorString" (.ptr (.agg [.lit (.string [98, 105, 110, 100, 119, 114, 105, 103, 104, 116, 58, 32, 115, 107, 105, 112, 32, 116, 104, 105, 115, 32, 111, 112, 101, 114, 97, 110, 100])]))

/-- 'bindwright.LawS9054CWhole': WHATEVER THE INPUT: true; the input reads as it did. -/
def lawS9054CWholeSpec : ChangeSpec := { name := "lawS9054CWhole", vars := ["example.com/bindwright/bindwright.SkipOperand"], fn := fun _ => fun
  | [d1, d2, g1] => { results := [.lit (.bool true)], args := [d1, d2], vars := [g1] }
  | _ => none }
def lawS9054CWholeRow : OpenClaim := { program := "ybulkgemgdoor", sum := "99c3122fa3984931739038ad23934ac7e00336d31a3d5480abab6eceac4b5491", func := "example.com/bindwright/bindwright.LawS9054CWhole", spec := "lawS9054CWhole", unfollowed := true, recurses := true, named := ["example.com/bindwright/bindwright.SkipOperand"], ifaces := true, apart := false, laid := [("example.com/bindwright/bindwright.SkipOperand", laid_example_com_bindwright_bindwright_SkipOperand)] }
def LawS9054CWholeSaid : Prop := lawS9054CWholeRow.holds Ybad.pinned (OpenSpec.ofChange lawS9054CWholeSpec)

/-- ITS FALSE NEIGHBOUR: 'it returns false'. Refute it at one input. -/
def lawS9054CWholeWrong : ChangeSpec := { name := "lawS9054CWhole", vars := ["example.com/bindwright/bindwright.SkipOperand"], fn := fun _ => fun
  | [d1, d2, g1] => { results := [.lit (.bool false)], args := [d1, d2], vars := [g1] }
  | _ => none }
def LawS9054CWholeWrongFalsely : Prop := lawS9054CWholeRow.holds Ybad.pinned (OpenSpec.ofChange lawS9054CWholeWrong)

end Rows
end Go.Proofs.YbulkgemgDoor
