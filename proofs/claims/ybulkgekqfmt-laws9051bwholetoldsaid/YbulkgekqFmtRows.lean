/-
  No cell of these rows narrows 'for every input' (looked for: loops, veiled, ifaces, maps, wideKeys, modest, calm, conditions, laid).
  DERIVED. THE GIVEN ROWS OF THIS SEAT. 1 by the template 'for every input the law returns true; each argument reads behind the call as it read before'; 0 by the template 'total and deterministic' (their statements: YbulkgekqFmtTotals.lean).
  GIVEN WITH THE SEED: the statements are not yours to turn. If you find one false, say at which input.
  Laid BY PROGRAM, IN A SANDBOX (cutbox-rows.mjs): the forced cells as the released guide's own fill.sh prints them over the translation 1537d6ff1d630b9d… (all of the seat's roots in one cut). By AI agents, Wed Nov 11 2026. No macro, syntax, notation, axiom, sorry.
-/
import Derived.Test.YbulkgekqFmtChecked
import GoSem.Claim
import GoSem.ClaimJoined
import GoSem.ClaimMapViews
import Derived.JoinedTies
import Derived.KernelRfl
namespace Go.Proofs.YbulkgekqFmt
/- THE CELL 'sum', in the pinned program and in every row, IS THE sha256 OF THE DUMP (.gsa) THAT YbulkgekqFmtProg.lean LOADS. Nothing in Lean hashes anything: it is a label: what it is worth is what the hold of that sum in a sandbox is worth. -/
noncomputable def Ybaf.pinned : Pinned := { name := "ybulkgekqfmt", sum := "1537d6ff1d630b9d0e5c60c111e4c44c6dbaad6c5f02a98f8c96518dfaaae2fc", checked := Ybaf.checked }
namespace Rows
def none {H : Type} : Left H := { results := [], args := [] }

/-- 'namesake.LawS9051BWhole': WHATEVER THE INPUT: true; the input reads as it did. -/
def lawS9051BWholeSpec : ChangeSpec := { name := "lawS9051BWhole", fn := fun _ => fun
  | [d1, d2] => { results := [.lit (.bool true)], args := [d1, d2] }
  | _ => none }
def lawS9051BWholeRow : OpenClaim := { program := "ybulkgekqfmt", sum := "1537d6ff1d630b9d0e5c60c111e4c44c6dbaad6c5f02a98f8c96518dfaaae2fc", func := "example.com/namesake/namesake.LawS9051BWhole", spec := "lawS9051BWhole", stops := ["fmt.Sprintf"], inPlace := ["fmt.Sprintf"], apart := false }
/-- NO THEOREM (fmt's text is open here; it may be false): for the released tool's asking of the row's closed facts alone. THE STATEMENT IS 'LawS9051BWholeToldSaid' (YbulkgekqFmtCards.lean). -/
def LawS9051BWholeFormAsk : Prop := lawS9051BWholeRow.holds Ybaf.pinned (OpenSpec.ofChange lawS9051BWholeSpec)

/-- ITS FALSE NEIGHBOUR: 'it returns false'. Refute it at one input. -/
def lawS9051BWholeWrong : ChangeSpec := { name := "lawS9051BWhole", fn := fun _ => fun
  | [d1, d2] => { results := [.lit (.bool false)], args := [d1, d2] }
  | _ => none }
def LawS9051BWholeWrongFormAsk : Prop := lawS9051BWholeRow.holds Ybaf.pinned (OpenSpec.ofChange lawS9051BWholeWrong)

end Rows
end Go.Proofs.YbulkgekqFmt
