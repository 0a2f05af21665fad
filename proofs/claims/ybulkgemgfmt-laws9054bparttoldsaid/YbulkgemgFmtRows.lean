/-
  No cell of these rows narrows 'for every input' (looked for: loops, veiled, ifaces, maps, wideKeys, modest, calm, conditions, laid).
  DERIVED. THE GIVEN ROWS OF THIS SEAT. 1 by the template 'for every input the law returns true; each argument reads behind the call as it read before'; 0 by the template 'total and deterministic' (their statements: YbulkgemgFmtTotals.lean).
  GIVEN WITH THE SEED: the statements are not yours to turn. If you find one false, say at which input.
  Laid BY PROGRAM, IN A SANDBOX (cutbox-rows.mjs): the forced cells as the released guide's own fill.sh prints them over the translation bb062d27f92d44fc… (all of the seat's roots in one cut). By AI agents, Wed Nov 11 2026. No macro, syntax, notation, axiom, sorry.
-/
import Derived.Test.YbulkgemgFmtChecked
import GoSem.Claim
import GoSem.ClaimJoined
import GoSem.ClaimMapViews
import Derived.JoinedTies
import Derived.KernelRfl
namespace Go.Proofs.YbulkgemgFmt
/- THE CELL 'sum', in the pinned program and in every row, IS THE sha256 OF THE DUMP (.gsa) THAT YbulkgemgFmtProg.lean LOADS. Nothing in Lean hashes anything: it is a label: what it is worth is what the hold of that sum in a sandbox is worth. -/
noncomputable def Ybaf.pinned : Pinned := { name := "ybulkgemgfmt", sum := "bb062d27f92d44fcabd76613990078598314b6d80f0c9aef4d691c8a83924b70", checked := Ybaf.checked }
namespace Rows
def none {H : Type} : Left H := { results := [], args := [] }

/-- 'bindwright.LawS9054BPart': WHATEVER THE INPUT: true; the input reads as it did. -/
def lawS9054BPartSpec : ChangeSpec := { name := "lawS9054BPart", fn := fun _ => fun
  | [d1, d2, d3, d4, d5, d6, d7, d8] => { results := [.lit (.bool true)], args := [d1, d2, d3, d4, d5, d6, d7, d8] }
  | _ => none }
def lawS9054BPartRow : OpenClaim := { program := "ybulkgemgfmt", sum := "bb062d27f92d44fcabd76613990078598314b6d80f0c9aef4d691c8a83924b70", func := "example.com/bindwright/bindwright.LawS9054BPart", spec := "lawS9054BPart", stops := ["fmt.Sprintf"], inPlace := ["fmt.Sprintf"], unfollowed := true, recurses := true, apart := false }
/-- NO THEOREM (fmt's text is open here; it may be false): for the released tool's asking of the row's closed facts alone. THE STATEMENT IS 'LawS9054BPartToldSaid' (YbulkgemgFmtCards.lean). -/
def LawS9054BPartFormAsk : Prop := lawS9054BPartRow.holds Ybaf.pinned (OpenSpec.ofChange lawS9054BPartSpec)

/-- ITS FALSE NEIGHBOUR: 'it returns false'. Refute it at one input. -/
def lawS9054BPartWrong : ChangeSpec := { name := "lawS9054BPart", fn := fun _ => fun
  | [d1, d2, d3, d4, d5, d6, d7, d8] => { results := [.lit (.bool false)], args := [d1, d2, d3, d4, d5, d6, d7, d8] }
  | _ => none }
def LawS9054BPartWrongFormAsk : Prop := lawS9054BPartRow.holds Ybaf.pinned (OpenSpec.ofChange lawS9054BPartWrong)

end Rows
end Go.Proofs.YbulkgemgFmt
