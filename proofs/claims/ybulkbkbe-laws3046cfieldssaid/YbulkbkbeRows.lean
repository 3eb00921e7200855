/-
  No cell of these rows narrows 'for every input' (looked for: loops, veiled, ifaces, maps, wideKeys, modest, calm, conditions, laid).
  DERIVED. THE GIVEN ROWS OF THIS SEAT. 2 by the template 'for every input the law returns true; each argument reads behind the call as it read before'; 0 by the template 'total and deterministic' (their statements: YbulkbkbeTotals.lean).
  GIVEN WITH THE SEED: the statements are not yours to turn. If you find one false, say at which input.
  Laid BY PROGRAM, IN A SANDBOX (cutbox-rows.mjs): the forced cells as the released guide's own fill.sh prints them over the translation c5ecce57b9e050cb… (all of the seat's roots in one cut). By AI agents, Wed Nov 11 2026. No macro, syntax, notation, axiom, sorry.
-/
import Derived.Test.YbulkbkbeChecked
import GoSem.Claim
import GoSem.ClaimJoined
import GoSem.ClaimMapViews
import Derived.JoinedTies
import Derived.KernelRfl
namespace Go.Proofs.Ybulkbkbe
/- THE CELL 'sum', in the pinned program and in every row, IS THE sha256 OF THE DUMP (.gsa) THAT YbulkbkbeProg.lean LOADS. Nothing in Lean hashes anything: it is a label: what it is worth is what the hold of that sum in a sandbox is worth. -/
noncomputable def Yba.pinned : Pinned := { name := "ybulkbkbe", sum := "c5ecce57b9e050cb041b9126b2a7f171aaefe906860b32bc3c218d0d519513e8", checked := Yba.checked }
namespace Rows
def none {H : Type} : Left H := { results := [], args := [] }

/-- 'ecng.LawS3046CFields': WHATEVER THE INPUT: true; the input reads as it did. -/
def lawS3046CFieldsSpec : ChangeSpec := { name := "lawS3046CFields", fn := fun _ => fun
  | [d1, d2, d3] => { results := [.lit (.bool true)], args := [d1, d2, d3] }
  | _ => none }
def lawS3046CFieldsRow : OpenClaim := { program := "ybulkbkbe", sum := "c5ecce57b9e050cb041b9126b2a7f171aaefe906860b32bc3c218d0d519513e8", func := "example.com/beepwright/beepwright/internal/ecng.LawS3046CFields", spec := "lawS3046CFields", apart := false }
def LawS3046CFieldsSaid : Prop := lawS3046CFieldsRow.holds Yba.pinned (OpenSpec.ofChange lawS3046CFieldsSpec)

/-- ITS FALSE NEIGHBOUR: 'it returns false'. Refute it at one input. -/
def lawS3046CFieldsWrong : ChangeSpec := { name := "lawS3046CFields", fn := fun _ => fun
  | [d1, d2, d3] => { results := [.lit (.bool false)], args := [d1, d2, d3] }
  | _ => none }
def LawS3046CFieldsWrongFalsely : Prop := lawS3046CFieldsRow.holds Yba.pinned (OpenSpec.ofChange lawS3046CFieldsWrong)

/-- 'ecng.LawS3046CSlices': WHATEVER THE INPUT: true; the input reads as it did. -/
def lawS3046CSlicesSpec : ChangeSpec := { name := "lawS3046CSlices", fn := fun _ => fun
  | [d1, d2, d3] => { results := [.lit (.bool true)], args := [d1, d2, d3] }
  | _ => none }
def lawS3046CSlicesRow : OpenClaim := { program := "ybulkbkbe", sum := "c5ecce57b9e050cb041b9126b2a7f171aaefe906860b32bc3c218d0d519513e8", func := "example.com/beepwright/beepwright/internal/ecng.LawS3046CSlices", spec := "lawS3046CSlices", apart := false }
def LawS3046CSlicesSaid : Prop := lawS3046CSlicesRow.holds Yba.pinned (OpenSpec.ofChange lawS3046CSlicesSpec)

/-- ITS FALSE NEIGHBOUR: 'it returns false'. Refute it at one input. -/
def lawS3046CSlicesWrong : ChangeSpec := { name := "lawS3046CSlices", fn := fun _ => fun
  | [d1, d2, d3] => { results := [.lit (.bool false)], args := [d1, d2, d3] }
  | _ => none }
def LawS3046CSlicesWrongFalsely : Prop := lawS3046CSlicesRow.holds Yba.pinned (OpenSpec.ofChange lawS3046CSlicesWrong)

end Rows
end Go.Proofs.Ybulkbkbe
