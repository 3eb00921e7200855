/-
  No cell of these rows narrows 'for every input' (looked for: loops, veiled, ifaces, maps, wideKeys, modest, calm, conditions, laid).
  DERIVED. THE GIVEN ROWS OF THIS SEAT. 2 by the template 'for every input the law returns true; each argument reads behind the call as it read before'; 0 by the template 'total and deterministic' (their statements: YbulkbjxyTotals.lean).
  GIVEN WITH THE SEED: the statements are not yours to turn. If you find one false, say at which input.
  Laid BY PROGRAM, IN A SANDBOX (cutbox-rows.mjs): the forced cells as the released guide's own fill.sh prints them over the translation 900a3ffb4449bb22… (all of the seat's roots in one cut). By AI agents, Wed Nov 11 2026. No macro, syntax, notation, axiom, sorry.
-/
import Derived.Test.YbulkbjxyChecked
import GoSem.Claim
import GoSem.ClaimJoined
import GoSem.ClaimMapViews
import Derived.JoinedTies
import Derived.KernelRfl
namespace Go.Proofs.Ybulkbjxy
/- THE CELL 'sum', in the pinned program and in every row, IS THE sha256 OF THE DUMP (.gsa) THAT YbulkbjxyProg.lean LOADS. Nothing in Lean hashes anything: it is a label: what it is worth is what the hold of that sum in a sandbox is worth. -/
noncomputable def Yba.pinned : Pinned := { name := "ybulkbjxy", sum := "900a3ffb4449bb229e05ec519eb70eb8655a6c0c620ee6e8bbf6e5b6d3e45332", checked := Yba.checked }
namespace Rows
def none {H : Type} : Left H := { results := [], args := [] }

/-- 'matryoshka.LawS3040AReached': WHATEVER THE INPUT: true; the input reads as it did. -/
def lawS3040AReachedSpec : ChangeSpec := { name := "lawS3040AReached", fn := fun _ => fun
  | [d1, d2, d3, d4, d5] => { results := [.lit (.bool true)], args := [d1, d2, d3, d4, d5] }
  | _ => none }
def lawS3040AReachedRow : OpenClaim := { program := "ybulkbjxy", sum := "900a3ffb4449bb229e05ec519eb70eb8655a6c0c620ee6e8bbf6e5b6d3e45332", func := "example.com/matryoshka/matryoshka.LawS3040AReached", spec := "lawS3040AReached", plainKeys := false, apart := false }
def LawS3040AReachedSaid : Prop := lawS3040AReachedRow.holds Yba.pinned (OpenSpec.ofChange lawS3040AReachedSpec)

/-- ITS FALSE NEIGHBOUR: 'it returns false'. Refute it at one input. -/
def lawS3040AReachedWrong : ChangeSpec := { name := "lawS3040AReached", fn := fun _ => fun
  | [d1, d2, d3, d4, d5] => { results := [.lit (.bool false)], args := [d1, d2, d3, d4, d5] }
  | _ => none }
def LawS3040AReachedWrongFalsely : Prop := lawS3040AReachedRow.holds Yba.pinned (OpenSpec.ofChange lawS3040AReachedWrong)

/-- 'matryoshka.LawS3040AClient': WHATEVER THE INPUT: true; the input reads as it did. -/
def lawS3040AClientSpec : ChangeSpec := { name := "lawS3040AClient", fn := fun _ => fun
  | [d1, d2, d3] => { results := [.lit (.bool true)], args := [d1, d2, d3] }
  | _ => none }
def lawS3040AClientRow : OpenClaim := { program := "ybulkbjxy", sum := "900a3ffb4449bb229e05ec519eb70eb8655a6c0c620ee6e8bbf6e5b6d3e45332", func := "example.com/matryoshka/matryoshka.LawS3040AClient", spec := "lawS3040AClient", plainKeys := false, apart := false }
def LawS3040AClientSaid : Prop := lawS3040AClientRow.holds Yba.pinned (OpenSpec.ofChange lawS3040AClientSpec)

/-- ITS FALSE NEIGHBOUR: 'it returns false'. Refute it at one input. -/
def lawS3040AClientWrong : ChangeSpec := { name := "lawS3040AClient", fn := fun _ => fun
  | [d1, d2, d3] => { results := [.lit (.bool false)], args := [d1, d2, d3] }
  | _ => none }
def LawS3040AClientWrongFalsely : Prop := lawS3040AClientRow.holds Yba.pinned (OpenSpec.ofChange lawS3040AClientWrong)

end Rows
end Go.Proofs.Ybulkbjxy
