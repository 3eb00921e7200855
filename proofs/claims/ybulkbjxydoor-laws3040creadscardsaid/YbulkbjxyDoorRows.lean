/-
  NARROWER THAN 'FOR EVERY INPUT', by the rows' own cells (each row's printed sentence says how): LawS3040CExact: ifaces, laid · LawS3040CReads: ifaces, laid.
  DERIVED. THE GIVEN ROWS OF THIS SEAT. 2 by the template 'for every input the law returns true; each argument reads behind the call as it read before'; 0 by the template 'total and deterministic' (their statements: YbulkbjxyDoorTotals.lean).
  GIVEN WITH THE SEED: the statements are not yours to turn. If you find one false, say at which input.
  Laid BY PROGRAM, IN A SANDBOX (cutbox-rows.mjs): the forced cells as the released guide's own fill.sh prints them over the translation 9d9e7461c64ff9b9… (all of the seat's roots in one cut). By AI agents, Wed Nov 11 2026. No macro, syntax, notation, axiom, sorry.
-/
import Derived.Test.YbulkbjxyDoorChecked
import GoSem.Claim
import GoSem.ClaimJoined
import GoSem.ClaimMapViews
import Derived.JoinedTies
import Derived.KernelRfl
namespace Go.Proofs.YbulkbjxyDoor
/- THE CELL 'sum', in the pinned program and in every row, IS THE sha256 OF THE DUMP (.gsa) THAT YbulkbjxyDoorProg.lean LOADS. Nothing in Lean hashes anything: it is a label: what it is worth is what the hold of that sum in a sandbox is worth. -/
noncomputable def Ybad.pinned : Pinned := { name := "ybulkbjxydoor", sum := "9d9e7461c64ff9b9e784cb7f534f54e8973d6174950d41e321e1da38ae0bb5fa", checked := Ybad.checked }
namespace Rows
def none {H : Type} : Left H := { results := [], args := [] }

/- WHAT THE LISTED PACKAGE-LEVEL VARIABLES READ AS WHEN THE CALL BEGINS. Each datum BY PROGRAM (the guide's laid-datum.mjs) off the statement by which the dump's own 'gosem.cut.vars' lays the variable. In a bare row this is a premise. The card (YbulkbjxyDoorCards.lean) ties it to the program's text. -/
def laid_example_com_matryoshka_matryoshka_internal_wire_ErrMalformed {H : Type} : DataW H := .iface "*errors.errorString" (.ptr (.agg [.lit (.string [119, 105, 114, 101, 58, 32, 109, 97, 108, 102, 111, 114, 109, 101, 100, 32, 109, 101, 115, 115, 97, 103, 101])]))

/-- 'wire.LawS3040CExact': WHATEVER THE INPUT: true; the input reads as it did. -/
def lawS3040CExactSpec : ChangeSpec := { name := "lawS3040CExact", vars := ["example.com/matryoshka/matryoshka/internal/wire.ErrMalformed"], fn := fun _ => fun
  | [d1, d2, g1] => { results := [.lit (.bool true)], args := [d1, d2], vars := [g1] }
  | _ => none }
def lawS3040CExactRow : OpenClaim := { program := "ybulkbjxydoor", sum := "9d9e7461c64ff9b9e784cb7f534f54e8973d6174950d41e321e1da38ae0bb5fa", func := "example.com/matryoshka/matryoshka/internal/wire.LawS3040CExact", spec := "lawS3040CExact", named := ["example.com/matryoshka/matryoshka/internal/wire.ErrMalformed"], ifaces := true, apart := false, laid := [("example.com/matryoshka/matryoshka/internal/wire.ErrMalformed", laid_example_com_matryoshka_matryoshka_internal_wire_ErrMalformed)] }
def LawS3040CExactSaid : Prop := lawS3040CExactRow.holds Ybad.pinned (OpenSpec.ofChange lawS3040CExactSpec)

/-- ITS FALSE NEIGHBOUR: 'it returns false'. Refute it at one input. -/
def lawS3040CExactWrong : ChangeSpec := { name := "lawS3040CExact", vars := ["example.com/matryoshka/matryoshka/internal/wire.ErrMalformed"], fn := fun _ => fun
  | [d1, d2, g1] => { results := [.lit (.bool false)], args := [d1, d2], vars := [g1] }
  | _ => none }
def LawS3040CExactWrongFalsely : Prop := lawS3040CExactRow.holds Ybad.pinned (OpenSpec.ofChange lawS3040CExactWrong)

/-- 'wire.LawS3040CReads': WHATEVER THE INPUT: true; the input reads as it did. -/
def lawS3040CReadsSpec : ChangeSpec := { name := "lawS3040CReads", vars := ["example.com/matryoshka/matryoshka/internal/wire.ErrMalformed"], fn := fun _ => fun
  | [d1, d2, d3, g1] => { results := [.lit (.bool true)], args := [d1, d2, d3], vars := [g1] }
  | _ => none }
def lawS3040CReadsRow : OpenClaim := { program := "ybulkbjxydoor", sum := "9d9e7461c64ff9b9e784cb7f534f54e8973d6174950d41e321e1da38ae0bb5fa", func := "example.com/matryoshka/matryoshka/internal/wire.LawS3040CReads", spec := "lawS3040CReads", named := ["example.com/matryoshka/matryoshka/internal/wire.ErrMalformed"], ifaces := true, apart := false, laid := [("example.com/matryoshka/matryoshka/internal/wire.ErrMalformed", laid_example_com_matryoshka_matryoshka_internal_wire_ErrMalformed)] }
def LawS3040CReadsSaid : Prop := lawS3040CReadsRow.holds Ybad.pinned (OpenSpec.ofChange lawS3040CReadsSpec)

/-- ITS FALSE NEIGHBOUR: 'it returns false'. Refute it at one input. -/
def lawS3040CReadsWrong : ChangeSpec := { name := "lawS3040CReads", vars := ["example.com/matryoshka/matryoshka/internal/wire.ErrMalformed"], fn := fun _ => fun
  | [d1, d2, d3, g1] => { results := [.lit (.bool false)], args := [d1, d2, d3], vars := [g1] }
  | _ => none }
def LawS3040CReadsWrongFalsely : Prop := lawS3040CReadsRow.holds Ybad.pinned (OpenSpec.ofChange lawS3040CReadsWrong)

end Rows
end Go.Proofs.YbulkbjxyDoor
