/-
  No cell of these rows narrows 'for every input' (looked for: loops, veiled, ifaces, maps, wideKeys, modest, calm, conditions, laid).
  DERIVED. THE GIVEN ROWS OF THIS SEAT. 2 by the template 'for every input the law returns true; each argument reads behind the call as it read before'; 0 by the template 'total and deterministic' (their statements: YbulkbkacTotals.lean).
  GIVEN WITH THE SEED: the statements are not yours to turn. If you find one false, say at which input.
  Laid BY PROGRAM, IN A SANDBOX (cutbox-rows.mjs): the forced cells as the released guide's own fill.sh prints them over the translation 1f240120d3af920a… (all of the seat's roots in one cut). By AI agents, Wed Nov 11 2026. No macro, syntax, notation, axiom, sorry.
-/
import Derived.Test.YbulkbkacChecked
import GoSem.Claim
import GoSem.ClaimJoined
import GoSem.ClaimMapViews
import Derived.JoinedTies
import Derived.KernelRfl
namespace Go.Proofs.Ybulkbkac
/- THE CELL 'sum', in the pinned program and in every row, IS THE sha256 OF THE DUMP (.gsa) THAT YbulkbkacProg.lean LOADS. Nothing in Lean hashes anything: it is a label: what it is worth is what the hold of that sum in a sandbox is worth. -/
noncomputable def Yba.pinned : Pinned := { name := "ybulkbkac", sum := "1f240120d3af920af8079a3364dce3335c3781180a0cd3bfaf78a7b6eae8bfe0", checked := Yba.checked }
namespace Rows
def none {H : Type} : Left H := { results := [], args := [] }

/-- 'crashfs.LawS3044CScript': WHATEVER THE INPUT: true; the input reads as it did. -/
def lawS3044CScriptSpec : ChangeSpec := { name := "lawS3044CScript", fn := fun _ => fun
  | [d] => { results := [.lit (.bool true)], args := [d] }
  | _ => none }
def lawS3044CScriptRow : OpenClaim := { program := "ybulkbkac", sum := "1f240120d3af920af8079a3364dce3335c3781180a0cd3bfaf78a7b6eae8bfe0", func := "example.com/holdfast/holdfast/crashfs.LawS3044CScript", spec := "lawS3044CScript", inPlace := ["(*internal/sync.Mutex).Lock", "internal/race.Disable", "sync/atomic.CompareAndSwapInt32", "internal/race.Enable", "internal/race.Acquire", "(*internal/sync.Mutex).lockSlow", "internal/sync.runtime_canSpin", "internal/sync.runtime_doSpin", "internal/sync.throw", "internal/sync.runtime_nanotime", "internal/sync.runtime_SemacquireMutex", "sync/atomic.AddInt32", "(*internal/sync.Mutex).Unlock", "internal/race.ReleaseMerge", "(*internal/sync.Mutex).unlockSlow", "internal/sync.fatal", "internal/sync.runtime_Semrelease"], apart := false }
def LawS3044CScriptSaid : Prop := lawS3044CScriptRow.holds Yba.pinned (OpenSpec.ofChange lawS3044CScriptSpec)

/-- ITS FALSE NEIGHBOUR: 'it returns false'. Refute it at one input. -/
def lawS3044CScriptWrong : ChangeSpec := { name := "lawS3044CScript", fn := fun _ => fun
  | [d] => { results := [.lit (.bool false)], args := [d] }
  | _ => none }
def LawS3044CScriptWrongFalsely : Prop := lawS3044CScriptRow.holds Yba.pinned (OpenSpec.ofChange lawS3044CScriptWrong)

/-- 'crashfs.LawS3044CReplacesFail': WHATEVER THE INPUT: true; the input reads as it did. -/
def lawS3044CReplacesFailSpec : ChangeSpec := { name := "lawS3044CReplacesFail", fn := fun _ => fun
  | [d1, d2, d3] => { results := [.lit (.bool true)], args := [d1, d2, d3] }
  | _ => none }
def lawS3044CReplacesFailRow : OpenClaim := { program := "ybulkbkac", sum := "1f240120d3af920af8079a3364dce3335c3781180a0cd3bfaf78a7b6eae8bfe0", func := "example.com/holdfast/holdfast/crashfs.LawS3044CReplacesFail", spec := "lawS3044CReplacesFail", inPlace := ["(*internal/sync.Mutex).Lock", "internal/race.Disable", "sync/atomic.CompareAndSwapInt32", "internal/race.Enable", "internal/race.Acquire", "(*internal/sync.Mutex).lockSlow", "internal/sync.runtime_canSpin", "internal/sync.runtime_doSpin", "internal/sync.throw", "internal/sync.runtime_nanotime", "internal/sync.runtime_SemacquireMutex", "sync/atomic.AddInt32", "(*internal/sync.Mutex).Unlock", "internal/race.ReleaseMerge", "(*internal/sync.Mutex).unlockSlow", "internal/sync.fatal", "internal/sync.runtime_Semrelease"], apart := false }
def LawS3044CReplacesFailSaid : Prop := lawS3044CReplacesFailRow.holds Yba.pinned (OpenSpec.ofChange lawS3044CReplacesFailSpec)

/-- ITS FALSE NEIGHBOUR: 'it returns false'. Refute it at one input. -/
def lawS3044CReplacesFailWrong : ChangeSpec := { name := "lawS3044CReplacesFail", fn := fun _ => fun
  | [d1, d2, d3] => { results := [.lit (.bool false)], args := [d1, d2, d3] }
  | _ => none }
def LawS3044CReplacesFailWrongFalsely : Prop := lawS3044CReplacesFailRow.holds Yba.pinned (OpenSpec.ofChange lawS3044CReplacesFailWrong)

end Rows
end Go.Proofs.Ybulkbkac
