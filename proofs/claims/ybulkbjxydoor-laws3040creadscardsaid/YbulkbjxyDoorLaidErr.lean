import Derived.Test.YbulkbjxyDoorDec
import Derived.ProofKit
import Derived.OpenShut
import Derived.ChangeOld
import Derived.LaidMore
import Derived.Stop.Joined
import Derived.Stop.LaidErr
namespace Go.Proofs.YbulkbjxyDoor
open Go.ChangeShapes Go.WideShapes Go.ChangeAt Go.RowKit

theorem own : ownKnob Ybad.prog.godebug = none := by kernel_rfl
theorem laidOut : laidOutB Ybad.prog = true := by kernel_rfl

/-- The listed variable's name, off the row. -/
def errName : String := Rows.lawS3040CExactRow.named.headD ""
/-- The row's list. -/
def errLaid : List (String × DataW Unit) := Rows.lawS3040CExactRow.laid

theorem gErr : Ybad.prog.globalNamed errName = some 0 := by kernel_rfl
theorem tErr : (Ybad.prog.globals[0]?).map (·.type) = some 26 := by kernel_rfl
theorem cells53 : Ybad.prog.cellsOf 53 = 1 := by kernel_rfl
theorem cells9 : Ybad.prog.cellsOf 9 = 1 := by kernel_rfl
theorem star : "*" ++ "errors.errorString" = String.ofList ['*', 'e', 'r', 'r', 'o', 'r', 's', '.', 'e', 'r', 'r', 'o', 'r', 'S', 't', 'r', 'i', 'n', 'g'] := by decide

theorem row33 (u : TypeId) (h : Ybad.prog.typeName? 3 u = some ("*" ++ "errors.errorString")) : u = 33 :=
  typeName_ptr_named (nm := "errors.errorString") (by rw [star]; kernel_rfl) (by kernel_rfl) (by decide) u h

/-- What the row's condition gives the walks: the variable's cell. -/
theorem err_of_laid {W : World} (h : laidMetH Ybad.prog errLaid W) : ∃ a, W.var? Ybad.prog errName = some #[.iface 33 (.pointer (some a))] := by
  have h' : laidMetH Ybad.prog [(errName, .iface ("*" ++ "errors.errorString") (.ptr (.agg [.lit (.string [119, 105, 114, 101, 58, 32, 109, 97, 108, 102, 111, 114, 109, 101, 100, 32, 109, 101, 115, 115, 97, 103, 101])])))] W := h
  rw [MakeChecks.laidMetH_plain _ _ _ (by kernel_rfl)] at h'
  obtain ⟨a, _, hv, _⟩ := laid_sentinel h' gErr tErr Ybad.underlying26 row33 Ybad.underlying33 Ybad.underlying53 rfl rfl Ybad.underlying9 cells53 cells9
  exact ⟨a, hv⟩

/-- The door's own heap meets the condition. -/
theorem door_met (os : Os) (args : Array Value) : laidMetH Ybad.prog errLaid ((World.doorLaid Ybad.prog 28 os).forCall (fun _ _ => 0) ⟨#[], args, []⟩).memory :=
  laidMetH_of_parts3 (fuel := 8) (laidMet_of_run' 8 (by kernel_rfl) (by kernel_rfl)) (by kernel_rfl) (by kernel_rfl)

theorem var_below {W W' : World} {cs : Array Value} (h : W.var? Ybad.prog errName = some cs) (hs : 0 < W.heap.size) (b : Below W.heap.size W W') : W'.var? Ybad.prog errName = some cs := by
  unfold World.var? at h ⊢
  rw [gErr] at h ⊢
  simp only [Option.bind_some] at h ⊢
  rw [b.block 0 hs]
  exact h

theorem cell_of_var {W : World} {v : Value} (h : W.var? Ybad.prog errName = some #[v]) : W.cell? ⟨0, 0, none⟩ = some v := by
  simpa using World.var?_cell gErr h 0
end Go.Proofs.YbulkbjxyDoor
