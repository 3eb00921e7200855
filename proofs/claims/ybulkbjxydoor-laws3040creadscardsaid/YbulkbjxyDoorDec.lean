import Derived.Test.YbulkbjxyDoorRows
import Derived.WalkKit
import Derived.WalkSpells
import Derived.WalkLawsBesides
import Derived.LaidEql
import Derived.Stop.IfaceNil
import Derived.Below
namespace Go.Proofs.YbulkbjxyDoor
open Go.RowKit

set_option maxHeartbeats 400000 in
theorem finish_bad (b : Nat) (ev : Value) (w : World)
    (h1 : w.cell? ⟨b, 1, none⟩ = some (.bool true)) (hg : w.cell? ⟨0, 0, none⟩ = some ev) :
    Calls Ybad.prog 5 #[.pointer (some ⟨b, 0, none⟩)] w fun e w' => e = .returned ev ∧ w' = w := by
  go_enter Ybad.func5, Ybad.ntmps5
  go_wp2
  go_ret
  exact ⟨rfl, rfl⟩

set_option maxHeartbeats 400000 in
theorem finish_left (b : Nat) (ev : Value) (a : Option Addr) (len cap : Nat) (w : World) (h0 : w.cell? ⟨b, 0, none⟩ = some (.slice a len cap))
    (h1 : w.cell? ⟨b, 1, none⟩ = some (.bool false)) (hg : w.cell? ⟨0, 0, none⟩ = some ev) (hl : ((len : Int) == 0) = false) :
    Calls Ybad.prog 5 #[.pointer (some ⟨b, 0, none⟩)] w fun e w' => e = .returned ev ∧ w' = w := by
  go_enter Ybad.func5, Ybad.ntmps5
  go_wp2
  go_ret
  exact ⟨rfl, rfl⟩

set_option maxHeartbeats 400000 in
theorem finish_ok (b : Nat) (a : Option Addr) (cap : Nat) (w : World) (h0 : w.cell? ⟨b, 0, none⟩ = some (.slice a 0 cap))
    (h1 : w.cell? ⟨b, 1, none⟩ = some (.bool false)) :
    Calls Ybad.prog 5 #[.pointer (some ⟨b, 0, none⟩)] w fun e w' => e = .returned .nilIface ∧ w' = w := by
  go_enter Ybad.func5, Ybad.ntmps5
  go_wp2
  go_ret
  exact ⟨rfl, rfl⟩

set_option maxHeartbeats 400000 in
theorem fail_any (b : Nat) (w : World) (v0 v1 : Value) (h0 : w.cell? ⟨b, 0, none⟩ = some v0) (h1 : w.cell? ⟨b, 1, none⟩ = some v1)
    (f0 : w.frozen? ⟨b, 0, none⟩ = false) (f1 : w.frozen? ⟨b, 1, none⟩ = false) :
    Calls Ybad.prog 7 #[.pointer (some ⟨b, 0, none⟩)] w fun e w' => e = .returned (.tuple #[]) ∧ w' = (w.setCell ⟨b, 1, none⟩ (.bool true)).setCell ⟨b, 0, none⟩ (.slice none 0 0) := by
  go_enter Ybad.func7, Ybad.ntmps7
  go_wp2
  go_end0
  exact ⟨rfl, rfl⟩

set_option maxHeartbeats 400000 in
theorem u8_empty (b : Nat) (w : World) (a : Option Addr) (cap : Nat) (v1 : Value) (h0 : w.cell? ⟨b, 0, none⟩ = some (.slice a 0 cap)) (h1 : w.cell? ⟨b, 1, none⟩ = some v1)
    (f0 : w.frozen? ⟨b, 0, none⟩ = false) (f1 : w.frozen? ⟨b, 1, none⟩ = false) :
    Calls Ybad.prog 6 #[.pointer (some ⟨b, 0, none⟩)] w fun e w' => e = .returned (.int .u8 0) ∧ w' = (w.setCell ⟨b, 1, none⟩ (.bool true)).setCell ⟨b, 0, none⟩ (.slice none 0 0) := by
  go_enter Ybad.func6, Ybad.ntmps6
  go_wp2_with (go_at_call 7; refine (fail_any b _ _ _ h0 h1 f0 f1).mono ?_; rintro e w' ⟨rfl, rfl⟩)
  go_ret
  exact ⟨rfl, rfl⟩

set_option maxHeartbeats 400000 in
theorem u8_some (b : Nat) (w : World) (x : Addr) (len cap : Nat) (z : Int) (h0 : w.cell? ⟨b, 0, none⟩ = some (.slice (some x) (len + 1) cap))
    (hc : len + 1 ≤ cap) (hz : w.cell? x = some (.int .u8 z))
    (f0 : w.frozen? ⟨b, 0, none⟩ = false) :
    Calls Ybad.prog 6 #[.pointer (some ⟨b, 0, none⟩)] w fun e w' => e = .returned (.int .u8 z) ∧ ∃ y, (len ≠ 0 → y = ⟨x.block, x.off + 1, none⟩) ∧ w' = w.setCell ⟨b, 0, none⟩ (.slice (some y) len (cap - 1)) := by
  go_enter Ybad.func6, Ybad.ntmps6
  go_wp2
  all_goals go_ret
  · exact ⟨rfl, x, fun h => by omega, rfl⟩
  · exact ⟨rfl, _, fun h => rfl, rfl⟩

theorem comp33 : (Ybad.prog.info? 33).map (·.comparable) = some true := by kernel_rfl
theorem size53 : (Ybad.prog.info? 53).map (·.size) = some 1 := by kernel_rfl

theorem eql_same (w : World) (a : Addr) : (binOp .eql 26 (.iface 33 (.pointer (some a))) (.iface 33 (.pointer (some a)))).run Ybad.prog w = .ok (.bool true) w := by
  obtain ⟨i, hi, hcmp⟩ := Option.map_eq_some_iff.1 comp33
  obtain ⟨j, hj, _⟩ := Option.map_eq_some_iff.1 size53
  exact run_eql_iface_ptr_same w a Ybad.underlying26 Ybad.underlying33 hi hcmp hj

theorem neq_same (w : World) (a : Addr) : (binOp .neq 26 (.iface 33 (.pointer (some a))) (.iface 33 (.pointer (some a)))).run Ybad.prog w = .ok (.bool false) w := by
  obtain ⟨i, hi, hcmp⟩ := Option.map_eq_some_iff.1 comp33
  obtain ⟨j, hj, _⟩ := Option.map_eq_some_iff.1 size53
  simp only [binOp]
  simp [Op.equal, Op.maxDepth, run_equalIn_iface_ptr_same w 9998 a Ybad.underlying26 Ybad.underlying33 hi hcmp hj]

theorem old_cell {W : World} {b o : Nat} {v : Value} (h : W.cell? ⟨b, o, none⟩ = some v) : b < W.heap.size := by
  rcases Nat.lt_or_ge b W.heap.size with h' | h'
  · exact h'
  · simp [World.cell?, Array.getElem?_eq_none h'] at h
end Go.Proofs.YbulkbjxyDoor
