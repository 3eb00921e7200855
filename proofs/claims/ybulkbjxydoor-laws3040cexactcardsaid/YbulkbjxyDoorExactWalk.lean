import Derived.Test.YbulkbjxyDoorDec
namespace Go.Proofs.YbulkbjxyDoor
open Go.RowKit

set_option maxHeartbeats 400000 in
theorem exact_bad (a : Option Addr) (len cap : Nat) (e0 : Addr) (w : World) (hg : w.cell? ⟨0, 0, none⟩ = some (.iface 33 (.pointer (some e0)))) :
    Calls Ybad.prog 3 #[.slice a len cap, .bool true] w fun e w' => e = .returned (.bool true) ∧ Below w.heap.size w w' := by
  have hlt := old_cell hg
  go_enter Ybad.func3, Ybad.ntmps3
  go_wp2_with (go_at_call 5; refine (finish_bad _ (.iface 33 (.pointer (some e0))) _ (by simp) (by simp [World.cell?_alloc_lt, hlt, hg])).mono ?_; rintro e w' ⟨rfl, rfl⟩)
  rw [neq_same]
  go_wp2
  go_ret
  exact ⟨rfl, (Below.refl _ _).alloc (Nat.le_refl _) _⟩

set_option maxHeartbeats 400000 in
theorem exact_left (a : Option Addr) (len cap : Nat) (e0 : Addr) (w : World) (hg : w.cell? ⟨0, 0, none⟩ = some (.iface 33 (.pointer (some e0)))) (hl : ((len : Int) == 0) = false) :
    Calls Ybad.prog 3 #[.slice a len cap, .bool false] w fun e w' => e = .returned (.bool true) ∧ Below w.heap.size w w' := by
  have hlt := old_cell hg
  go_enter Ybad.func3, Ybad.ntmps3
  go_wp2_with (go_at_call 5; refine (finish_left _ (.iface 33 (.pointer (some e0))) a len cap _ (by simp) (by simp) (by simp [World.cell?_alloc_lt, hlt, hg]) hl).mono ?_; rintro e w' ⟨rfl, rfl⟩)
  rw [neq_same]
  go_wp2
  go_ret
  exact ⟨rfl, (Below.refl _ _).alloc (Nat.le_refl _) _⟩

set_option maxHeartbeats 400000 in
theorem exact_ok (a : Option Addr) (cap : Nat) (w : World) :
    Calls Ybad.prog 3 #[.slice a 0 cap, .bool false] w fun e w' => e = .returned (.bool true) ∧ Below w.heap.size w w' := by
  go_enter Ybad.func3, Ybad.ntmps3
  go_wp2_with (go_at_call 5; refine (finish_ok _ a cap _ (by simp) (by simp)).mono ?_; rintro e w' ⟨rfl, rfl⟩)
  go_ret
  exact ⟨rfl, (Below.refl _ _).alloc (Nat.le_refl _) _⟩

theorem exact_walk (a : Option Addr) (len cap : Nat) (bad : Bool) (e0 : Addr) (w : World) (hg : w.cell? ⟨0, 0, none⟩ = some (.iface 33 (.pointer (some e0)))) :
    Calls Ybad.prog 3 #[.slice a len cap, .bool bad] w fun e w' => e = .returned (.bool true) ∧ Below w.heap.size w w' := by
  cases bad
  · by_cases h : len = 0
    · subst h; exact exact_ok a cap w
    · exact exact_left a len cap e0 w hg (by simpa using h)
  · exact exact_bad a len cap e0 w hg
end Go.Proofs.YbulkbjxyDoor
