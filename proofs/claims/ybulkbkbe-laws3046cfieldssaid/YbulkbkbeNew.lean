import Derived.Test.YbulkbkbeSim
namespace Go.Proofs.Ybulkbkbe
open Go.RowKit

set_option maxHeartbeats 8000000 in
theorem new_run (n b : Nat) (a0 a1 a2 a3 : Int) (w : World) (h1 : n ≤ 4096) (h2 : b ≤ 4096) (Z1 Z2 Z3 : Array Value)
    (m1 : ∀ W : World, (Instr.makeSlice 28 (.int .i64 (n : Int)) (.int .i64 (n : Int))).run Yba.prog W = .ok (.slice (some ⟨W.heap.size, 0, none⟩) n n) (W.alloc (.cells Z1 5)))
    (m2 : ∀ W : World, (Instr.makeSlice 29 (.int .i64 ((b : Int) + 1)) (.int .i64 ((b : Int) + 1))).run Yba.prog W = .ok (.slice (some ⟨W.heap.size, 0, none⟩) (b + 1) (b + 1)) (W.alloc (.cells Z2 3)))
    (m3 : ∀ W : World, (Instr.makeSlice 30 (.int .i64 (n : Int)) (.int .i64 (n : Int))).run Yba.prog W = .ok (.slice (some ⟨W.heap.size, 0, none⟩) n n) (W.alloc (.cells Z3 37))) :
    Calls Yba.prog 5 #[.int .i64 n, .int .i64 b, .agg #[.int .i64 a0, .int .i64 a1, .int .i64 a2, .int .i64 a3]] w (SimAt n b a0 a1 a2 a3 w Z1 Z2 Z3) := by
  have hwb : IntKind.i64.wrap ((b : Int) + 1) = (b : Int) + 1 := by rw [IntKind.wrap_i64]; omega
  go_enter Yba.func5, Yba.ntmps5
  go_wp2
  go_region_held3 (fun w' => w'.cell? ⟨w.heap.size, 0, none⟩ = some (.int .i64 a0) ∧ w'.cell? ⟨w.heap.size, 1, none⟩ = some (.int .i64 a1) ∧ w'.cell? ⟨w.heap.size, 2, none⟩ = some (.int .i64 a2) ∧ w'.cell? ⟨w.heap.size, 3, none⟩ = some (.int .i64 a3)) (simp [go_sem, World.cell?_alloc_past])
    (first
      | (go_at_call 7; refine (step_any n b _ h1 h2).mono ?_; rintro e w' ⟨rfl, rfl⟩)
      | (go_at_call 8; refine (bit_any n _ h1 0 0 0 0).mono ?_; rintro e w' ⟨rfl, c1, c2, c3, rfl⟩))
  all_goals
    go_wp2
    go_ret
    refine sim_mk rfl (heap_drew (heap_drew (heap_new' _ (by simp)))) ?_ ?_ ?_ ?_
    · repeat (with_reducible (first | refine heap_drew ?_ | (refine heap_new' _ ?_; (simp; done)) | refine heap_past _ ?_))
    · repeat (with_reducible (first | refine heap_drew ?_ | (refine heap_new' _ ?_; (simp; done)) | refine heap_past _ ?_))
    · repeat (with_reducible (first | refine heap_drew ?_ | (refine heap_new' _ ?_; (simp; done)) | refine heap_past _ ?_))
    · repeat (with_reducible (first | exact Below.refl _ _ | refine Below.drew ?_ | refine Below.alloc ?_ (by (try simp) <;> omega) _))

theorem new_any (n b : Nat) (a0 a1 a2 a3 : Int) (w : World) (h1 : n ≤ 4096) (h2 : b ≤ 4096) :
    Calls Yba.prog 5 #[.int .i64 n, .int .i64 b, .agg #[.int .i64 a0, .int .i64 a1, .int .i64 a2, .int .i64 a3]] w (SimAt n b a0 a1 a2 a3 w (Z1 n) (Z2 b) (Z3 n)) := by
  have m1 := mk_run 28 5 _ 1 1 Yba.underlying28 info5 (by omega) n (by omega)
  have m2 := mk_run 29 3 _ 1 8 Yba.underlying29 info3 (by omega) (b + 1) (by omega)
  have m3 := mk_run 30 37 _ 4 8 Yba.underlying30 info37 (by omega) n (by omega)
  refine new_run n b a0 a1 a2 a3 w h1 h2 (Z1 n) (Z2 b) (Z3 n) ?_ ?_ ?_
  · intro W; have := m1 W; rw [Nat.mul_one] at this; exact this
  · intro W; have := m2 W; rw [Nat.mul_one] at this; exact this
  · intro W; exact m3 W
end Go.Proofs.Ybulkbkbe
