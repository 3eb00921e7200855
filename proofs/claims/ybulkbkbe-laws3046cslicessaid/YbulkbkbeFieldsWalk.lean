import Derived.Test.YbulkbkbeSim
import Derived.BigQuiet
import Derived.Deep.QuietTactic
namespace Go.Proofs.Ybulkbkbe
open Go.RowKit

/-- ecng.New by its contract. -/
def NewSaid (n b : Nat) (a0 a1 a2 a3 : Int) : Prop :=
  ∀ W : World, Calls Yba.prog 5 #[.int .i64 n, .int .i64 b, .agg #[.int .i64 a0, .int .i64 a1, .int .i64 a2, .int .i64 a3]] W (SimAt n b a0 a1 a2 a3 W (Z1 n) (Z2 b) (Z3 n))

/-- The two worlds ahead of the call, and behind it. -/
theorem behind {w w1 : World} {a0 a1 a2 a3 : Int} {o : Obj} (bel : Below ((w.alloc o).alloc (.cells #[.int .i64 a0, .int .i64 a1, .int .i64 a2, .int .i64 a3] 24)).heap.size ((w.alloc o).alloc (.cells #[.int .i64 a0, .int .i64 a1, .int .i64 a2, .int .i64 a3] 24)) w1) :
    Below w.heap.size w w1 ∧ w1.cell? ⟨w.heap.size + 1, 0, none⟩ = some (.int .i64 a0) ∧ w1.cell? ⟨w.heap.size + 1, 1, none⟩ = some (.int .i64 a1) ∧ w1.cell? ⟨w.heap.size + 1, 2, none⟩ = some (.int .i64 a2) ∧ w1.cell? ⟨w.heap.size + 1, 3, none⟩ = some (.int .i64 a3) := by
  refine ⟨(((Below.refl _ _).alloc (Nat.le_refl _) _).alloc (by simp) _).trans (bel.mono (by simp; omega)), ?_, ?_, ?_, ?_⟩
  all_goals (rw [bel.cell (by simp)]; simp)

theorem wraps (c b : Nat) (hc : c ≤ 64) (hb : b ≤ 4096) : ((2 : Int) * (c : Int) + 2 + 2 * (b : Int) == IntKind.i64.wrap (IntKind.i64.wrap (IntKind.i64.wrap (2 * (c : Int)) + 2) + IntKind.i64.wrap (2 * (b : Int)))) = true := by
  rw [beq_iff_eq]
  simp only [IntKind.wrap_i64]
  omega
theorem below_dn {B : Nat} {a w : World} (n : Nat) (h : Below B a w) : Below B a (w.drewN n) := ⟨h.os, h.tape, h.output, h.size, h.block⟩

set_option maxHeartbeats 1000000 in
theorem fields_main (n b : Nat) (a0 a1 a2 a3 : Int) (w : World) (h1 : n ≤ 4096) (h2 : b ≤ 4096) (hnew : NewSaid n b a0 a1 a2 a3) :
    Calls Yba.prog 3 #[.int .i64 n, .int .i64 b, .agg #[.int .i64 a0, .int .i64 a1, .int .i64 a2, .int .i64 a3]] w fun e w' => e = .returned (.bool true) ∧ Below w.heap.size w w' := by
  have HN : Hid (NewSaid n b a0 a1 a2 a3) := hnew
  have hc := clog_le n
  clear hnew
  go_enter Yba.func3, Yba.ntmps3
  go_wp2_with fail
  refine (HN.out _).mono ?_
  rintro e w1 ⟨bx, bp, g1, g2, g3, rfl, hx, _, _, _, bel⟩
  obtain ⟨bel1, q0, q1, q2, q3⟩ := behind bel
  have BEL : Hid (Below w.heap.size w w1) := bel1
  have x0 : w1.cell? ⟨bx, 0, none⟩ = some (.int .i64 b) := cell_of hx 0
  have x1 : w1.cell? ⟨bx, 1, none⟩ = some (.int .i64 (2 * (clog n : Nat) + 2 + 2 * (b : Nat))) := cell_of hx 1
  have x2 : w1.cell? ⟨bx, 2, none⟩ = some (.pointer (some ⟨bp, 0, none⟩)) := cell_of hx 2
  have x3 : w1.cell? ⟨bx, 3, none⟩ = some (.int .i64 a0) := cell_of hx 3
  have x4 : w1.cell? ⟨bx, 4, none⟩ = some (.int .i64 a1) := cell_of hx 4
  have x5 : w1.cell? ⟨bx, 5, none⟩ = some (.int .i64 a2) := cell_of hx 5
  have x6 : w1.cell? ⟨bx, 6, none⟩ = some (.int .i64 a3) := cell_of hx 6
  clear bel bel1 hx HN
  go_wp2_with fail
  go_quiet (fail)
  go_wp2_with fail
  go_region_held3 (fun w' => w'.cell? ⟨bx, 1, none⟩ = some (.int .i64 (2 * (clog n : Nat) + 2 + 2 * (b : Nat)))) (simp [x1])
    (first | (go_at_call 6; refine (ceillog_any n _ h1).mono ?_; rintro e w' ⟨rfl, rfl⟩))
  go_wp2
  go_ret
  exact ⟨congrArg (fun x => Ending.returned (Value.bool x)) (wraps (clog n) b hc h2), below_dn _ BEL.out⟩

set_option maxHeartbeats 1000000 in
theorem fields_out (n b a0 a1 a2 a3 : Int) (w : World) (h : n < 0 ∨ 4096 < n ∨ b < 0 ∨ 4096 < b) :
    Calls Yba.prog 3 #[.int .i64 n, .int .i64 b, .agg #[.int .i64 a0, .int .i64 a1, .int .i64 a2, .int .i64 a3]] w fun e w' => e = .returned (.bool true) ∧ Below w.heap.size w w' := by
  by_cases c1 : n < 0
  · clear h
    go_enter Yba.func3, Yba.ntmps3
    go_wp2
    go_ret
    exact ⟨rfl, (Below.refl _ _).alloc (Nat.le_refl _) _⟩
  by_cases c2 : 4096 < n
  · clear h
    go_enter Yba.func3, Yba.ntmps3
    go_wp2
    go_ret
    exact ⟨rfl, (Below.refl _ _).alloc (Nat.le_refl _) _⟩
  by_cases c3 : b < 0
  · clear h
    go_enter Yba.func3, Yba.ntmps3
    go_wp2
    go_ret
    exact ⟨rfl, (Below.refl _ _).alloc (Nat.le_refl _) _⟩
  · have c4 : 4096 < b := by omega
    clear h
    go_enter Yba.func3, Yba.ntmps3
    go_wp2
    go_ret
    exact ⟨rfl, (Below.refl _ _).alloc (Nat.le_refl _) _⟩
end Go.Proofs.Ybulkbkbe
