import Derived.Test.YbulkbkbeFieldsWalk
namespace Go.Proofs.Ybulkbkbe
open Go.RowKit

set_option maxHeartbeats 1000000 in
theorem slices_out (n b a0 a1 a2 a3 : Int) (w : World) (h : n < 0 ∨ 4096 < n ∨ b < 0 ∨ 4096 < b) :
    Calls Yba.prog 4 #[.int .i64 n, .int .i64 b, .agg #[.int .i64 a0, .int .i64 a1, .int .i64 a2, .int .i64 a3]] w fun e w' => e = .returned (.bool true) ∧ Below w.heap.size w w' := by
  by_cases c1 : n < 0
  · clear h
    go_enter Yba.func4, Yba.ntmps4
    go_wp2
    go_ret
    exact ⟨rfl, (Below.refl _ _).alloc (Nat.le_refl _) _⟩
  by_cases c2 : 4096 < n
  · clear h
    go_enter Yba.func4, Yba.ntmps4
    go_wp2
    go_ret
    exact ⟨rfl, (Below.refl _ _).alloc (Nat.le_refl _) _⟩
  by_cases c3 : b < 0
  · clear h
    go_enter Yba.func4, Yba.ntmps4
    go_wp2
    go_ret
    exact ⟨rfl, (Below.refl _ _).alloc (Nat.le_refl _) _⟩
  · have c4 : 4096 < b := by omega
    clear h
    go_enter Yba.func4, Yba.ntmps4
    go_wp2
    go_ret
    exact ⟨rfl, (Below.refl _ _).alloc (Nat.le_refl _) _⟩

set_option maxHeartbeats 2000000 in
theorem slices_main (n b : Nat) (a0 a1 a2 a3 : Int) (w : World) (h1 : n ≤ 4096) (h2 : b ≤ 4096) (hnew : NewSaid n b a0 a1 a2 a3) :
    Calls Yba.prog 4 #[.int .i64 n, .int .i64 b, .agg #[.int .i64 a0, .int .i64 a1, .int .i64 a2, .int .i64 a3]] w fun e w' => e = .returned (.bool true) ∧ Below w.heap.size w w' := by
  have HN : Hid (NewSaid n b a0 a1 a2 a3) := hnew
  clear hnew
  go_enter Yba.func4, Yba.ntmps4
  go_wp2_with fail
  refine (HN.out _).mono ?_
  rintro e w1 ⟨bx, bp, g1, g2, g3, rfl, hx, z1, z2, z3, bel⟩
  obtain ⟨bel1, q0, q1, q2, q3⟩ := behind bel
  have BEL : Hid (Below w.heap.size w w1) := bel1
  have HZ1 : Hid (w1.heap[g1]? = some (.cells (Z1 n) 5 (0, 0))) := z1
  have HZ2 : Hid (w1.heap[g2]? = some (.cells (Z2 b) 3 (0, 0))) := z2
  have HZ3 : Hid (w1.heap[g3]? = some (.cells (Z3 n) 37 (0, 0))) := z3
  have x7 : w1.cell? ⟨bx, 7, none⟩ = some (.slice (some ⟨g1, 0, none⟩) n n) := cell_of hx 7
  have x8 : w1.cell? ⟨bx, 8, none⟩ = some (.slice (some ⟨g2, 0, none⟩) (b + 1) (b + 1)) := cell_of hx 8
  have x9 : w1.cell? ⟨bx, 9, none⟩ = some (.slice (some ⟨g3, 0, none⟩) n n) := cell_of hx 9
  clear bel bel1 hx HN z1 z2 z3 q0 q1 q2 q3
  go_wp2
  go_loop [9] (fun i => ∃ k : Nat, k ≤ n ∧ i = .int .i64 k) (fun i => 5000 - (intOf i).toNat)
  case atStart => exact ⟨0, Nat.zero_le _, rfl⟩
  case round =>
    obtain ⟨k, hk, rfl⟩ := hrel
    by_cases hlt : (k : Int) < (n : Int)
    · have hlt' : k < n := by omega
      have y1 : w1.cell? ⟨g1, k, none⟩ = some (.int .u8 0) := by rw [cell_of HZ1.out]; exact Z1_get n k hlt'
      obtain ⟨t0, t1, t2, t3⟩ := Z3_get n k hlt'
      have y2 : w1.cell? ⟨g3, k * 4, none⟩ = some (.int .u32 0) := by rw [cell_of HZ3.out]; exact t0
      have y3 : w1.cell? ⟨g3, k * 4 + 1, none⟩ = some (.bool false) := by rw [cell_of HZ3.out]; exact t1
      have y4 : w1.cell? ⟨g3, k * 4 + 2, none⟩ = some (.int .u8 0) := by rw [cell_of HZ3.out]; exact t2
      have y5 : w1.cell? ⟨g3, k * 4 + 3, none⟩ = some (.int .u8 0) := by rw [cell_of HZ3.out]; exact t3
      clear t0 t1 t2 t3
      go_wp2
      go_round
      case rel => exact ⟨k + 1, by omega, by go_num⟩
      case measure => simp [intOf]; omega
    · go_wp2
      go_loop [10] (fun i => ∃ k : Nat, k ≤ b + 1 ∧ i = .int .i64 k) (fun i => 5000 - (intOf i).toNat)
      case atStart => exact ⟨0, Nat.zero_le _, rfl⟩
      case round =>
        obtain ⟨k2, hk2, rfl⟩ := hrel
        by_cases hle : (k2 : Int) ≤ (b : Int)
        · have y6 : w1.cell? ⟨g2, k2, none⟩ = some (.int .i64 0) := by rw [cell_of HZ2.out]; exact Z2_get b k2 (by omega)
          go_wp2
          go_round
          case rel => exact ⟨k2 + 1, by omega, by go_num⟩
          case measure => simp [intOf]; omega
        · go_wp2
          go_ret
          exact ⟨rfl, BEL.out⟩
end Go.Proofs.Ybulkbkbe
