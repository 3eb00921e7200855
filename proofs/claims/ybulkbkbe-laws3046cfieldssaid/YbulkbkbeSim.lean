import Derived.Test.YbulkbkbeMake
namespace Go.Proofs.Ybulkbkbe
open Go.RowKit

/-- What ecng.New leaves. -/
def SimAt (n b : Nat) (a0 a1 a2 a3 : Int) (w : World) (Z1 Z2 Z3 : Array Value) (e : Ending) (w' : World) : Prop :=
  ∃ bx bp g1 g2 g3 : Nat, e = .returned (.pointer (some ⟨bx, 0, none⟩)) ∧
    w'.heap[bx]? = some (.cells #[.int .i64 b, .int .i64 (2 * (clog n : Nat) + 2 + 2 * (b : Nat)), .pointer (some ⟨bp, 0, none⟩), .int .i64 a0, .int .i64 a1, .int .i64 a2, .int .i64 a3,
      .slice (some ⟨g1, 0, none⟩) n n, .slice (some ⟨g2, 0, none⟩) (b + 1) (b + 1), .slice (some ⟨g3, 0, none⟩) n n] 32 (0, 0)) ∧
    w'.heap[g1]? = some (.cells Z1 5 (0, 0)) ∧ w'.heap[g2]? = some (.cells Z2 3 (0, 0)) ∧ w'.heap[g3]? = some (.cells Z3 37 (0, 0)) ∧ Below w.heap.size w w'

theorem sim_mk {n b : Nat} {a0 a1 a2 a3 : Int} {w : World} {Z1 Z2 Z3 : Array Value} {e : Ending} {w' : World} {bx bp g1 g2 g3 : Nat} (h0 : e = .returned (.pointer (some ⟨bx, 0, none⟩)))
    (h : w'.heap[bx]? = some (.cells #[.int .i64 b, .int .i64 (2 * (clog n : Nat) + 2 + 2 * (b : Nat)), .pointer (some ⟨bp, 0, none⟩), .int .i64 a0, .int .i64 a1, .int .i64 a2, .int .i64 a3,
      .slice (some ⟨g1, 0, none⟩) n n, .slice (some ⟨g2, 0, none⟩) (b + 1) (b + 1), .slice (some ⟨g3, 0, none⟩) n n] 32 (0, 0)))
    (h1 : w'.heap[g1]? = some (.cells Z1 5 (0, 0))) (h2 : w'.heap[g2]? = some (.cells Z2 3 (0, 0))) (h3 : w'.heap[g3]? = some (.cells Z3 37 (0, 0))) (h4 : Below w.heap.size w w') : SimAt n b a0 a1 a2 a3 w Z1 Z2 Z3 e w' :=
  ⟨bx, bp, g1, g2, g3, h0, h, h1, h2, h3, h4⟩

/-- The zero cells of the three slices. -/
def Z1 (n : Nat) : Array Value := madeCells #[.int .u8 0] n
def Z2 (b : Nat) : Array Value := madeCells #[.int .i64 0] (b + 1)
def Z3 (n : Nat) : Array Value := madeCells #[.int .u32 0, .bool false, .int .u8 0, .int .u8 0] (n * 4)

theorem Z1_get (n j : Nat) (h : j < n) : (Z1 n)[j]? = some (.int .u8 0) := by
  unfold Z1; rw [made_get _ _ _ h, show j % (#[Value.int .u8 0]).size = 0 from by simp [Nat.mod_one]]; rfl
theorem Z2_get (b j : Nat) (h : j < b + 1) : (Z2 b)[j]? = some (.int .i64 0) := by
  unfold Z2; rw [made_get _ _ _ h, show j % (#[Value.int .i64 0]).size = 0 from by simp [Nat.mod_one]]; rfl
theorem Z3_get (n j : Nat) (h : j < n) : (Z3 n)[j * 4]? = some (.int .u32 0) ∧ (Z3 n)[j * 4 + 1]? = some (.bool false) ∧ (Z3 n)[j * 4 + 2]? = some (.int .u8 0) ∧ (Z3 n)[j * 4 + 3]? = some (.int .u8 0) := by
  unfold Z3
  refine ⟨?_, ?_, ?_, ?_⟩
  · rw [made_get _ _ _ (by omega), show j * 4 % (#[Value.int .u32 0, .bool false, .int .u8 0, .int .u8 0]).size = 0 from by simp]; rfl
  · rw [made_get _ _ _ (by omega), show (j * 4 + 1) % (#[Value.int .u32 0, .bool false, .int .u8 0, .int .u8 0]).size = 1 from by simp]; rfl
  · rw [made_get _ _ _ (by omega), show (j * 4 + 2) % (#[Value.int .u32 0, .bool false, .int .u8 0, .int .u8 0]).size = 2 from by simp]; rfl
  · rw [made_get _ _ _ (by omega), show (j * 4 + 3) % (#[Value.int .u32 0, .bool false, .int .u8 0, .int .u8 0]).size = 3 from by simp]; rfl
end Go.Proofs.Ybulkbkbe
