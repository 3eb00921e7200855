import Derived.Test.YbulkbkacFs
namespace Go.Proofs.Ybulkbkac
open Go.RowKit Go.Maps

set_option maxHeartbeats 400000 in
theorem tear_any (s : Int) (w : World) : Calls Yba.prog 10 #[.int .u64 s] w fun e w' => e = .returned (.agg #[.bool true, .int .u64 s]) ∧ ∃ c1, w' = w.alloc (.cells c1 32) := by
  go_enter Yba.func10, Yba.ntmps10
  go_wp2
  refine bodyPost_ret (v := .agg #[.bool true, .int .u64 s]) (by simp [results, Yba.results10, go_sem]) rfl ⟨rfl, _, rfl⟩
set_option maxHeartbeats 400000 in
theorem forget_any (w : World) : Calls Yba.prog 11 #[] w fun e w' => e = .returned (.agg #[.bool false, .int .u64 0]) ∧ ∃ c1, w' = w.alloc (.cells c1 32) := by
  go_enter Yba.func11, Yba.ntmps11
  go_wp2
  refine bodyPost_ret (v := .agg #[.bool false, .int .u64 0]) (by simp [results, Yba.results11, go_sem]) rfl ⟨rfl, _, rfl⟩

/-- The seed that a mode bears. -/
def seedOf (t : Bool) (s : Int) : Int := if t then s else 0

set_option maxHeartbeats 400000 in
theorem mode_any (t : Bool) (s : Int) (w : World) : Calls Yba.prog 6 #[.bool t, .int .u64 s] w fun e w' => e = .returned (.agg #[.bool t, .int .u64 (seedOf t s)]) ∧ ∃ c1 c2, w' = (w.alloc (.cells c1 32)).alloc (.cells c2 32) := by
  cases t
  · go_enter Yba.func6, Yba.ntmps6
    go_wp2_with (go_at_call 11; refine (forget_any _).mono ?_; rintro e w' ⟨rfl, c1, rfl⟩)
    refine bodyPost_ret (v := .agg #[.bool false, .int .u64 0]) (by simp [results, Yba.results6, go_sem]) rfl ⟨rfl, _, _, rfl⟩
  · go_enter Yba.func6, Yba.ntmps6
    go_wp2_with (go_at_call 10; refine (tear_any s _).mono ?_; rintro e w' ⟨rfl, c1, rfl⟩)
    refine bodyPost_ret (v := .agg #[.bool true, .int .u64 s]) (by simp [results, Yba.results6, go_sem]) rfl ⟨rfl, _, _, rfl⟩

set_option maxHeartbeats 400000 in
theorem newDir_any (w : World) : Calls Yba.prog 9 #[] w fun e w' => e = .returned (.pointer (some ⟨w.heap.size + 1 + 1, 0, none⟩)) ∧
    w' = ((w.alloc (.map #[] 0)).alloc (.map #[] 0)).alloc (.cells #[.map (some w.heap.size), .map (some (w.heap.size + 1)), .slice none 0 0, .int .i64 0, .slice none 0 0, .slice none 0 0, .slice none 0 0, .int .i64 0, .pointer none] 58) := by
  have hmm := @run_makeMap Yba.prog
  go_enter Yba.func9, Yba.ntmps9
  go_wp2
  go_ret
  exact ⟨rfl, rfl⟩

set_option maxHeartbeats 400000 in
theorem new_run (w : World) : Calls Yba.prog 5 #[] w fun e w' => e = .returned (.pointer (some ⟨w.heap.size + 1 + 1 + 1 + 1 + 1, 0, none⟩)) ∧
    w' = (((((w.alloc (.map #[] 0)).alloc (.map #[] 0)).alloc (.cells #[.map (some w.heap.size), .map (some (w.heap.size + 1)), .slice none 0 0, .int .i64 0, .slice none 0 0, .slice none 0 0, .slice none 0 0, .int .i64 0, .pointer none] 58)).alloc (.map #[] 0)).alloc (.map #[] 0)).alloc
      (.cells #[.int .i32 0, .int .u32 0, .pointer (some ⟨w.heap.size + 1 + 1, 0, none⟩), .int .u64 0, .int .u64 0, .map (some (w.heap.size + 1 + 1 + 1)), .map (some (w.heap.size + 1 + 1 + 1 + 1))] 48) := by
  have hmm := @run_makeMap Yba.prog
  go_enter Yba.func5, Yba.ntmps5
  go_wp2_with (go_at_call 9; refine (newDir_any _).mono ?_; rintro e w' ⟨rfl, rfl⟩)
  go_ret
  exact ⟨rfl, rfl⟩

/-- The root directory: two empty maps. -/
def RootAt (w : World) (N : Nat) : Prop :=
  w.heap[N + 2]? = some (.cells #[.map (some N), .map (some (N + 1)), .slice none 0 0, .int .i64 0, .slice none 0 0, .slice none 0 0, .slice none 0 0, .int .i64 0, .pointer none] 58 (0, 0)) ∧
  w.heap[N]? = some (.map #[] 0) ∧ w.heap[N + 1]? = some (.map #[] 0)

theorem heap_past {w : World} {k : Nat} {o : Obj} (x : Obj) (h : w.heap[k]? = some o) : (w.alloc x).heap[k]? = some o := by
  rw [Below.heap_alloc w _ k (lt_of_some h)]; exact h

theorem new_any (w : World) : Calls Yba.prog 5 #[] w fun e w' => e = .returned (.pointer (some ⟨w.heap.size + 5, 0, none⟩)) ∧
    FsAt w' (w.heap.size + 5) (w.heap.size + 3) (w.heap.size + 4) (.pointer (some ⟨w.heap.size + 2, 0, none⟩)) 0 0 (.map []) (.map []) ∧ RootAt w' w.heap.size ∧ Below w.heap.size w w' ∧ w'.heap.size = w.heap.size + 6 := by
  refine (new_run w).mono ?_
  rintro e w' ⟨rfl, rfl⟩
  obtain ⟨w1, hw1⟩ : ∃ x, x = w.alloc (.map #[] 0) := ⟨_, rfl⟩
  have s1 : w1.heap.size = w.heap.size + 1 := by rw [hw1]; simp
  obtain ⟨w2, hw2⟩ : ∃ x, x = w1.alloc (.map #[] 0) := ⟨_, rfl⟩
  have s2 : w2.heap.size = w.heap.size + 2 := by rw [hw2]; simp [s1]
  obtain ⟨w3, hw3⟩ : ∃ x, x = w2.alloc (.cells #[.map (some w.heap.size), .map (some (w.heap.size + 1)), .slice none 0 0, .int .i64 0, .slice none 0 0, .slice none 0 0, .slice none 0 0, .int .i64 0, .pointer none] 58) := ⟨_, rfl⟩
  have s3 : w3.heap.size = w.heap.size + 3 := by rw [hw3]; simp [s2]
  obtain ⟨w4, hw4⟩ : ∃ x, x = w3.alloc (.map #[] 0) := ⟨_, rfl⟩
  have s4 : w4.heap.size = w.heap.size + 4 := by rw [hw4]; simp [s3]
  obtain ⟨w5, hw5⟩ : ∃ x, x = w4.alloc (.map #[] 0) := ⟨_, rfl⟩
  have s5 : w5.heap.size = w.heap.size + 5 := by rw [hw5]; simp [s4]
  have a0 : w1.heap[w.heap.size]? = some (.map #[] 0) := by rw [hw1]; exact heap_alloc_new w _
  have a1 : w2.heap[w.heap.size + 1]? = some (.map #[] 0) := by rw [hw2, ← s1]; exact heap_alloc_new w1 _
  have a2 : w3.heap[w.heap.size + 2]? = some (.cells #[.map (some w.heap.size), .map (some (w.heap.size + 1)), .slice none 0 0, .int .i64 0, .slice none 0 0, .slice none 0 0, .slice none 0 0, .int .i64 0, .pointer none] 58 (0, 0)) := by rw [hw3, ← s2]; exact heap_alloc_new w2 _
  have a3 : w4.ownsMap Yba.prog 28 R32 (w.heap.size + 3) 0 (.map []) := by rw [hw4, ← s3]; exact World.ownsMap_made w3 _ _ _
  have a4 : w5.ownsMap Yba.prog 28 R4 (w.heap.size + 4) 0 (.map []) := by rw [hw5, ← s4]; exact World.ownsMap_made w4 _ _ _
  have b0 : w5.heap[w.heap.size]? = some (.map #[] 0) := by rw [hw5, hw4, hw3, hw2]; exact heap_past _ (heap_past _ (heap_past _ (heap_past _ a0)))
  have b1 : w5.heap[w.heap.size + 1]? = some (.map #[] 0) := by rw [hw5, hw4, hw3]; exact heap_past _ (heap_past _ (heap_past _ a1))
  have b2 := a2
  rw [← hw1, ← hw2, ← hw3, ← hw4, ← hw5]
  refine ⟨rfl, ⟨?_, ?_, a4.alloc _⟩, ⟨heap_past _ (by rw [hw5, hw4]; exact heap_past _ (heap_past _ a2)), heap_past _ b0, heap_past _ b1⟩, ?_, by simp [s5]⟩
  · have := heap_alloc_new w5 (.cells #[.int .i32 0, .int .u32 0, .pointer (some ⟨w.heap.size + 2, 0, none⟩), .int .u64 0, .int .u64 0, .map (some (w.heap.size + 3)), .map (some (w.heap.size + 4))] 48)
    rw [s5] at this; exact this
  · rw [hw5]; exact (a3.alloc _).alloc _
  · have c1 : Below w.heap.size w w1 := by rw [hw1]; exact (Below.refl _ _).alloc (Nat.le_refl _) _
    have c2 : Below w.heap.size w w2 := by rw [hw2]; exact c1.alloc (by omega) _
    have c3 : Below w.heap.size w w3 := by rw [hw3]; exact c2.alloc (by omega) _
    have c4 : Below w.heap.size w w4 := by rw [hw4]; exact c3.alloc (by omega) _
    have c5 : Below w.heap.size w w5 := by rw [hw5]; exact c4.alloc (by omega) _
    exact c5.alloc (by omega) _
end Go.Proofs.Ybulkbkac
