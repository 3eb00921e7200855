import Derived.Test.YbulkbkbeLen
import Derived.Laws.MakeOwn
import Derived.OwnWalk
import Derived.Deep.RegionHeld3
import Derived.Below
namespace Go.Proofs.Ybulkbkbe
open Go.RowKit

theorem info5 : (Yba.prog.info? 5).map (fun i => (i.zero, i.size, i.bytes)) = some (some (.int .u8 0), 1, 1) := by kernel_rfl
theorem info3 : (Yba.prog.info? 3).map (fun i => (i.zero, i.size, i.bytes)) = some (some (.int .i64 0), 1, 8) := by kernel_rfl
theorem info37 : (Yba.prog.info? 37).map (fun i => (i.zero, i.size, i.bytes)) = some (some (.agg #[.int .u32 0, .bool false, .int .u8 0, .int .u8 0]), 4, 8) := by kernel_rfl
theorem info70 : (Yba.prog.info? 70).map (fun i => (i.zero, i.size, i.bytes)) = some (some (.agg #[.int .u8 0, .int .u8 0, .int .u8 0, .int .u8 0, .int .u8 0, .int .i8 0]), 6, 6) := by kernel_rfl

theorem made_get (z : Array Value) (n j : Nat) (h : j < n) : (madeCells z n)[j]? = some (z[j % z.size]!) := by
  simp [madeCells, h]

theorem mk_run (t e : TypeId) (z : Value) (size bytes : Nat) (ht : Yba.prog.underlying t = some (.slice e)) (hi : (Yba.prog.info? e).map (fun i => (i.zero, i.size, i.bytes)) = some (some z, size, bytes)) (hb : bytes ≤ 8) (N : Nat) (hN : N ≤ 4097) :
    ∀ W : World, (Instr.makeSlice t (.int .i64 (N : Int)) (.int .i64 (N : Int))).run Yba.prog W = .ok (.slice (some ⟨W.heap.size, 0, none⟩) N N) (W.alloc (.cells (madeCells z.cells (N * size)) e)) := by
  intro W
  obtain ⟨i, hi, hz, hs, hby⟩ := info_parts hi
  have h1 : (i.bytes : Int) * (N : Int) ≤ 281474976710656 := by
    rw [hby]
    have : bytes * N ≤ 8 * 4097 := Nat.mul_le_mul hb hN
    have e : (bytes : Int) * (N : Int) = ((bytes * N : Nat) : Int) := by simp
    rw [e]; omega
  have h := run_make W t e i z ht hi hz .i64 .i64 N N (by omega) (Int.le_refl _) h1 (by omega)
  rw [hs] at h
  simpa using h

theorem heap_new' {w : World} {k : Nat} (o : Obj) (h : k = w.heap.size) : (w.alloc o).heap[k]? = some o := by subst h; exact heap_alloc_new w o
theorem lt_of_some {α : Type} {xs : Array α} {i : Nat} {x : α} (h : xs[i]? = some x) : i < xs.size := (Array.getElem?_eq_some_iff.1 h).1
theorem heap_past {w : World} {k : Nat} {o : Obj} (x : Obj) (h : w.heap[k]? = some o) : (w.alloc x).heap[k]? = some o := by
  rw [Below.heap_alloc w _ k (lt_of_some h)]; exact h
theorem heap_drew {w : World} {k : Nat} {o : Obj} (h : w.heap[k]? = some o) : w.drew.heap[k]? = some o := h
theorem cell_of {w : World} {c : Nat} {cs : Array Value} {t : TypeId} (h : w.heap[c]? = some (.cells cs t (0, 0))) (i : Nat) : w.cell? ⟨c, i, none⟩ = cs[i]? := by
  simp [World.cell?, h]

set_option maxHeartbeats 1000000 in
/-- ecbg.New. -/
theorem bit_any (n : Nat) (w : World) (h1 : n ≤ 4096) (a b c d : Int) :
    Calls Yba.prog 8 #[.int .i64 n, .agg #[.int .i64 a, .int .i64 b, .int .i64 c, .int .i64 d]] w fun e w' =>
      e = .returned (.pointer (some ⟨w.heap.size + 1 + 1, 0, none⟩)) ∧ ∃ c1 c2 c3, w' = (((w.alloc (.cells c1 24)).alloc (.cells c2 70)).alloc (.cells c3 44)).drew := by
  have hmk := mk_run 41 70 _ 6 6 Yba.underlying41 info70 (by omega) n (by omega)
  generalize madeCells _ (n * 6) = Z at hmk
  go_enter Yba.func8, Yba.ntmps8
  go_wp2
  go_region_held3 (fun w' => w'.cell? ⟨w.heap.size, 0, none⟩ = some (.int .i64 a) ∧ w'.cell? ⟨w.heap.size, 1, none⟩ = some (.int .i64 b) ∧ w'.cell? ⟨w.heap.size, 2, none⟩ = some (.int .i64 c) ∧ w'.cell? ⟨w.heap.size, 3, none⟩ = some (.int .i64 d)) (simp [go_sem, World.cell?_alloc_past])
    (first
      | (go_at_call 10; refine (browsing_any n _ h1).mono ?_; rintro e w' ⟨rfl, rfl⟩))
  all_goals (go_wp2; go_ret; exact ⟨rfl, _, _, _, rfl⟩)
end Go.Proofs.Ybulkbkbe
