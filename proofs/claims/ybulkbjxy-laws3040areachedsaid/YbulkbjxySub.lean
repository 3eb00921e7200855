import Derived.Test.YbulkbjxyTime
import Derived.Deep.RegionHeld3
import Derived.RowKit3
import Derived.Sort.AtCall
namespace Go.Proofs.Ybulkbjxy
open Go.RowKit

set_option maxHeartbeats 1000000 in
/-- (time.Time).Sub of two moments that lie near each other. -/
theorem sub_any (n s m u : Int) (w : World) (n0 : 0 ≤ n) (n1 : n ≤ 999999999) (s0 : -4000000 ≤ s) (s1 : s ≤ 4000000) (m0 : 0 ≤ m) (m1 : m ≤ 999999999) (u0 : -4000000 ≤ u) (u1 : u ≤ 4000000) :
    Calls Yba.prog 7 #[.agg #[.int .u64 n, .int .i64 s, .pointer none], .agg #[.int .u64 m, .int .i64 u, .pointer none]] w fun e w' =>
      e = .returned (.int .i64 ((s - u) * 1000000000 + (n - m))) ∧ ∃ c1 c2 c3 c4 c5 c6, w' = ((((((w.alloc (.cells c1 50)).alloc (.cells c2 50)).alloc (.cells c3 50)).alloc (.cells c4 50)).alloc (.cells c5 50)).alloc (.cells c6 50)).drew := by
  have ht := top2_ne n m n0 n1 m0 m1
  go_enter Yba.func7, Yba.ntmps7
  go_wp2_with (first | (go_at_call_has 10 (Value.pointer (some (⟨w.heap.size, 0, none⟩ : Addr))); refine (nsec_any _ n _ (by simp) n0 n1).mono ?_; rintro e w' ⟨rfl, rfl⟩) | (go_at_call_has 14 (Value.pointer (some (⟨w.heap.size, 0, none⟩ : Addr))); refine (sec_any _ n s _ (by simp) (by simp) n0 n1).mono ?_; rintro e w' ⟨rfl, rfl⟩) | (go_at_call_has 10 (Value.pointer (some (⟨w.heap.size + 1, 0, none⟩ : Addr))); refine (nsec_any _ m _ (by simp) m0 m1).mono ?_; rintro e w' ⟨rfl, rfl⟩) | (go_at_call_has 14 (Value.pointer (some (⟨w.heap.size + 1, 0, none⟩ : Addr))); refine (sec_any _ m u _ (by simp) (by simp) m0 m1).mono ?_; rintro e w' ⟨rfl, rfl⟩))
  go_region_held3 (fun w' => w'.cell? ⟨w.heap.size, 0, none⟩ = some (.int .u64 n) ∧ w'.cell? ⟨w.heap.size, 1, none⟩ = some (.int .i64 s) ∧ w'.cell? ⟨w.heap.size, 2, none⟩ = some (.pointer none) ∧ w'.cell? ⟨w.heap.size + 1, 0, none⟩ = some (.int .u64 m) ∧ w'.cell? ⟨w.heap.size + 1, 1, none⟩ = some (.int .i64 u) ∧ w'.cell? ⟨w.heap.size + 1, 2, none⟩ = some (.pointer none)) (simp [go_sem, World.cell?_alloc_past])
    (first
      | (go_at_call 5; refine (add_to m u _ n s _ m0 m1 (by omega) (by omega) (by omega) (by omega) n0 n1 (by omega)).mono ?_; rintro e w' ⟨rfl, c1, c2, rfl⟩)
      | (go_at_call 8; refine (equal_same n s _ n0 n1).mono ?_; rintro e w' ⟨rfl, c1, c2, rfl⟩))
  go_wp2
  go_ret
  exact ⟨rfl, _, _, _, _, _, _, rfl⟩

set_option maxHeartbeats 1000000 in
/-- (*member).reached at the member's own index. -/
theorem reached_own (b : Nat) (x n s : Int) (w : World) (h0 : w.cell? ⟨b, 0, none⟩ = some (.int .i64 x)) :
    Calls Yba.prog 6 #[.pointer (some ⟨b, 0, none⟩), .int .i64 x, .agg #[.int .u64 n, .int .i64 s, .pointer none]] w fun e w' =>
      e = .returned (.agg #[.int .u64 n, .int .i64 s, .pointer none]) ∧ ∃ c1 c2, w' = (w.alloc (.cells c1 50)).alloc (.cells c2 50) := by
  have hb : b < w.heap.size := by
    rcases Nat.lt_or_ge b w.heap.size with h' | h'
    · exact h'
    · simp [World.cell?, Array.getElem?_eq_none h'] at h0
  go_enter Yba.func6, Yba.ntmps6
  go_wp2
  refine bodyPost_ret (v := .agg #[.int .u64 n, .int .i64 s, .pointer none]) (by simp [results, Yba.results6, go_sem]) rfl ⟨rfl, _, _, rfl⟩

set_option maxHeartbeats 1000000 in
/-- (*member).reached at another index. -/
theorem reached_other (b : Nat) (o x d n s n' s' : Int) (w : World) (h0 : w.cell? ⟨b, 0, none⟩ = some (.int .i64 x)) (h12 : w.cell? ⟨b, 12, none⟩ = some (.int .i64 d)) (ho : (o == x) = false)
    (n0 : 0 ≤ n) (n1 : n ≤ 999999999) (s0 : -100000000000 ≤ s) (s1 : s ≤ 100000000000) (d0 : -9007199254740992 ≤ d) (d1 : d ≤ 9007199254740992)
    (m0 : 0 ≤ n') (m1 : n' ≤ 999999999) (hs : s' * 1000000000 + n' = s * 1000000000 + n + d) :
    Calls Yba.prog 6 #[.pointer (some ⟨b, 0, none⟩), .int .i64 o, .agg #[.int .u64 n, .int .i64 s, .pointer none]] w fun e w' =>
      e = .returned (.agg #[.int .u64 n', .int .i64 s', .pointer none]) ∧ ∃ c1 c2 c3 c4, w' = ((((w.alloc (.cells c1 50)).alloc (.cells c2 50)).alloc (.cells c3 50)).alloc (.cells c4 50)).drew := by
  have hb : b < w.heap.size := by
    rcases Nat.lt_or_ge b w.heap.size with h' | h'
    · exact h'
    · simp [World.cell?, Array.getElem?_eq_none h'] at h0
  have hb1 : b < w.heap.size + 1 := by omega
  have hb2 : b < w.heap.size + 1 + 1 := by omega
  have hb3 : b < w.heap.size + 1 + 1 + 1 := by omega
  have HS : Hid (s' * 1000000000 + n' = s * 1000000000 + n + d) := hs
  clear hs
  go_enter Yba.func6, Yba.ntmps6
  go_wp2
  go_region_held3 (fun w' => w'.cell? ⟨b, 12, none⟩ = some (.int .i64 d) ∧ w'.cell? ⟨w.heap.size, 0, none⟩ = some (.int .u64 n) ∧ w'.cell? ⟨w.heap.size, 1, none⟩ = some (.int .i64 s) ∧ w'.cell? ⟨w.heap.size, 2, none⟩ = some (.pointer none)) (simp [go_sem, World.cell?_alloc_lt, h12, hb, hb1, hb2, hb3])
    (first
      | (go_at_call 5; refine (add_to n s d n' s' _ n0 n1 s0 s1 d0 d1 m0 m1 HS.out).mono ?_; rintro e w' ⟨rfl, c1, c2, rfl⟩))
  go_wp2
  refine bodyPost_ret (v := .agg #[.int .u64 n', .int .i64 s', .pointer none]) (by simp [results, Yba.results6, go_sem]) rfl ⟨rfl, _, _, _, _, rfl⟩

end Go.Proofs.Ybulkbjxy
