import Derived.Test.YbulkbjxyClientWalk
namespace Go.Proofs.Ybulkbjxy
open Go.RowKit

set_option maxHeartbeats 1000000 in
theorem reached_far (o x d t : Int) (b : Bool) (w : World) (h : (d < -1125899906842624 ∨ 1125899906842624 < d) ∨ (t < -1125899906842624 ∨ 1125899906842624 < t)) :
    Calls Yba.prog 3 #[.int .i64 o, .int .i64 x, .int .i64 d, .int .i64 t, .bool b] w fun e w' => e = .returned (.bool true) ∧ Grown w w' := by
  by_cases h1 : d < -1125899906842624
  · go_enter Yba.func3, Yba.ntmps3
    go_wp2
    go_ret
    exact ⟨rfl, Grown.refl _⟩
  by_cases h2 : 1125899906842624 < d
  · clear h
    go_enter Yba.func3, Yba.ntmps3
    go_wp2
    go_ret
    exact ⟨rfl, Grown.refl _⟩
  by_cases h3 : t < -1125899906842624
  · clear h
    go_enter Yba.func3, Yba.ntmps3
    go_wp2
    go_ret
    exact ⟨rfl, Grown.refl _⟩
  · have h4 : 1125899906842624 < t := by omega
    clear h
    go_enter Yba.func3, Yba.ntmps3
    go_wp2
    go_ret
    exact ⟨rfl, Grown.refl _⟩

set_option maxHeartbeats 2000000 in
/-- The owner is the member's own index. -/
theorem reached_near_own (o x d t : Int) (b : Bool) (w : World) (hb : b = true ∨ o = x) (d0 : -1125899906842624 ≤ d) (d1 : d ≤ 1125899906842624) (t0 : -1125899906842624 ≤ t) (t1 : t ≤ 1125899906842624) :
    Calls Yba.prog 3 #[.int .i64 o, .int .i64 x, .int .i64 d, .int .i64 t, .bool b] w fun e w' => e = .returned (.bool true) ∧ Grown w w' := by
  obtain ⟨n, s, n0, n1, s0, s1, hs⟩ := parts t (by omega) (by omega)
  have he : (s - s) * 1000000000 + (n - n) = 0 := by omega
  have H1 : Hid (s * 1000000000 + n = 0 * 1000000000 + 0 + t) := by show _ = _; omega
  clear hs
  cases b
  · obtain rfl : o = x := by simpa using hb
    clear hb
    go_enter Yba.func3, Yba.ntmps3
    go_wp2_with (first
      | (go_at_call 5; refine (add_to 0 0 t n s _ (by omega) (by omega) (by omega) (by omega) (by omega) (by omega) n0 n1 H1.out).mono ?_; rintro e w' ⟨rfl, c1, c2, rfl⟩)
      | (go_at_call 6; refine (reached_own _ o n s _ (by simp [go_sem])).mono ?_; rintro e w' ⟨rfl, c3, c4, rfl⟩)
      | (go_at_call 7; refine (sub_any n s n s _ n0 n1 s0 s1 n0 n1 s0 s1).mono ?_; rintro e w' ⟨rfl, c7, c8, c9, c10, c11, c12, rfl⟩)
      | (go_at_call 8; refine (equal_same n s _ n0 n1).mono ?_; rintro e w' ⟨rfl, c13, c14, rfl⟩))
    go_ret
    exact ⟨rfl, by repeat (with_reducible (first | exact Grown.refl _ | refine Grown.drew ?_ | refine Grown.alloc ?_ _ _))⟩
  · clear hb
    go_enter Yba.func3, Yba.ntmps3
    go_wp2_with (first
      | (go_at_call 5; refine (add_to 0 0 t n s _ (by omega) (by omega) (by omega) (by omega) (by omega) (by omega) n0 n1 H1.out).mono ?_; rintro e w' ⟨rfl, c1, c2, rfl⟩)
      | (go_at_call 6; refine (reached_own _ x n s _ (by simp [go_sem])).mono ?_; rintro e w' ⟨rfl, c3, c4, rfl⟩)
      | (go_at_call 7; refine (sub_any n s n s _ n0 n1 s0 s1 n0 n1 s0 s1).mono ?_; rintro e w' ⟨rfl, c7, c8, c9, c10, c11, c12, rfl⟩)
      | (go_at_call 8; refine (equal_same n s _ n0 n1).mono ?_; rintro e w' ⟨rfl, c13, c14, rfl⟩))
    go_ret
    exact ⟨rfl, by repeat (with_reducible (first | exact Grown.refl _ | refine Grown.drew ?_ | refine Grown.alloc ?_ _ _))⟩

set_option maxHeartbeats 2000000 in
/-- The owner is another. -/
theorem reached_near_other (o x d t : Int) (w : World) (ho : (o == x) = false) (d0 : -1125899906842624 ≤ d) (d1 : d ≤ 1125899906842624) (t0 : -1125899906842624 ≤ t) (t1 : t ≤ 1125899906842624) :
    Calls Yba.prog 3 #[.int .i64 o, .int .i64 x, .int .i64 d, .int .i64 t, .bool false] w fun e w' => e = .returned (.bool true) ∧ Grown w w' := by
  obtain ⟨n, s, n0, n1, s0, s1, hs⟩ := parts t (by omega) (by omega)
  obtain ⟨m, u, m0, m1, u0, u1, hu⟩ := parts (t + d) (by omega) (by omega)
  have he : (u - s) * 1000000000 + (m - n) = d := by omega
  have H1 : Hid (s * 1000000000 + n = 0 * 1000000000 + 0 + t) := by show _ = _; omega
  have H2 : Hid (u * 1000000000 + m = s * 1000000000 + n + d) := by show _ = _; omega
  clear hs hu
  have hne : (o != x) = true := by simpa using ho
  go_enter Yba.func3, Yba.ntmps3
  go_wp2_with (first
    | (go_at_call 5; refine (add_to 0 0 t n s _ (by omega) (by omega) (by omega) (by omega) (by omega) (by omega) n0 n1 H1.out).mono ?_; rintro e w' ⟨rfl, c1, c2, rfl⟩)
    | (go_at_call 6; refine (reached_other _ o x d n s m u _ (by simp [go_sem]) (by simp [go_sem]) ho n0 n1 (by omega) (by omega) (by omega) (by omega) m0 m1 H2.out).mono ?_; rintro e w' ⟨rfl, c3, c4, c5, c6, rfl⟩)
    | (go_at_call 7; refine (sub_any m u n s _ m0 m1 u0 u1 n0 n1 s0 s1).mono ?_; rintro e w' ⟨rfl, c7, c8, c9, c10, c11, c12, rfl⟩))
  go_ret
  exact ⟨rfl, by repeat (with_reducible (first | exact Grown.refl _ | refine Grown.drew ?_ | refine Grown.alloc ?_ _ _))⟩
end Go.Proofs.Ybulkbjxy
