import Derived.Test.YbulkbjxySub
namespace Go.Proofs.Ybulkbjxy
open Go.RowKit

set_option maxHeartbeats 400000 in
theorem client_far (o d t : Int) (w : World) (h : t < -1125899906842624 ∨ 1125899906842624 < t) :
    Calls Yba.prog 4 #[.int .u16 o, .int .i32 d, .int .i64 t] w fun e w' => e = .returned (.bool true) ∧ Grown w w' := by
  rcases h with h | h
  · go_enter Yba.func4, Yba.ntmps4
    go_wp2
    go_ret
    exact ⟨rfl, Grown.refl _⟩
  · have h' : ¬ t < -1125899906842624 := by omega
    go_enter Yba.func4, Yba.ntmps4
    go_wp2
    go_ret
    exact ⟨rfl, Grown.refl _⟩

theorem parts (t : Int) (t0 : -3000000000000000 ≤ t) (t1 : t ≤ 3000000000000000) : ∃ n s : Int, 0 ≤ n ∧ n ≤ 999999999 ∧ -4000000 ≤ s ∧ s ≤ 4000000 ∧ s * 1000000000 + n = t :=
  ⟨t % 1000000000, t / 1000000000, by omega, by omega, by omega, by omega, by omega⟩

set_option maxHeartbeats 1000000 in
theorem client_near (o d t : Int) (w : World) (o0 : 0 ≤ o) (o1 : o ≤ 65535) (d0 : -2147483648 ≤ d) (d1 : d ≤ 2147483647) (t0 : -1125899906842624 ≤ t) (t1 : t ≤ 1125899906842624) :
    Calls Yba.prog 4 #[.int .u16 o, .int .i32 d, .int .i64 t] w fun e w' => e = .returned (.bool true) ∧ Grown w w' := by
  obtain ⟨n, s, n0, n1, s0, s1, hs⟩ := parts t (by omega) (by omega)
  obtain ⟨m, u, m0, m1, u0, u1, hu⟩ := parts (t + d) (by omega) (by omega)
  have he : (u - s) * 1000000000 + (m - n) = d := by omega
  have H1 : Hid (s * 1000000000 + n = 0 * 1000000000 + 0 + t) := by show _ = _; omega
  have H2 : Hid (u * 1000000000 + m = s * 1000000000 + n + d) := by show _ = _; omega
  clear hs hu
  have ho : (o == -1) = false := by simp; omega
  go_enter Yba.func4, Yba.ntmps4
  go_wp2_with (first
    | (go_at_call 5; refine (add_to 0 0 t n s _ (by omega) (by omega) (by omega) (by omega) (by omega) (by omega) n0 n1 H1.out).mono ?_; rintro e w' ⟨rfl, c1, c2, rfl⟩)
    | (go_at_call 6; refine (reached_other _ o (-1) d n s m u _ (by simp [go_sem]) (by simp [go_sem]) ho n0 n1 (by omega) (by omega) (by omega) (by omega) m0 m1 H2.out).mono ?_; rintro e w' ⟨rfl, c3, c4, c5, c6, rfl⟩)
    | (go_at_call 7; refine (sub_any m u n s _ m0 m1 u0 u1 n0 n1 s0 s1).mono ?_; rintro e w' ⟨rfl, c7, c8, c9, c10, c11, c12, rfl⟩))
  go_ret
  exact ⟨rfl, by repeat (with_reducible (first | exact Grown.refl _ | refine Grown.drew ?_ | refine Grown.alloc ?_ _ _))⟩
end Go.Proofs.Ybulkbjxy
