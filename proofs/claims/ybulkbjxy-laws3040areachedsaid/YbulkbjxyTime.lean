import Derived.Test.YbulkbjxyRows
import Derived.Test.YbulkbjxyBits
import Derived.WalkKit
import Derived.WalkSpells
import Derived.WalkLawsBesides
import Derived.Below
namespace Go.Proofs.Ybulkbjxy
open Go.RowKit

theorem wrap32_id (n : Int) (n0 : -2147483648 ≤ n) (n1 : n ≤ 2147483647) : wrap32 n = n := by
  unfold wrap32; omega

set_option maxHeartbeats 400000 in
theorem nsec_any (b : Nat) (n : Int) (w : World) (h0 : w.cell? ⟨b, 0, none⟩ = some (.int .u64 n)) (n0 : 0 ≤ n) (n1 : n ≤ 999999999) :
    Calls Yba.prog 10 #[.pointer (some ⟨b, 0, none⟩)] w fun e w' => e = .returned (.int .i32 n) ∧ w' = w := by
  go_enter Yba.func10, Yba.ntmps10
  go_wp2
  go_ret
  exact ⟨by rw [and_low n n0 n1, wrap32_id n (by omega) (by omega)]; rfl, rfl⟩

set_option maxHeartbeats 400000 in
theorem sec_any (b : Nat) (n s : Int) (w : World) (h0 : w.cell? ⟨b, 0, none⟩ = some (.int .u64 n)) (h1 : w.cell? ⟨b, 1, none⟩ = some (.int .i64 s)) (n0 : 0 ≤ n) (n1 : n ≤ 999999999) :
    Calls Yba.prog 14 #[.pointer (some ⟨b, 0, none⟩)] w fun e w' => e = .returned (.int .i64 s) ∧ w' = w := by
  have ht := top_ne n n0 n1
  go_enter Yba.func14, Yba.ntmps14
  go_wp2
  go_ret
  exact ⟨rfl, rfl⟩

set_option maxHeartbeats 400000 in
theorem addSec_pos (b : Nat) (n s d : Int) (w : World) (h0 : w.cell? ⟨b, 0, none⟩ = some (.int .u64 n)) (h1 : w.cell? ⟨b, 1, none⟩ = some (.int .i64 s)) (f1 : w.frozen? ⟨b, 1, none⟩ = false) (n0 : 0 ≤ n) (n1 : n ≤ 999999999)
    (s0 : -1000000000000 ≤ s) (s1 : s ≤ 1000000000000) (d0 : 0 < d) (d1 : d ≤ 1000000000000) :
    Calls Yba.prog 11 #[.pointer (some ⟨b, 0, none⟩), .int .i64 d] w fun e w' => e = .returned (.tuple #[]) ∧ w' = w.setCell ⟨b, 1, none⟩ (.int .i64 (s + d)) := by
  have ht := top_ne n n0 n1
  go_enter Yba.func11, Yba.ntmps11
  go_wp2
  go_end0
  exact ⟨rfl, rfl⟩

set_option maxHeartbeats 400000 in
theorem addSec_neg (b : Nat) (n s d : Int) (w : World) (h0 : w.cell? ⟨b, 0, none⟩ = some (.int .u64 n)) (h1 : w.cell? ⟨b, 1, none⟩ = some (.int .i64 s)) (f1 : w.frozen? ⟨b, 1, none⟩ = false) (n0 : 0 ≤ n) (n1 : n ≤ 999999999)
    (s0 : -1000000000000 ≤ s) (s1 : s ≤ 1000000000000) (d0 : -1000000000000 ≤ d) (d1 : d ≤ 0) :
    Calls Yba.prog 11 #[.pointer (some ⟨b, 0, none⟩), .int .i64 d] w fun e w' => e = .returned (.tuple #[]) ∧ w' = w.setCell ⟨b, 1, none⟩ (.int .i64 (s + d)) := by
  have ht := top_ne n n0 n1
  have hq : (decide (s < s + d) == decide (0 < d)) = true := by
    rw [decide_eq_false (by omega), decide_eq_false (by omega)]; rfl
  go_enter Yba.func11, Yba.ntmps11
  go_wp2
  go_end0
  exact ⟨rfl, rfl⟩

theorem addSec_any (b : Nat) (n s d : Int) (w : World) (h0 : w.cell? ⟨b, 0, none⟩ = some (.int .u64 n)) (h1 : w.cell? ⟨b, 1, none⟩ = some (.int .i64 s)) (f1 : w.frozen? ⟨b, 1, none⟩ = false) (n0 : 0 ≤ n) (n1 : n ≤ 999999999)
    (s0 : -1000000000000 ≤ s) (s1 : s ≤ 1000000000000) (d0 : -1000000000000 ≤ d) (d1 : d ≤ 1000000000000) :
    Calls Yba.prog 11 #[.pointer (some ⟨b, 0, none⟩), .int .i64 d] w fun e w' => e = .returned (.tuple #[]) ∧ w' = w.setCell ⟨b, 1, none⟩ (.int .i64 (s + d)) := by
  by_cases h : 0 < d
  · exact addSec_pos b n s d w h0 h1 f1 n0 n1 s0 s1 h d1
  · exact addSec_neg b n s d w h0 h1 f1 n0 n1 s0 s1 d0 (by omega)

theorem tdm (d : Int) (d0 : -9007199254740992 ≤ d) (d1 : d ≤ 9007199254740992) :
    -9007200 ≤ d.tdiv 1000000000 ∧ d.tdiv 1000000000 ≤ 9007200 ∧ -999999999 ≤ d.tmod 1000000000 ∧ d.tmod 1000000000 ≤ 999999999 := by
  have h := Int.mul_tdiv_add_tmod d 1000000000
  have h1 := Int.tmod_lt_of_pos d (show (0 : Int) < 1000000000 by omega)
  have h2 : -1000000000 < d.tmod 1000000000 := by
    by_cases hd : 0 ≤ d
    · have := Int.tmod_nonneg 1000000000 hd; omega
    · have := Int.tmod_lt_of_pos (-d) (show (0 : Int) < 1000000000 by omega)
      rw [Int.neg_tmod] at this; omega
  omega

set_option maxHeartbeats 1000000 in
theorem add_mid (n s d : Int) (w : World) (n0 : 0 ≤ n) (n1 : n ≤ 999999999) (s0 : -100000000000 ≤ s) (s1 : s ≤ 100000000000) (d0 : -9007199254740992 ≤ d) (d1 : d ≤ 9007199254740992)
    (g1 : n + d.tmod 1000000000 < 1000000000) (g2 : 0 ≤ n + d.tmod 1000000000) :
    Calls Yba.prog 5 #[.agg #[.int .u64 n, .int .i64 s, .pointer none], .int .i64 d] w fun e w' =>
      e = .returned (.agg #[.int .u64 (n + d.tmod 1000000000), .int .i64 (s + d.tdiv 1000000000), .pointer none]) ∧ ∃ c1 c2, w' = (w.alloc (.cells c1 50)).alloc (.cells c2 50) := by
  obtain ⟨q0, q1, r0, r1⟩ := tdm d d0 d1
  have e1 := andNot_low n n0 n1
  have e2 := or_zero (n + d.tmod 1000000000) (by omega) (by omega)
  have ht := top_ne (n + d.tmod 1000000000) (by omega) (by omega)
  go_enter Yba.func5, Yba.ntmps5
  go_wp2_with (first | (go_at_call 10; refine (nsec_any _ n _ (by simp) n0 n1).mono ?_; rintro e w' ⟨rfl, rfl⟩) | (go_at_call 11; refine (addSec_any _ (n + d.tmod 1000000000) s (d.tdiv 1000000000) _ (by simp) (by simp) (by simp) (by omega) (by omega) (by omega) (by omega) (by omega) (by omega)).mono ?_; rintro e w' ⟨rfl, rfl⟩))
  refine bodyPost_ret (v := .agg #[.int .u64 (n + d.tmod 1000000000), .int .i64 (s + d.tdiv 1000000000), .pointer none]) (by simp [results, Yba.results5, go_sem]) rfl ⟨rfl, _, _, rfl⟩

set_option maxHeartbeats 1000000 in
theorem add_up (n s d : Int) (w : World) (n0 : 0 ≤ n) (n1 : n ≤ 999999999) (s0 : -100000000000 ≤ s) (s1 : s ≤ 100000000000) (d0 : -9007199254740992 ≤ d) (d1 : d ≤ 9007199254740992)
    (g1 : 1000000000 ≤ n + d.tmod 1000000000) :
    Calls Yba.prog 5 #[.agg #[.int .u64 n, .int .i64 s, .pointer none], .int .i64 d] w fun e w' =>
      e = .returned (.agg #[.int .u64 (n + d.tmod 1000000000 - 1000000000), .int .i64 (s + (d.tdiv 1000000000 + 1)), .pointer none]) ∧ ∃ c1 c2, w' = (w.alloc (.cells c1 50)).alloc (.cells c2 50) := by
  obtain ⟨q0, q1, r0, r1⟩ := tdm d d0 d1
  have e1 := andNot_low n n0 n1
  have e2 := or_zero (n + d.tmod 1000000000 - 1000000000) (by omega) (by omega)
  have ht := top_ne (n + d.tmod 1000000000 - 1000000000) (by omega) (by omega)
  go_enter Yba.func5, Yba.ntmps5
  go_wp2_with (first | (go_at_call 10; refine (nsec_any _ n _ (by simp) n0 n1).mono ?_; rintro e w' ⟨rfl, rfl⟩) | (go_at_call 11; refine (addSec_any _ (n + d.tmod 1000000000 - 1000000000) s (d.tdiv 1000000000 + 1) _ (by simp) (by simp) (by simp) (by omega) (by omega) (by omega) (by omega) (by omega) (by omega)).mono ?_; rintro e w' ⟨rfl, rfl⟩))
  refine bodyPost_ret (v := .agg #[.int .u64 (n + d.tmod 1000000000 - 1000000000), .int .i64 (s + (d.tdiv 1000000000 + 1)), .pointer none]) (by simp [results, Yba.results5, go_sem]) rfl ⟨rfl, _, _, rfl⟩

set_option maxHeartbeats 1000000 in
theorem add_down (n s d : Int) (w : World) (n0 : 0 ≤ n) (n1 : n ≤ 999999999) (s0 : -100000000000 ≤ s) (s1 : s ≤ 100000000000) (d0 : -9007199254740992 ≤ d) (d1 : d ≤ 9007199254740992)
    (g1 : n + d.tmod 1000000000 < 0) :
    Calls Yba.prog 5 #[.agg #[.int .u64 n, .int .i64 s, .pointer none], .int .i64 d] w fun e w' =>
      e = .returned (.agg #[.int .u64 (n + d.tmod 1000000000 + 1000000000), .int .i64 (s + (d.tdiv 1000000000 - 1)), .pointer none]) ∧ ∃ c1 c2, w' = (w.alloc (.cells c1 50)).alloc (.cells c2 50) := by
  obtain ⟨q0, q1, r0, r1⟩ := tdm d d0 d1
  have e1 := andNot_low n n0 n1
  have e2 := or_zero (n + d.tmod 1000000000 + 1000000000) (by omega) (by omega)
  have ht := top_ne (n + d.tmod 1000000000 + 1000000000) (by omega) (by omega)
  go_enter Yba.func5, Yba.ntmps5
  go_wp2_with (first | (go_at_call 10; refine (nsec_any _ n _ (by simp) n0 n1).mono ?_; rintro e w' ⟨rfl, rfl⟩) | (go_at_call 11; refine (addSec_any _ (n + d.tmod 1000000000 + 1000000000) s (d.tdiv 1000000000 - 1) _ (by simp) (by simp) (by simp) (by omega) (by omega) (by omega) (by omega) (by omega) (by omega)).mono ?_; rintro e w' ⟨rfl, rfl⟩))
  refine bodyPost_ret (v := .agg #[.int .u64 (n + d.tmod 1000000000 + 1000000000), .int .i64 (s + (d.tdiv 1000000000 - 1)), .pointer none]) (by simp [results, Yba.results5, go_sem]) rfl ⟨rfl, _, _, rfl⟩

/-- (time.Time).Add: the sum of seconds and nanoseconds. -/
theorem add_any (n s d : Int) (w : World) (n0 : 0 ≤ n) (n1 : n ≤ 999999999) (s0 : -100000000000 ≤ s) (s1 : s ≤ 100000000000) (d0 : -9007199254740992 ≤ d) (d1 : d ≤ 9007199254740992) :
    Calls Yba.prog 5 #[.agg #[.int .u64 n, .int .i64 s, .pointer none], .int .i64 d] w fun e w' =>
      ∃ n' s', e = .returned (.agg #[.int .u64 n', .int .i64 s', .pointer none]) ∧ 0 ≤ n' ∧ n' ≤ 999999999 ∧ s' * 1000000000 + n' = s * 1000000000 + n + d ∧ ∃ c1 c2, w' = (w.alloc (.cells c1 50)).alloc (.cells c2 50) := by
  obtain ⟨q0, q1, r0, r1⟩ := tdm d d0 d1
  have h := Int.mul_tdiv_add_tmod d 1000000000
  by_cases g1 : 1000000000 ≤ n + d.tmod 1000000000
  · refine (add_up n s d w n0 n1 s0 s1 d0 d1 g1).mono ?_
    rintro e w' ⟨rfl, hw⟩
    exact ⟨_, _, rfl, by omega, by omega, by omega, hw⟩
  by_cases g2 : n + d.tmod 1000000000 < 0
  · refine (add_down n s d w n0 n1 s0 s1 d0 d1 g2).mono ?_
    rintro e w' ⟨rfl, hw⟩
    exact ⟨_, _, rfl, by omega, by omega, by omega, hw⟩
  · refine (add_mid n s d w n0 n1 s0 s1 d0 d1 (by omega) (by omega)).mono ?_
    rintro e w' ⟨rfl, hw⟩
    exact ⟨_, _, rfl, by omega, by omega, by omega, hw⟩

/-- .. where the sum is known. -/
theorem add_to (n s d n' s' : Int) (w : World) (n0 : 0 ≤ n) (n1 : n ≤ 999999999) (s0 : -100000000000 ≤ s) (s1 : s ≤ 100000000000) (d0 : -9007199254740992 ≤ d) (d1 : d ≤ 9007199254740992)
    (m0 : 0 ≤ n') (m1 : n' ≤ 999999999) (hs : s' * 1000000000 + n' = s * 1000000000 + n + d) :
    Calls Yba.prog 5 #[.agg #[.int .u64 n, .int .i64 s, .pointer none], .int .i64 d] w fun e w' =>
      e = .returned (.agg #[.int .u64 n', .int .i64 s', .pointer none]) ∧ ∃ c1 c2, w' = (w.alloc (.cells c1 50)).alloc (.cells c2 50) := by
  refine (add_any n s d w n0 n1 s0 s1 d0 d1).mono ?_
  rintro e w' ⟨n2, s2, rfl, a, b, c, hw⟩
  obtain rfl : n2 = n' := by omega
  obtain rfl : s2 = s' := by omega
  exact ⟨rfl, hw⟩

set_option maxHeartbeats 1000000 in
/-- (time.Time).Equal of one and the same moment. -/
theorem equal_same (n s : Int) (w : World) (n0 : 0 ≤ n) (n1 : n ≤ 999999999) :
    Calls Yba.prog 8 #[.agg #[.int .u64 n, .int .i64 s, .pointer none], .agg #[.int .u64 n, .int .i64 s, .pointer none]] w fun e w' =>
      e = .returned (.bool true) ∧ ∃ c1 c2, w' = (w.alloc (.cells c1 50)).alloc (.cells c2 50) := by
  have ht := top2_ne n n n0 n1 n0 n1
  go_enter Yba.func8, Yba.ntmps8
  go_wp2_with (first | (go_at_call 10; refine (nsec_any _ n _ (by simp) n0 n1).mono ?_; rintro e w' ⟨rfl, rfl⟩) | (go_at_call 14; refine (sec_any _ n s _ (by simp) (by simp) n0 n1).mono ?_; rintro e w' ⟨rfl, rfl⟩))
  go_ret
  exact ⟨rfl, _, _, rfl⟩
end Go.Proofs.Ybulkbjxy
