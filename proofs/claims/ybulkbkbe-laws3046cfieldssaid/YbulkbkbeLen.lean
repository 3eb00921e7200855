import Derived.Test.YbulkbkbeBits
import Derived.WalkKit
import Derived.WalkSpells
import Derived.WalkLawsBesides
namespace Go.Proofs
namespace Ybulkbkbe
open Go.RowKit

/-- A number of k + 1 bits. -/
theorem bitLen_at (k x : Nat) (h : 2 ^ k ≤ x) (h1 : x < 2 ^ (k + 1)) (hk : k < 63) : Lib.bitLen x = k + 1 := by
  have h2 : (2 : Nat) ^ (k + 1) ≤ 2 ^ 64 := Nat.pow_le_pow_right (by omega) (by omega)
  rw [Lib.bitLen_shift k x h (by omega)]
  have h3 : x / 2 ^ k = 1 := by
    have hp : 0 < 2 ^ k := Nat.two_pow_pos k
    rw [Nat.pow_succ] at h1
    have a1 : 1 ≤ x / 2 ^ k := (Nat.le_div_iff_mul_le hp).2 (by omega)
    have a2 : x / 2 ^ k < 2 := (Nat.div_lt_iff_lt_mul hp).2 (by omega)
    omega
  rw [h3]
  rfl

/-- The bits of n - 1 as an unsigned number. -/
def clog (n : Nat) : Nat := if n = 0 then 64 else Lib.bitLen (n - 1)

theorem bitLen_le64 (x : Nat) : Lib.bitLen x ≤ 64 := by
  have : ∀ f x, Lib.bitLenAux f x ≤ f := by
    intro f
    induction f with
    | zero => intro x; simp [Lib.bitLenAux]
    | succ f ih => intro x; simp only [Lib.bitLenAux]; split <;> have := ih (x / 2) <;> omega
  exact this 64 x
theorem clog_le (n : Nat) : clog n ≤ 64 := by
  unfold clog; split
  · omega
  · exact bitLen_le64 _

/-- The loop's end: k is the least with n at most 2 to the k. -/
theorem clog_of (n k : Nat) (h0 : n ≠ 0) (h1 : n ≤ 2 ^ k) (h2 : ∀ j, j < k → 2 ^ j < n) (hk : k ≤ 63) : clog n = k := by
  unfold clog
  rw [if_neg h0]
  cases k with
  | zero =>
    have : n = 1 := by simp at h1; omega
    subst this; rfl
  | succ j =>
    have := h2 j (by omega)
    exact bitLen_at j (n - 1) (by omega) (by omega) (by omega)

set_option maxHeartbeats 400000 in
theorem browsing_pos (n : Nat) (w : World) (h0 : n ≠ 0) (h1 : n ≤ 4096) : Calls Yba.prog 10 #[.int .i64 n] w fun e w' => e = .returned (.int .i64 (2 * (clog n : Nat))) ∧ w' = w := by
  have hc := clog_le n
  have e1 : Hid (Lib.bitLen ((n : Int) - 1).toNat = clog n) := by
    show _ = _
    unfold clog; rw [if_neg h0]; congr 1; omega
  go_enter Yba.func10, Yba.ntmps10
  go_wp2_with (go_at_call 11; refine (Yba.bits_Len _ _ (by omega) (by omega)).mono ?_; rw [e1.out]; rintro e w' ⟨rfl, rfl⟩)
  go_ret
  exact ⟨rfl, rfl⟩

theorem top_bits : 0 ≤ IntKind.u64.wrap (-1) ∧ IntKind.u64.wrap (-1) ≤ 18446744073709551615 ∧ Lib.bitLen (IntKind.u64.wrap (-1)).toNat = 64 := by decide +kernel

set_option maxHeartbeats 400000 in
theorem browsing_zero (w : World) : Calls Yba.prog 10 #[.int .i64 0] w fun e w' => e = .returned (.int .i64 128) ∧ w' = w := by
  have e1 : Hid (Lib.bitLen (IntKind.u64.wrap (-1)).toNat = 64) := top_bits.2.2
  go_enter Yba.func10, Yba.ntmps10
  go_wp2_with (go_at_call 11; refine (Yba.bits_Len _ _ top_bits.1 top_bits.2.1).mono ?_; rw [e1.out]; rintro e w' ⟨rfl, rfl⟩)
  go_ret
  exact ⟨rfl, rfl⟩

theorem browsing_any (n : Nat) (w : World) (h1 : n ≤ 4096) : Calls Yba.prog 10 #[.int .i64 n] w fun e w' => e = .returned (.int .i64 (2 * (clog n : Nat))) ∧ w' = w := by
  by_cases h0 : n = 0
  · subst h0; exact browsing_zero w
  · exact browsing_pos n w h0 h1

set_option maxHeartbeats 400000 in
theorem slots_any (n : Nat) (w : World) (h1 : n ≤ 4096) : Calls Yba.prog 9 #[.int .i64 n] w fun e w' => e = .returned (.int .i64 (2 * (clog n : Nat) + 2)) ∧ w' = w := by
  have hc := clog_le n
  go_enter Yba.func9, Yba.ntmps9
  go_wp2_with (go_at_call 10; refine (browsing_any n _ h1).mono ?_; rintro e w' ⟨rfl, rfl⟩)
  go_ret
  exact ⟨rfl, rfl⟩

set_option maxHeartbeats 400000 in
theorem step_any (n b : Nat) (w : World) (h1 : n ≤ 4096) (h2 : b ≤ 4096) : Calls Yba.prog 7 #[.int .i64 n, .int .i64 b] w fun e w' => e = .returned (.int .i64 (2 * (clog n : Nat) + 2 + 2 * (b : Nat))) ∧ w' = w := by
  have hc := clog_le n
  go_enter Yba.func7, Yba.ntmps7
  go_wp2_with (go_at_call 9; refine (slots_any n _ h1).mono ?_; rintro e w' ⟨rfl, rfl⟩)
  go_ret
  exact ⟨rfl, rfl⟩

theorem pow_wrap (j : Nat) (hj : j ≤ 12) : wrap64 ((2 : Int) ^ j) = ((2 ^ j : Nat) : Int) := by
  have h : (2 : Nat) ^ j ≤ 2 ^ 12 := Nat.pow_le_pow_right (by omega) hj
  have e : ((2 : Int) ^ j) = ((2 ^ j : Nat) : Int) := by simp
  rw [e]
  generalize (2 : Nat) ^ j = m at h
  unfold wrap64; omega
theorem pow_next (j n : Nat) (hj : j ≤ 12) (hn : n ≤ 4096) (h : 2 ^ j < n) : j + 1 ≤ 12 := by
  rcases Nat.lt_or_ge j 12 with h1 | h1
  · omega
  · have : j = 12 := by omega
    subst this; omega

set_option maxHeartbeats 400000 in
theorem ceillog_pos (n : Nat) (w : World) (h0 : n ≠ 0) (h1 : n ≤ 4096) : Calls Yba.prog 6 #[.int .i64 n] w fun e w' => e = .returned (.int .i64 (clog n : Nat)) ∧ w' = w := by
  have h0' : ((n : Int) == 0) = false := by simpa using h0
  go_enter Yba.func6, Yba.ntmps6
  go_wp2
  go_loop [3] (fun k => ∃ j : Nat, j ≤ 12 ∧ k = .int .i64 j ∧ Hid (∀ i, i < j → 2 ^ i < n)) (fun k => 100 - (intOf k).toNat)
  case atStart => exact ⟨0, by omega, rfl, fun i h => absurd h (Nat.not_lt_zero _)⟩
  case round =>
    obtain ⟨j, hj, rfl, HL⟩ := hrel
    have HP : Hid (wrap64 ((2 : Int) ^ j) = ((2 ^ j : Nat) : Int)) := pow_wrap j hj
    go_wp2
    · have hlt : wrap64 ((2 : Int) ^ j) < (n : Int) := by assumption
      rw [HP.out] at hlt
      have hlt' : 2 ^ j < n := by omega
      go_round
      case rel => exact ⟨j + 1, pow_next j n hj h1 hlt', by go_num, fun i hi => (by
        rcases Nat.lt_or_ge i j with h | h
        · exact HL.out i h
        · have e : i = j := by omega
          subst e; exact hlt')⟩
      case measure => simp [intOf]; omega
    · have hge : (n : Int) ≤ wrap64 ((2 : Int) ^ j) := by assumption
      rw [HP.out] at hge
      have hge' : n ≤ 2 ^ j := by omega
      have ec := clog_of n j h0 hge' HL.out (by omega)
      go_ret
      exact ⟨by rw [ec]; rfl, rfl⟩

set_option maxHeartbeats 400000 in
theorem ceillog_zero (w : World) : Calls Yba.prog 6 #[.int .i64 0] w fun e w' => e = .returned (.int .i64 64) ∧ w' = w := by
  go_enter Yba.func6, Yba.ntmps6
  go_wp2
  go_ret
  exact ⟨rfl, rfl⟩

theorem ceillog_any (n : Nat) (w : World) (h1 : n ≤ 4096) : Calls Yba.prog 6 #[.int .i64 n] w fun e w' => e = .returned (.int .i64 (clog n : Nat)) ∧ w' = w := by
  by_cases h0 : n = 0
  · subst h0; exact ceillog_zero w
  · exact ceillog_pos n w h0 h1

end Ybulkbkbe
end Go.Proofs
