import Derived.Test.YbulkbjxyDoorDec
namespace Go.Proofs.YbulkbjxyDoor
open Go.RowKit

theorem set_same {w : World} {a : Addr} {v u : Value} (h : w.cell? a = some u) : (w.setCell a v).cell? a = some v := World.cell?_setCell_same (h := h) ..
theorem set_other {w : World} {a b : Addr} {v : Value} (h : a ≠ b) : (w.setCell a v).cell? b = w.cell? b := World.cell?_setCell_other (h := h) ..

/-- The decoder behind j reads: nothing old has turned; its two cells. -/
def Dec (w w1 : World) (b off len : Nat) (j : Nat) : Prop :=
  Below w.heap.size w w1 ∧ w1.frozen? ⟨w.heap.size, 0, none⟩ = false ∧ w1.frozen? ⟨w.heap.size, 1, none⟩ = false ∧
    ((j ≤ len ∧ w1.cell? ⟨w.heap.size, 1, none⟩ = some (.bool false) ∧ ∃ y c, w1.cell? ⟨w.heap.size, 0, none⟩ = some (.slice y (len - j) c) ∧ (j < len → y = some ⟨b, off + j, none⟩ ∧ len - j ≤ c)) ∨
     (len < j ∧ w1.cell? ⟨w.heap.size, 1, none⟩ = some (.bool true) ∧ w1.cell? ⟨w.heap.size, 0, none⟩ = some (.slice none 0 0)))

theorem dec_start (w : World) (a : Option Addr) (b off len cap : Nat) (ha : 0 < len → a = some ⟨b, off, none⟩ ∧ len ≤ cap) :
    Dec w (w.alloc (.cells #[.slice a len cap, .bool false] 24)) b off len 0 := by
  refine ⟨(Below.refl _ _).alloc (Nat.le_refl _) _, by simp, by simp, .inl ⟨Nat.zero_le _, by simp, a, cap, by simp, ?_⟩⟩
  intro h
  simpa using ha h

theorem u8_step {w w1 : World} {b off len j : Nat} (h : Dec w w1 b off len j) (hz : ∀ i, i < len → ∃ z, w.cell? ⟨b, off + i, none⟩ = some (.int .u8 z)) :
    Calls Ybad.prog 6 #[.pointer (some ⟨w.heap.size, 0, none⟩)] w1 fun e w2 => (∃ z, e = .returned (.int .u8 z)) ∧ Dec w w2 b off len (j + 1) := by
  obtain ⟨bel, f0, f1, h⟩ := h
  have fin : ∀ w2 : World, w2 = (w1.setCell ⟨w.heap.size, 1, none⟩ (.bool true)).setCell ⟨w.heap.size, 0, none⟩ (.slice none 0 0) → (∃ v, w1.cell? ⟨w.heap.size, 1, none⟩ = some v) → (∃ v, w1.cell? ⟨w.heap.size, 0, none⟩ = some v) → len < j + 1 → Dec w w2 b off len (j + 1) := by
    rintro w2 rfl ⟨v1, c1⟩ ⟨v0, c0⟩ hlt
    refine ⟨(bel.setCell (Nat.le_refl _) _).setCell (Nat.le_refl _) _, by simp [f0], by simp [f1], .inr ⟨hlt, ?_, ?_⟩⟩
    · rw [set_other (by simp), set_same c1]
    · refine set_same (u := v0) ?_
      rw [set_other (by simp)]; exact c0
  rcases h with ⟨hj, c1, y, c, c0, hy⟩ | ⟨hj, c1, c0⟩
  · by_cases hlt : j < len
    · obtain ⟨rfl, hc⟩ := hy hlt
      obtain ⟨z, hz⟩ := hz j hlt
      obtain ⟨m, hm⟩ : ∃ m, len - j = m + 1 := ⟨len - j - 1, by omega⟩
      rw [hm] at c0 hc
      have hold : w1.cell? ⟨b, off + j, none⟩ = some (.int .u8 z) := by rw [bel.cell (old_cell hz)]; exact hz
      refine (u8_some w.heap.size w1 ⟨b, off + j, none⟩ m c z c0 hc hold f0).mono ?_
      rintro e w2 ⟨rfl, y, hy2, rfl⟩
      refine ⟨⟨z, rfl⟩, bel.setCell (Nat.le_refl _) _, ?_, ?_, .inl ⟨hlt, ?_, some y, c - 1, ?_, ?_⟩⟩
      · simp [f0]
      · simp [f1]
      · rw [set_other (by simp)]; exact c1
      · have : len - (j + 1) = m := by omega
        rw [this]; exact set_same c0
      · intro h2
        refine ⟨?_, by omega⟩
        rw [hy2 (by omega)]
        simp [Nat.add_assoc]
    · have e0 : len - j = 0 := by omega
      rw [e0] at c0
      refine (u8_empty w.heap.size w1 y c (.bool false) c0 c1 f0 f1).mono ?_
      rintro e w2 ⟨rfl, h2⟩
      exact ⟨⟨0, rfl⟩, fin w2 h2 ⟨_, c1⟩ ⟨_, c0⟩ (by omega)⟩
  · refine (u8_empty w.heap.size w1 none 0 (.bool true) c0 c1 f0 f1).mono ?_
    rintro e w2 ⟨rfl, h2⟩
    exact ⟨⟨0, rfl⟩, fin w2 h2 ⟨_, c1⟩ ⟨_, c0⟩ (by omega)⟩

/-- finish behind j reads: the sentinel where j is not the length. -/
theorem fin_ne {w w1 : World} {b off len j : Nat} {ev : Value} (h : Dec w w1 b off len j) (hg : w.cell? ⟨0, 0, none⟩ = some ev) (hj : j ≠ len) :
    Calls Ybad.prog 5 #[.pointer (some ⟨w.heap.size, 0, none⟩)] w1 fun e w2 => e = .returned ev ∧ w2 = w1 := by
  obtain ⟨bel, f0, f1, h⟩ := h
  have hg1 : w1.cell? ⟨0, 0, none⟩ = some ev := by rw [bel.cell (old_cell hg)]; exact hg
  rcases h with ⟨hj, c1, y, c, c0, hy⟩ | ⟨hj, c1, c0⟩
  · exact finish_left w.heap.size ev y (len - j) c w1 c0 c1 hg1 (by simp; omega)
  · exact finish_bad w.heap.size ev w1 c1 hg1

theorem fin_eq {w w1 : World} {b off len : Nat} (h : Dec w w1 b off len len) :
    Calls Ybad.prog 5 #[.pointer (some ⟨w.heap.size, 0, none⟩)] w1 fun e w2 => e = .returned .nilIface ∧ w2 = w1 := by
  obtain ⟨bel, f0, f1, h⟩ := h
  rcases h with ⟨hj, c1, y, c, c0, hy⟩ | ⟨hj, c1, c0⟩
  · rw [Nat.sub_self] at c0
    exact finish_ok w.heap.size y c w1 c0 c1
  · omega

theorem fail_step {w w1 : World} {b off len j : Nat} (h : Dec w w1 b off len j) :
    Calls Ybad.prog 7 #[.pointer (some ⟨w.heap.size, 0, none⟩)] w1 fun e w2 => e = .returned (.tuple #[]) ∧ Below w.heap.size w w2 ∧ w2.cell? ⟨w.heap.size, 1, none⟩ = some (.bool true) := by
  obtain ⟨bel, f0, f1, h⟩ := h
  obtain ⟨⟨v0, c0⟩, ⟨v1, c1⟩⟩ : (∃ v, w1.cell? ⟨w.heap.size, 0, none⟩ = some v) ∧ (∃ v, w1.cell? ⟨w.heap.size, 1, none⟩ = some v) := by
    rcases h with ⟨_, c1, y, c, c0, _⟩ | ⟨_, c1, c0⟩
    · exact ⟨⟨_, c0⟩, ⟨_, c1⟩⟩
    · exact ⟨⟨_, c0⟩, ⟨_, c1⟩⟩
  refine (fail_any w.heap.size w1 v0 v1 c0 c1 f0 f1).mono ?_
  rintro e w2 ⟨rfl, rfl⟩
  refine ⟨rfl, (bel.setCell (Nat.le_refl _) _).setCell (Nat.le_refl _) _, ?_⟩
  rw [set_other (by simp), set_same c1]

theorem fin_bad {w w1 : World} {ev : Value} (bel : Below w.heap.size w w1) (c1 : w1.cell? ⟨w.heap.size, 1, none⟩ = some (.bool true)) (hg : w.cell? ⟨0, 0, none⟩ = some ev) :
    Calls Ybad.prog 5 #[.pointer (some ⟨w.heap.size, 0, none⟩)] w1 fun e w2 => e = .returned ev ∧ w2 = w1 := by
  have hg1 : w1.cell? ⟨0, 0, none⟩ = some ev := by rw [bel.cell (old_cell hg)]; exact hg
  exact finish_bad w.heap.size ev w1 c1 hg1

set_option maxHeartbeats 400000 in
theorem reads_long (a : Option Addr) (len cap : Nat) (k : Int) (fl : Bool) (w : World) (hl : 1024 < (len : Int)) :
    Calls Ybad.prog 4 #[.slice a len cap, .int .u16 k, .bool fl] w fun e w' => e = .returned (.bool true) ∧ Below w.heap.size w w' := by
  go_enter Ybad.func4, Ybad.ntmps4
  go_wp2
  go_ret
  exact ⟨rfl, Below.refl _ _⟩

set_option maxHeartbeats 1000000 in
theorem reads_fail (a : Option Addr) (b off len cap : Nat) (k : Int) (ev : Addr) (w : World) (hl : (len : Int) ≤ 1024) (k0 : 0 ≤ k) (k1 : k ≤ 65535)
    (ha : 0 < len → a = some ⟨b, off, none⟩ ∧ len ≤ cap) (hz : ∀ i, i < len → ∃ z, w.cell? ⟨b, off + i, none⟩ = some (.int .u8 z)) (hg : w.cell? ⟨0, 0, none⟩ = some (.iface 33 (.pointer (some ev)))) :
    Calls Ybad.prog 4 #[.slice a len cap, .int .u16 k, .bool true] w fun e w' => e = .returned (.bool true) ∧ Below w.heap.size w w' := by
  have HD : Hid (Dec w (w.alloc (.cells #[.slice a len cap, .bool false] 24)) b off len 0) := dec_start w a b off len cap ha
  have HZ : Hid (∀ i, i < len → ∃ z, w.cell? ⟨b, off + i, none⟩ = some (.int .u8 z)) := hz
  clear hz ha
  have m0 : 0 ≤ k % ((len : Int) + 3) := Int.emod_nonneg _ (by omega)
  have m1 : k % ((len : Int) + 3) < (len : Int) + 3 := Int.emod_lt_of_pos _ (by omega)
  go_enter Ybad.func4, Ybad.ntmps4
  go_wp2
  go_loopw [9] (fun i wr => ∃ j : Nat, i = .int .i64 j ∧ (j : Int) ≤ k % ((len : Int) + 3) ∧ Hid (Dec w wr b off len j)) (fun i _ => 2000 - (intOf i).toNat)
  case atStart => exact ⟨0, rfl, m0, HD⟩
  case round =>
    obtain ⟨j, rfl, hj, hd⟩ := hrel
    by_cases hlt : (j : Int) < k % ((len : Int) + 3)
    · go_wp2_with (go_at_call 6; refine (u8_step hd.out HZ.out).mono ?_; rintro e w' ⟨⟨z, rfl⟩, hd2⟩)
      go_roundw
      case rel => exact ⟨j + 1, by go_num, by omega, hd2⟩
      case measure => simp [intOf]; omega
    · go_wp2_with (first | (go_at_call 7; refine (fail_step hd.out).mono ?_; rintro e w2 ⟨rfl, bel, c1⟩; have hg2 : w2.cell? ⟨0, 0, none⟩ = some (.iface 33 (.pointer (some ev))) := (by rw [bel.cell (old_cell hg)]; exact hg); have BEL : Hid (Below w.heap.size w w2) := bel; have HC1 : Hid (w2.cell? ⟨w.heap.size, 1, none⟩ = some (.bool true)) := c1; clear bel c1) | (go_at_call 5; refine (fin_bad BEL.out HC1.out hg).mono ?_; rintro e w3 ⟨rfl, rfl⟩))
      rw [eql_same]
      go_wp2
      go_ret
      exact ⟨rfl, BEL.out⟩

set_option maxHeartbeats 1000000 in
theorem reads_eq (a : Option Addr) (b off len cap : Nat) (k : Int) (w : World) (hl : (len : Int) ≤ 1024) (k0 : 0 ≤ k) (k1 : k ≤ 65535) (hk1 : k % ((len : Int) + 3) ≤ (len : Int)) (hk2 : (len : Int) ≤ k % ((len : Int) + 3))
    (ha : 0 < len → a = some ⟨b, off, none⟩ ∧ len ≤ cap) (hz : ∀ i, i < len → ∃ z, w.cell? ⟨b, off + i, none⟩ = some (.int .u8 z)) :
    Calls Ybad.prog 4 #[.slice a len cap, .int .u16 k, .bool false] w fun e w' => e = .returned (.bool true) ∧ Below w.heap.size w w' := by
  have HD : Hid (Dec w (w.alloc (.cells #[.slice a len cap, .bool false] 24)) b off len 0) := dec_start w a b off len cap ha
  have HZ : Hid (∀ i, i < len → ∃ z, w.cell? ⟨b, off + i, none⟩ = some (.int .u8 z)) := hz
  clear hz ha
  go_enter Ybad.func4, Ybad.ntmps4
  go_wp2
  go_loopw [9] (fun i wr => ∃ j : Nat, i = .int .i64 j ∧ (j : Int) ≤ k % ((len : Int) + 3) ∧ Hid (Dec w wr b off len j)) (fun i _ => 2000 - (intOf i).toNat)
  case atStart => exact ⟨0, rfl, by omega, HD⟩
  case round =>
    obtain ⟨j, rfl, hj, hd⟩ := hrel
    by_cases hlt : (j : Int) < k % ((len : Int) + 3)
    · go_wp2_with (go_at_call 6; refine (u8_step hd.out HZ.out).mono ?_; rintro e w' ⟨⟨z, rfl⟩, hd2⟩)
      go_roundw
      case rel => exact ⟨j + 1, by go_num, by omega, hd2⟩
      case measure => simp [intOf]; omega
    · have hd2 : Hid (Dec w wr b off len len) := by
        have e : j = len := by omega
        rw [e] at hd; exact hd
      clear hd
      go_wp2_with (go_at_call 5; refine (fin_eq hd2.out).mono ?_; rintro e w3 ⟨rfl, rfl⟩)
      go_ret
      exact ⟨rfl, hd2.out.1⟩

set_option maxHeartbeats 1000000 in
theorem reads_ne (a : Option Addr) (b off len cap : Nat) (k : Int) (ev : Addr) (w : World) (hl : (len : Int) ≤ 1024) (k0 : 0 ≤ k) (k1 : k ≤ 65535) (hk : ((k % ((len : Int) + 3)) == (len : Int)) = false)
    (ha : 0 < len → a = some ⟨b, off, none⟩ ∧ len ≤ cap) (hz : ∀ i, i < len → ∃ z, w.cell? ⟨b, off + i, none⟩ = some (.int .u8 z)) (hg : w.cell? ⟨0, 0, none⟩ = some (.iface 33 (.pointer (some ev)))) :
    Calls Ybad.prog 4 #[.slice a len cap, .int .u16 k, .bool false] w fun e w' => e = .returned (.bool true) ∧ Below w.heap.size w w' := by
  have HD : Hid (Dec w (w.alloc (.cells #[.slice a len cap, .bool false] 24)) b off len 0) := dec_start w a b off len cap ha
  have HZ : Hid (∀ i, i < len → ∃ z, w.cell? ⟨b, off + i, none⟩ = some (.int .u8 z)) := hz
  clear hz ha
  have m0 : 0 ≤ k % ((len : Int) + 3) := Int.emod_nonneg _ (by omega)
  have m1 : k % ((len : Int) + 3) < (len : Int) + 3 := Int.emod_lt_of_pos _ (by omega)
  go_enter Ybad.func4, Ybad.ntmps4
  go_wp2
  go_loopw [9] (fun i wr => ∃ j : Nat, i = .int .i64 j ∧ (j : Int) ≤ k % ((len : Int) + 3) ∧ Hid (Dec w wr b off len j)) (fun i _ => 2000 - (intOf i).toNat)
  case atStart => exact ⟨0, rfl, m0, HD⟩
  case round =>
    obtain ⟨j, rfl, hj, hd⟩ := hrel
    by_cases hlt : (j : Int) < k % ((len : Int) + 3)
    · go_wp2_with (go_at_call 6; refine (u8_step hd.out HZ.out).mono ?_; rintro e w' ⟨⟨z, rfl⟩, hd2⟩)
      go_roundw
      case rel => exact ⟨j + 1, by go_num, by omega, hd2⟩
      case measure => simp [intOf]; omega
    · have hne : j ≠ len := by
        have : k % ((len : Int) + 3) ≠ (len : Int) := by simpa using hk
        omega
      have hg2 : wr.cell? ⟨0, 0, none⟩ = some (.iface 33 (.pointer (some ev))) := by rw [hd.out.1.cell (old_cell hg)]; exact hg
      go_wp2_with (go_at_call 5; refine (fin_ne hd.out hg hne).mono ?_; rintro e w3 ⟨rfl, rfl⟩)
      rw [eql_same]
      go_wp2
      go_ret
      exact ⟨rfl, hd.out.1⟩

theorem reads_walk (a : Option Addr) (b off len cap : Nat) (k : Int) (fl : Bool) (ev : Addr) (w : World) (k0 : 0 ≤ k) (k1 : k ≤ 65535)
    (ha : 0 < len → a = some ⟨b, off, none⟩ ∧ len ≤ cap) (hz : ∀ i, i < len → ∃ z, w.cell? ⟨b, off + i, none⟩ = some (.int .u8 z)) (hg : w.cell? ⟨0, 0, none⟩ = some (.iface 33 (.pointer (some ev)))) :
    Calls Ybad.prog 4 #[.slice a len cap, .int .u16 k, .bool fl] w fun e w' => e = .returned (.bool true) ∧ Below w.heap.size w w' := by
  by_cases hl : 1024 < (len : Int)
  · exact reads_long a len cap k fl w hl
  have hl' : (len : Int) ≤ 1024 := by omega
  cases fl
  · by_cases hk : k % ((len : Int) + 3) = (len : Int)
    · exact reads_eq a b off len cap k w hl' k0 k1 (by omega) (by omega) ha hz
    · exact reads_ne a b off len cap k ev w hl' k0 k1 (by simpa using hk) ha hz hg
  · exact reads_fail a b off len cap k ev w hl' k0 k1 ha hz hg
end Go.Proofs.YbulkbjxyDoor
