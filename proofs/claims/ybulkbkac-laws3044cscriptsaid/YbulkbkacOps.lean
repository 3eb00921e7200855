import Derived.Test.YbulkbkacScriptWalk
import Derived.ProofKit
import Derived.OpenShut
import Derived.Deep.Slices
import Derived.Lib.SmallJoins
namespace Go.Proofs.Ybulkbkac
open Go.ChangeShapes Go.WideShapes Go.ChangeAt Go.RowKit

theorem cells30 : Yba.prog.cellsOf 30 = 4 := by kernel_rfl
theorem cells5 : Yba.prog.cellsOf 5 = 1 := by kernel_rfl
theorem cells28 : Yba.prog.cellsOf 28 = 1 := by kernel_rfl
theorem cells4 : Yba.prog.cellsOf 4 = 1 := by kernel_rfl

/-- One operation of the script, opened. -/
theorem op_of {H : Type} {enc : TypeId × Value → H} {W : World} {sp : Nat → Bool} {fuel : Nat} {cs : List Value} {x : DataW H × List MemPlace} (h : DataW.trod enc Yba.prog W 0 sp true fuel 30 cs = some x) :
    ∃ (op n : Int) (t : Bool) (s : Int), cs = [.int .u8 op, .int .u64 n, .bool t, .int .u64 s] ∧ 0 ≤ op ∧ op ≤ 255 ∧ (Lit.int .u64 n).wf = true := by
  obtain ⟨y0, y1, y2, y3, m, _, hl, h0, h1, h2, h3⟩ := Joins.trod_struct4 Yba.underlying30 h
  rw [cells30] at hl
  match cs, hl with
  | [a, b, c, d], _ =>
    simp [cells5, cells28, cells4] at h0 h1 h2 h3
    obtain ⟨op, e0, _, w0⟩ := DataW.trod_int Yba.underlying5 h0
    obtain ⟨n, e1, _, w1⟩ := DataW.trod_int Yba.underlying28 h1
    obtain ⟨t, e2, _⟩ := DataW.trod_bool Yba.underlying4 h2
    obtain ⟨s, e3, _, _⟩ := DataW.trod_int Yba.underlying28 h3
    simp at e0 e1 e2 e3
    subst e0 e1 e2 e3
    have b0 := bounds_u8 w0
    exact ⟨op, n, t, s, rfl, b0.1, b0.2, w1⟩

/-- The law's argument, opened. -/
theorem ops_of {H : Type} {enc : TypeId × Value → H} {W : World} {fuel : Nat} {a : Option Addr} {len cap : Nat} {x : DataW H × List MemPlace} (h : DataW.trod enc Yba.prog W 0 (fun _ => true) true fuel 22 [.slice a len cap] = some x) :
    ∃ b off, (0 < len → a = some ⟨b, off, none⟩) ∧ Ops W b off len := by
  rcases Deep.open_slice Yba.underlying22 h with ⟨hcs, _⟩ | ⟨a', l', c', m, n, D, Pl, hcs, _, hlc, _, hm, _, hel⟩
  · simp at hcs
    obtain ⟨rfl, rfl, rfl⟩ := hcs
    exact ⟨0, 0, fun h => absurd h (by simp), fun i hi => absurd hi (by simp)⟩
  · simp at hcs hm
    obtain ⟨rfl, rfl, rfl⟩ := hcs
    by_cases hp : 0 < len
    · obtain ⟨b, off, spot⟩ := a'
      have each : ∀ i, i < len → ∃ (op n : Int) (t : Bool) (s : Int), W.cell? ((⟨b, off, spot⟩ : Addr).add (i * 4)) = some (.int .u8 op) ∧ W.cell? (((⟨b, off, spot⟩ : Addr).add (i * 4)).add 1) = some (.int .u64 n) ∧ W.cell? (((⟨b, off, spot⟩ : Addr).add (i * 4)).add 2) = some (.bool t) ∧ W.cell? (((⟨b, off, spot⟩ : Addr).add (i * 4)).add 3) = some (.int .u64 s) ∧ 0 ≤ op ∧ op ≤ 255 ∧ (Lit.int .u64 n).wf = true := by
        intro i hi
        obtain ⟨cs', hc, ht⟩ := hel i (by omega)
        rw [cells30] at hc
        obtain ⟨op, n, t, s, rfl, p1, p2, p3⟩ := op_of ht
        obtain ⟨_, _, hget⟩ := World.cells?_some hc
        have g0 := hget 0 (by omega)
        have g1 := hget 1 (by omega)
        have g2 := hget 2 (by omega)
        have g3 := hget 3 (by omega)
        exact ⟨op, n, t, s, by simpa [Addr.add] using g0, by simpa using g1, by simpa using g2, by simpa using g3, p1, p2, p3⟩
      obtain ⟨_, _, _, _, g0, _⟩ := each 0 hp
      have hspot : spot = none := by simpa [Addr.add] using World.cell?_spot g0
      subst hspot
      refine ⟨b, off, fun _ => rfl, fun i hi => ?_⟩
      obtain ⟨op, n, t, s, g0, g1, g2, g3, p⟩ := each i hi
      rw [add_plain] at g0 g1 g2 g3
      rw [add_plain] at g1 g2 g3
      exact ⟨op, n, t, s, g0, g1, g2, g3, p⟩
    · exact ⟨0, 0, fun h => absurd h hp, fun i hi => absurd hi (by omega)⟩
end Go.Proofs.Ybulkbkac
