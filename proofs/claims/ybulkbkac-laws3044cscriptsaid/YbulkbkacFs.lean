import Derived.Test.YbulkbkacRows
import Derived.Test.YbulkbkacLocks
import Derived.Conc.MuLone
import Derived.Maps.OwnSet
import Derived.WalkKit
import Derived.WalkSpells
import Derived.WalkLawsBesides
import Derived.Below
import Derived.Deep.RegionHeld3
namespace Go.Proofs.Ybulkbkac
open Go.RowKit Go.Maps
open Go.MuLone

/-- How a Mode among a map's elements reads. -/
def modeD (t : Bool) (s : Int) : DataW Unit := .agg [.lit (.bool t), .lit (.int .u64 s)]
def R32 : Value → Option (DataW Unit × List MemPlace)
  | .agg cs => match cs.toList with
    | [.bool t, .int .u64 s] => some (modeD t s, [])
    | _ => none
  | _ => none
theorem R32_mk (t : Bool) (s : Int) : R32 (.agg #[.bool t, .int .u64 s]) = some (modeD t s, []) := rfl
theorem R32_inv {v : Value} {t : Bool} {s : Int} {ps : List MemPlace} (h : R32 v = some (modeD t s, ps)) : v = .agg #[.bool t, .int .u64 s] := by
  unfold R32 at h
  split at h
  · rename_i cs
    split at h
    · rename_i a b hcs
      simp only [Option.some.injEq, Prod.mk.injEq, modeD, DataW.agg.injEq, List.cons.injEq, DataW.lit.injEq, Lit.bool.injEq, Lit.int.injEq, and_true, true_and] at h
      obtain ⟨⟨rfl, rfl⟩, _⟩ := h
      congr 1
      apply Array.ext'
      exact hcs
    · cases h
  · cases h

def R4 : Value → Option (DataW Unit × List MemPlace)
  | .bool x => some (.lit (.bool x), [])
  | _ => none
theorem R4_mk (x : Bool) : R4 (.bool x) = some (.lit (.bool x), []) := rfl
theorem R4_inv {v : Value} {x : Bool} {ps : List MemPlace} (h : R4 v = some (.lit (.bool x), ps)) : v = .bool x := by
  cases v <;> simp [R4] at h
  rw [h.1]

theorem law28 : Keyed Yba.prog 28 := int_keyed Yba.underlying28
theorem zero32 (w : World) : (zeroValue 32).run Yba.prog w = .ok (.agg #[.bool false, .int .u64 0]) w := by kernel_rfl
theorem zero4 (w : World) : (zeroValue 4).run Yba.prog w = .ok (.bool false) w := by kernel_rfl

/-- The file system's cells, and its two maps. -/
def FsAt (w : World) (c bc bf : Nat) (rv : Value) (nC nF : Nat) (DC DF : DataW Unit) : Prop :=
  w.heap[c]? = some (.cells #[.int .i32 0, .int .u32 0, rv, .int .u64 0, .int .u64 0, .map (some bc), .map (some bf)] 48 (0, 0)) ∧
  w.ownsMap Yba.prog 28 R32 bc nC DC ∧ w.ownsMap Yba.prog 28 R4 bf nF DF

/-- All old blocks but the two maps' are as they were. -/
structure Kept2 (bc bf : Nat) (w w' : World) : Prop where
  os : w'.os = w.os
  tape : w'.tape = w.tape
  output : w'.output = w.output
  size : w.heap.size ≤ w'.heap.size
  block : ∀ k, k < w.heap.size → k ≠ bc → k ≠ bf → w'.heap[k]? = w.heap[k]?

section
variable {w : World} {c bc bf : Nat} {rv : Value} {cs : Array Value} {t : TypeId}

theorem cell_of (h : w.heap[c]? = some (.cells cs t (0, 0))) (i : Nat) : w.cell? ⟨c, i, none⟩ = cs[i]? := by
  simp [World.cell?, h]
theorem frozen_of (h : w.heap[c]? = some (.cells cs t (0, 0))) (i : Nat) : w.frozen? ⟨c, i, none⟩ = false := by
  simp [World.frozen?, h]
theorem heap_set (h : w.heap[c]? = some (.cells cs t (0, 0))) (i : Nat) (v : Value) : (w.setCell ⟨c, i, none⟩ v).heap[c]? = some (.cells (cs.setIfInBounds i v) t (0, 0)) := by
  simp [World.setCell, Array.getElem?_modify, h]
end

theorem hide {p : Prop} (h : p) : Hid p := h
theorem unhide {p : Prop} (h : Hid p) : p := h
theorem lt_of_some {α : Type} {xs : Array α} {i : Nat} {x : α} (h : xs[i]? = some x) : i < xs.size := (Array.getElem?_eq_some_iff.1 h).1

/-- A map's turn leaves another block as it was. -/
theorem turned_other {w w' : World} {b k : Nat} {o : Obj} (ht : w.mapTurned w' b) (hk : k ≠ b) (h : w.heap[k]? = some o) : w'.heap[k]? = some o := by
  rw [ht.grown.block k (lt_of_some h) (by simp [hk])]; exact h

section
variable {w : World} {c : Nat} {rv m5 m6 : Value}
theorem locked (hc : w.heap[c]? = some (.cells #[.int .i32 0, .int .u32 0, rv, .int .u64 0, .int .u64 0, m5, m6] 48 (0, 0))) :
    (w.setCell ⟨c, 0, none⟩ (.int .i32 1)).heap[c]? = some (.cells #[.int .i32 1, .int .u32 0, rv, .int .u64 0, .int .u64 0, m5, m6] 48 (0, 0)) := heap_set hc 0 _
theorem unlocked (hc : w.heap[c]? = some (.cells #[.int .i32 1, .int .u32 0, rv, .int .u64 0, .int .u64 0, m5, m6] 48 (0, 0))) :
    (w.setCell ⟨c, 0, none⟩ (.int .i32 0)).heap[c]? = some (.cells #[.int .i32 0, .int .u32 0, rv, .int .u64 0, .int .u64 0, m5, m6] 48 (0, 0)) := heap_set hc 0 _
end

theorem set_block (w : World) (c i : Nat) (v : Value) (k : Nat) (h : k ≠ c) : (w.setCell ⟨c, i, none⟩ v).heap[k]? = w.heap[k]? := Below.heap_setCell w ⟨c, i, none⟩ v k h

set_option maxHeartbeats 1600000 in
theorem failSync_any (w : World) (c bc bf : Nat) (rv : Value) (nC nF : Nat) (DC DF : DataW Unit) (n : Int) (h : FsAt w c bc bf rv nC nF DC DF) (h1 : bc ≠ c) (h2 : bf ≠ c) (h3 : bc ≠ bf) (hF : nF < maxLen) (hwn : (Lit.int .u64 n).wf = true) :
    Calls Yba.prog 8 #[.pointer (some ⟨c, 0, none⟩), .int .u64 n] w fun e w' => e = .returned (.tuple #[]) ∧
      FsAt w' c bc bf rv nC (nF + 1) (DC.del (.int .u64 n)) (DF.put (.int .u64 n) (.lit (.bool true))) ∧ Kept2 bc bf w w' := by
  obtain ⟨hc, hC, hFm⟩ := h
  have hkey := keyOf_int_mk Yba.underlying28 hwn
  have c0 : w.cell? ⟨c, 0, none⟩ = some (.int .i32 0) := cell_of hc 0
  have c5 : w.cell? ⟨c, 5, none⟩ = some (.map (some bc)) := cell_of hc 5
  have f0 := frozen_of hc 0
  have hC1 := hC.setCell (a := ⟨c, 0, none⟩) h1 (.int .i32 1)
  have hF1 := hFm.setCell (a := ⟨c, 0, none⟩) h2 (.int .i32 1)
  have hc1 := hide (locked hc)
  go_enter_defers Yba.func8, Yba.ntmps8
  go_wp2_with (first
    | (go_at_call 12; refine (lock_free Yba.muLib ⟨c, 0, none⟩ _ c0 f0).mono ?_; rintro e w' ⟨rfl, rfl⟩)
    | (at_delete; refine wpList_delete_own _ rfl _ _ 45 28 rfl 32 law28 Yba.underlying45 R32 bc nC DC rfl hC1 _ _ rfl hkey ?_; intro w1 hC2 ht1
       have hc2 := hide (turned_other ht1 h1.symm (unhide hc1))
       have k6 : w1.cell? ⟨c, 6, none⟩ = some (.map (some bf)) := cell_of (unhide hc2) 6
       have hF2 := hF1.kept ht1.grown (by simp [h3.symm]))
    | (at_mapUpdate; refine wpList_mapUpdate_in _ rfl _ _ _ 46 rfl 28 4 law28 Yba.underlying46 R4 bf nF DF rfl hF2 hF _ _ _ rfl rfl hkey _ [] (R4_mk true) ?_; intro w2 hF3 ht2
       have hc3 := hide (turned_other ht2 h2.symm (unhide hc2))
       have k0 : w2.cell? ⟨c, 0, none⟩ = some (.int .i32 1) := cell_of (unhide hc3) 0
       have g0 : w2.frozen? ⟨c, 0, none⟩ = false := frozen_of (unhide hc3) 0))
  refine leaves_cons (f := 13) (args := #[.pointer (some ⟨c, 0, none⟩)]) (by simp) (by simp [go_sem]) ?_
  refine (unlock_deferred Yba.muLib ⟨c, 0, none⟩ .returning _ k0 g0).mono ?_
  rintro e u' w'' ⟨rfl, rfl, rfl⟩
  have hC3 := hC2.kept ht2.grown (by simp [h3])
  have hend := unlocked (unhide hc3)
  refine ⟨_, results_none rfl _ _ _, rfl, ⟨hend, hC3.setCell (a := ⟨c, 0, none⟩) h1 _, hF3.setCell (a := ⟨c, 0, none⟩) h2 _⟩, ?_⟩
  have g1 := ht1.grown
  have g2 := ht2.grown
  refine ⟨g2.os.trans g1.os, g2.tape.trans g1.tape, g2.output.trans g1.output, ?_, ?_⟩
  · have := g1.size; have := g2.size; simp at *; omega
  · intro k hk hkc hkf
    by_cases e : k = c
    · subst e; rw [hend, hc]
    · have s1 := g1.size
      rw [set_block _ _ _ _ _ e, g2.block k (by simp at *; omega) (by simp [hkf]), g1.block k (by simpa using hk) (by simp [hkc]), set_block _ _ _ _ _ e]

set_option maxHeartbeats 1600000 in
theorem crashAtSync_any (w : World) (c bc bf : Nat) (rv : Value) (nC nF : Nat) (DC DF : DataW Unit) (n : Int) (t : Bool) (s : Int) (h : FsAt w c bc bf rv nC nF DC DF) (h1 : bc ≠ c) (h2 : bf ≠ c) (h3 : bc ≠ bf) (hCn : nC < maxLen) (hwn : (Lit.int .u64 n).wf = true) :
    Calls Yba.prog 7 #[.pointer (some ⟨c, 0, none⟩), .int .u64 n, .agg #[.bool t, .int .u64 s]] w fun e w' => e = .returned (.tuple #[]) ∧
      FsAt w' c bc bf rv (nC + 1) nF (DC.put (.int .u64 n) (modeD t s)) (DF.del (.int .u64 n)) ∧ Kept2 bc bf w w' := by
  obtain ⟨hc, hC, hFm⟩ := h
  have hlt := lt_of_some hc
  have hkey := keyOf_int_mk Yba.underlying28 hwn
  obtain ⟨wa, hwa⟩ : ∃ wa, wa = w.alloc (.cells #[.bool t, .int .u64 s] 32) := ⟨_, rfl⟩
  have hca : wa.heap[c]? = some (.cells #[.int .i32 0, .int .u32 0, rv, .int .u64 0, .int .u64 0, .map (some bc), .map (some bf)] 48 (0, 0)) := by
    rw [hwa, Below.heap_alloc w _ c hlt]; exact hc
  have hba : wa.heap[w.heap.size]? = some (.cells #[.bool t, .int .u64 s] 32 (0, 0)) := by rw [hwa]; exact heap_alloc_new w _
  have hCa : wa.ownsMap Yba.prog 28 R32 bc nC DC := by rw [hwa]; exact hC.alloc _
  have hFa : wa.ownsMap Yba.prog 28 R4 bf nF DF := by rw [hwa]; exact hFm.alloc _
  have hbc := hC.lt
  have hbf := hFm.lt
  have c0 : wa.cell? ⟨c, 0, none⟩ = some (.int .i32 0) := cell_of hca 0
  have c6 : wa.cell? ⟨c, 6, none⟩ = some (.map (some bf)) := cell_of hca 6
  have f0 := frozen_of hca 0
  have hC1 := hCa.setCell (a := ⟨c, 0, none⟩) h1 (.int .i32 1)
  have hF1 := hFa.setCell (a := ⟨c, 0, none⟩) h2 (.int .i32 1)
  have hc1 := hide (locked hca)
  have hb1 : Hid ((wa.setCell ⟨c, 0, none⟩ (.int .i32 1)).heap[w.heap.size]? = some (.cells #[.bool t, .int .u64 s] 32 (0, 0))) := by
    show _ = _
    rw [set_block _ _ _ _ _ (by omega)]; exact hba
  have HC := hide hca
  have HB := hide hba
  have HW := hide hwa
  clear hca hba
  go_enter_defers Yba.func7, Yba.ntmps7
  go_wp2_with fail
  rw [← hwa]
  clear hwa
  refine (lock_free Yba.muLib ⟨c, 0, none⟩ _ c0 f0).mono ?_
  rintro e w' ⟨rfl, rfl⟩
  go_wp2_with (first
    | (at_delete; refine wpList_delete_own _ rfl _ _ 46 28 rfl 4 law28 Yba.underlying46 R4 bf nF DF rfl hF1 _ _ rfl hkey ?_; intro w1 hF2 ht1
       have hc2 := hide (turned_other ht1 h2.symm (unhide hc1))
       have hb2 := hide (turned_other ht1 (by omega) (unhide hb1))
       have k5 : w1.cell? ⟨c, 5, none⟩ = some (.map (some bc)) := cell_of (unhide hc2) 5
       have b0 : w1.cell? ⟨w.heap.size, 0, none⟩ = some (.bool t) := cell_of (unhide hb2) 0
       have b1 : w1.cell? ⟨w.heap.size, 1, none⟩ = some (.int .u64 s) := cell_of (unhide hb2) 1
       have hC2 := hC1.kept ht1.grown (by simp [h3])
       clear hc1 hb1))
  obtain ⟨w2, hrun, hC3, ht2⟩ := hC2.drew.store law28 Yba.underlying45 hCn hkey (R32_mk t s)
  have hc3 := hide (turned_other ht2 h1.symm (show w1.drew.heap[c]? = _ from unhide hc2))
  have hb3 := hide (turned_other ht2 (by omega) (show w1.drew.heap[w.heap.size]? = _ from unhide hb2))
  have k5' : w2.cell? ⟨c, 5, none⟩ = some (.map (some bc)) := cell_of (unhide hc3) 5
  have b0' : w2.cell? ⟨w.heap.size, 0, none⟩ = some (.bool t) := cell_of (unhide hb3) 0
  have b1' : w2.cell? ⟨w.heap.size, 1, none⟩ = some (.int .u64 s) := cell_of (unhide hb3) 1
  go_frame
  go_region_held3 (fun w' => w'.cell? ⟨c, 5, none⟩ = some (.map (some bc)) ∧ w'.cell? ⟨w.heap.size, 0, none⟩ = some (.bool t) ∧ w'.cell? ⟨w.heap.size, 1, none⟩ = some (.int .u64 s)) (simp [k5, b0, b1, k5', b0', b1']) (fail)
  go_wp2
  have k0 : w2.cell? ⟨c, 0, none⟩ = some (.int .i32 1) := cell_of (unhide hc3) 0
  have g0 : w2.frozen? ⟨c, 0, none⟩ = false := frozen_of (unhide hc3) 0
  refine leaves_cons (f := 13) (args := #[.pointer (some ⟨c, 0, none⟩)]) (by simp) (by simp [go_sem]) ?_
  refine (unlock_deferred Yba.muLib ⟨c, 0, none⟩ .returning _ k0 g0).mono ?_
  rintro e u' w'' ⟨rfl, rfl, rfl⟩
  have hF3 := (show w1.drew.ownsMap _ _ _ _ _ _ from hF2).kept ht2.grown (by simp [h3.symm])
  have hend := unlocked (unhide hc3)
  refine ⟨_, results_none rfl _ _ _, rfl, ⟨hend, hC3.setCell (a := ⟨c, 0, none⟩) h1 _, hF3.setCell (a := ⟨c, 0, none⟩) h2 _⟩, ?_⟩
  have g1 := ht1.grown
  have g2 := ht2.grown
  have ga : w.grownBy wa none := by rw [unhide HW]; exact World.grownBy_alloc _ _ _
  refine ⟨g2.os.trans (g1.os.trans ga.os), g2.tape.trans (g1.tape.trans ga.tape), g2.output.trans (g1.output.trans ga.output), ?_, ?_⟩
  · have s0 := ga.size; have s1 := g1.size; have s2 := g2.size; simp at *; omega
  · intro k hk hkc hkf
    by_cases e : k = c
    · subst e; rw [hend, hc]
    · have s0 := ga.size
      have s1 := g1.size
      rw [set_block _ _ _ _ _ e, g2.block k (by simp at *; omega) (by simp [hkc])]
      show w1.heap[k]? = _
      rw [g1.block k (by simp at *; omega) (by simp [hkf]), set_block _ _ _ _ _ e, ga.block k hk (by simp)]
end Go.Proofs.Ybulkbkac
