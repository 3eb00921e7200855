import Derived.Test.YbulkbkacNew
import Derived.Sort.AtCall
namespace Go.Proofs.Ybulkbkac
open Go.RowKit Go.Maps

theorem FsAt.alloc {w : World} {c bc bf : Nat} {rv : Value} {nC nF : Nat} {DC DF : DataW Unit} (h : FsAt w c bc bf rv nC nF DC DF) (o : Obj) : FsAt (w.alloc o) c bc bf rv nC nF DC DF :=
  ⟨heap_past _ h.1, h.2.1.alloc _, h.2.2.alloc _⟩

theorem below_kept2 {N bc bf : Nat} {w w1 w2 : World} (h : Below N w w1) (k : Kept2 bc bf w1 w2) (hs : N ≤ w1.heap.size) (h1 : N ≤ bc) (h2 : N ≤ bf) : Below N w w2 :=
  ⟨k.os.trans h.os, k.tape.trans h.tape, k.output.trans h.output, Nat.le_trans h.size k.size, fun i hi => (k.block i (by omega) (by omega) (by omega)).trans (h.block i hi)⟩

theorem isKey_u64 (n : Int) : WideAt.IsKeyLit (.int .u64 n) := by simp [WideAt.IsKeyLit]

/-- What the two maps hold in the end. -/
theorem replaces_views (n : Int) (t : Bool) (s : Int) :
    Maps.has (((DataW.map []).del (.int .u64 n)).put (.int .u64 n) (modeD t s)) (.int .u64 n) = true ∧
    (((DataW.map []).del (.int .u64 n)).put (.int .u64 n) (modeD t s)).atKey (.int .u64 n) (modeD false 0) = modeD t s ∧
    Maps.size (((DataW.map []).del (.int .u64 n)).put (.int .u64 n) (modeD t s)) = 1 ∧
    Maps.size (((DataW.map ([] : List (Lit × DataW Unit))).put (.int .u64 n) (.lit (.bool true))).del (.int .u64 n)) = 0 := by
  have hk := isKey_u64 n
  have hm : IsMap ((DataW.map ([] : List (Lit × DataW Unit))).del (.int .u64 n)) := isMap_empty.del _
  refine ⟨has_put_same hm hk _, atKey_put_same hm hk _ _, rfl, ?_⟩
  have h1 := size_del (k := .int .u64 n) (tidy_empty.put hk (.lit (.bool true)) : Tidy ((DataW.map ([] : List (Lit × DataW Unit))).put (.int .u64 n) (.lit (.bool true))))
  rw [has_put_same isMap_empty hk] at h1
  have h2 : Maps.size ((DataW.map ([] : List (Lit × DataW Unit))).put (.int .u64 n) (.lit (.bool true))) = 1 := rfl
  simp only [if_true] at h1
  omega

set_option maxHeartbeats 1600000 in
theorem replaces_walk (n : Int) (t : Bool) (s : Int) (w : World) (hwn : (Lit.int .u64 n).wf = true) :
    Calls Yba.prog 4 #[.int .u64 n, .bool t, .int .u64 s] w fun e w' => e = .returned (.bool true) ∧ Below w.heap.size w w' := by
  have hkey := keyOf_int_mk Yba.underlying28 hwn
  go_enter Yba.func4, Yba.ntmps4
  go_wp2_with fail
  refine (new_any w).mono ?_
  rintro e w1 ⟨rfl, f1, r1, b1, s1⟩
  have F1 := hide f1; have B1 := hide b1; have S1 := hide s1
  clear f1 r1 b1 s1
  go_wp2_with fail
  refine (failSync_any w1 (w.heap.size + 5) (w.heap.size + 3) (w.heap.size + 4) _ 0 0 _ _ n (unhide F1) (by omega) (by omega) (by omega) (by decide) hwn).mono ?_
  rintro e w2 ⟨rfl, f2, k2⟩
  have F2 := hide f2; have B2 := hide (below_kept2 (unhide B1) k2 (by have := unhide S1; omega) (by omega) (by omega))
  have S2 : Hid (w.heap.size + 6 ≤ w2.heap.size) := by have h1 := unhide S1; have h2 := k2.size; show _ ≤ _; omega
  clear f2 k2 F1 B1 S1
  go_wp2_with (go_at_call 6; refine (mode_any t s _).mono ?_; rintro e w' ⟨rfl, c1, c2, rfl⟩)
  obtain ⟨w3, hw3⟩ : ∃ x, x = ((w2.alloc (.cells c1 32)).alloc (.cells c2 32)).alloc (.cells #[.bool t, .int .u64 (seedOf t s)] 32) := ⟨_, rfl⟩
  have f3 := (((unhide F2).alloc (.cells c1 32)).alloc (.cells c2 32)).alloc (.cells #[.bool t, .int .u64 (seedOf t s)] 32)
  have m3 := heap_alloc_new ((w2.alloc (.cells c1 32)).alloc (.cells c2 32)) (.cells #[.bool t, .int .u64 (seedOf t s)] 32)
  have bel3 := (((unhide B2).alloc (by have := unhide S2; omega) (.cells c1 32)).alloc (by have := unhide S2; simp; omega) (.cells c2 32)).alloc (by have := unhide S2; simp; omega) (.cells #[.bool t, .int .u64 (seedOf t s)] 32)
  rw [← hw3] at f3 m3 bel3 ⊢
  have e3 : ((w2.alloc (.cells c1 32)).alloc (.cells c2 32)).heap.size = w2.heap.size + 1 + 1 := by simp
  rw [e3] at m3
  have s3 : w3.heap.size = w2.heap.size + 1 + 1 + 1 := by rw [hw3]; simp
  clear hw3 e3
  refine (crashAtSync_any w3 (w.heap.size + 5) (w.heap.size + 3) (w.heap.size + 4) _ 0 (0 + 1) _ _ n t (seedOf t s) f3 (by omega) (by omega) (by omega) (by decide) hwn).mono ?_
  rintro e w4 ⟨rfl, f4, k4⟩
  have B4 := hide (below_kept2 bel3 k4 (by have := unhide S2; omega) (by omega) (by omega))
  have S4 : Hid (w.heap.size + 6 ≤ w4.heap.size) := by have h1 := unhide S2; have h2 := k4.size; show _ ≤ _; omega
  have m4 : w4.heap[w2.heap.size + 1 + 1]? = some (.cells #[.bool t, .int .u64 (seedOf t s)] 32 (0, 0)) := by
    rw [k4.block _ (by omega) (by have := unhide S2; omega) (by have := unhide S2; omega)]; exact m3
  obtain ⟨hc4, hC4, hF4⟩ := f4
  obtain ⟨v1, v2, v3, v4⟩ := replaces_views n t (seedOf t s)
  generalize (((DataW.map []).del (Lit.int .u64 n)).put (Lit.int .u64 n) (modeD t (seedOf t s))) = DC at hC4 v1 v2 v3
  generalize (((DataW.map []).put (Lit.int .u64 n) (DataW.lit (Lit.bool true))).del (Lit.int .u64 n)) = DF at hF4 v4
  have k2 : w4.cell? ⟨w.heap.size + 5, 3, none⟩ = some (.int .u64 0) := cell_of hc4 3
  have k3 : w4.cell? ⟨w.heap.size + 5, 4, none⟩ = some (.int .u64 0) := cell_of hc4 4
  have k5 : w4.cell? ⟨w.heap.size + 5, 5, none⟩ = some (.map (some (w.heap.size + 3))) := cell_of hc4 5
  have k6 : w4.cell? ⟨w.heap.size + 5, 6, none⟩ = some (.map (some (w.heap.size + 4))) := cell_of hc4 6
  have q0 : w4.cell? ⟨w2.heap.size + 1 + 1, 0, none⟩ = some (.bool t) := cell_of m4 0
  have q1 : w4.cell? ⟨w2.heap.size + 1 + 1, 1, none⟩ = some (.int .u64 (seedOf t s)) := cell_of m4 1
  have l4 := lt_of_some hc4
  have l5 := lt_of_some m4
  clear f3 m3 bel3 s3 hc4 m4 k4 F2 B2 S2
  have lC : ∀ ty, (Builtin.len_ #[45] ty #[.map (some (w.heap.size + 3))]).run Yba.prog (w4.alloc (.cells #[.bool t, .int .u64 (seedOf t s)] 32)) = .ok (.int .i64 1) (w4.alloc (.cells #[.bool t, .int .u64 (seedOf t s)] 32)) := fun ty => by
    have := (hC4.alloc (.cells #[.bool t, .int .u64 (seedOf t s)] 32)).len Yba.underlying45 ty
    rw [v3] at this; exact this
  have lF : ∀ ty, (Builtin.len_ #[46] ty #[.map (some (w.heap.size + 4))]).run Yba.prog (w4.alloc (.cells #[.bool t, .int .u64 (seedOf t s)] 32)) = .ok (.int .i64 0) (w4.alloc (.cells #[.bool t, .int .u64 (seedOf t s)] 32)) := fun ty => by
    have := (hF4.alloc (.cells #[.bool t, .int .u64 (seedOf t s)] 32)).len Yba.underlying46 ty
    rw [v4] at this; exact this
  obtain ⟨v, ps, hl, hv⟩ := hC4.look_ok law28 Yba.underlying45 (zero32 _) (R32_mk false 0) hkey
  rw [v2] at hv
  obtain rfl := R32_inv hv
  rw [v1] at hl
  clear v1 v2 v3 v4 hv hC4 hF4
  go_wp2
  go_ret
  exact ⟨rfl, (unhide B4).alloc (by have := unhide S4; omega) _⟩
end Go.Proofs.Ybulkbkac
