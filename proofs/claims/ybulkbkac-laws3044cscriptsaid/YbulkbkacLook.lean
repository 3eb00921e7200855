import Derived.Test.YbulkbkacMid
namespace Go.Proofs.Ybulkbkac
open Go.RowKit Go.Maps

theorem lookC_run {W : World} {b n : Nat} {D : DataW Unit} (h : W.ownsMap Yba.prog 28 R32 b n D) {k : Int} (hw : (Lit.int .u64 k).wf = true) {t v : Bool} {s : Int} (hh : Maps.has D (K k) = v) (ha : D.atKey (K k) (modeD false 0) = modeD t s) :
    (Instr.lookup 45 (.map (some b)) (.int .u64 k) true).run Yba.prog W = .ok (.tuple #[.agg #[.bool t, .int .u64 s], .bool v]) W := by
  obtain ⟨x, ps, hr, hx⟩ := h.look_ok law28 Yba.underlying45 (zero32 _) (R32_mk false 0) (keyOf_int_mk Yba.underlying28 hw)
  have hx' : R32 x = some (D.atKey (K k) (modeD false 0), ps) := hx
  rw [ha] at hx'
  obtain rfl := R32_inv hx'
  rw [hr]
  have : Maps.has D (Lit.int .u64 k) = v := hh
  rw [this]

theorem lookF_run {W : World} {b n : Nat} {D : DataW Unit} (h : W.ownsMap Yba.prog 28 R4 b n D) {k : Int} (hw : (Lit.int .u64 k).wf = true) {x v : Bool} (hh : Maps.has D (K k) = v) (ha : D.atKey (K k) (.lit (.bool false)) = .lit (.bool x)) :
    (Instr.lookup 46 (.map (some b)) (.int .u64 k) true).run Yba.prog W = .ok (.tuple #[.bool x, .bool v]) W := by
  obtain ⟨y, ps, hr, hx⟩ := h.look_ok law28 Yba.underlying46 (zero4 _) (R4_mk false) (keyOf_int_mk Yba.underlying28 hw)
  have hx' : R4 y = some (D.atKey (K k) (.lit (.bool false)), ps) := hx
  rw [ha] at hx'
  obtain rfl := R4_inv hx'
  rw [hr]
  have : Maps.has D (Lit.int .u64 k) = v := hh
  rw [this]

theorem look_kind {L : List Ent} {DC DF : DataW Unit} (g : Good L DC DF) (q : Nat) (hq : q < L.length) (hk : L[q].kind = true) :
    Maps.has DC (K L[q].key) = true ∧ DC.atKey (K L[q].key) (modeD false 0) = modeD L[q].tear L[q].seed ∧ Maps.has DF (K L[q].key) = false ∧ DF.atKey (K L[q].key) (.lit (.bool false)) = .lit (.bool false) := by
  have h := g.holds L[q] (List.getElem_mem hq)
  unfold Holds1 at h
  rw [hk] at h
  simp only [if_true] at h
  exact ⟨h.1, h.2.1 _, h.2.2, atKey_of_not_has h.2.2 _⟩

theorem look_not {L : List Ent} {DC DF : DataW Unit} (g : Good L DC DF) (q : Nat) (hq : q < L.length) (hk : L[q].kind = false) :
    Maps.has DC (K L[q].key) = false ∧ DC.atKey (K L[q].key) (modeD false 0) = modeD false 0 ∧ Maps.has DF (K L[q].key) = true ∧ DF.atKey (K L[q].key) (.lit (.bool false)) = .lit (.bool true) := by
  have h := g.holds L[q] (List.getElem_mem hq)
  unfold Holds1 at h
  rw [hk] at h
  simp only [Bool.false_eq_true, if_false] at h
  exact ⟨h.1, atKey_of_not_has h.1 _, h.2.1, h.2.2 _⟩

theorem nCrash_take (L : List Ent) (q : Nat) (hq : q < L.length) : nCrash (L.take (q + 1)) = nCrash (L.take q) + (if L[q].kind then 1 else 0) := by
  unfold nCrash
  rw [List.take_succ_eq_append_getElem hq, List.filter_append, List.length_append]
  cases h : L[q].kind <;> simp [h]
theorem nFail_take (L : List Ent) (q : Nat) (hq : q < L.length) : nFail (L.take (q + 1)) = nFail (L.take q) + (if L[q].kind then 0 else 1) := by
  unfold nFail
  rw [List.take_succ_eq_append_getElem hq, List.filter_append, List.length_append]
  cases h : L[q].kind <;> simp [h]
theorem nCrash_le (L : List Ent) : nCrash L ≤ L.length := List.length_filter_le _ _
theorem nFail_le (L : List Ent) : nFail L ≤ L.length := List.length_filter_le _ _

/-- What a round of the third loop reads. -/
def Facts (N gk gb gm q : Nat) (e : Ent) (mt : Bool) (ms : Int) (fv : Bool) (W : World) : Prop :=
  W.cell? ⟨N + 5, 5, none⟩ = some (.map (some (N + 3))) ∧ W.cell? ⟨N + 5, 6, none⟩ = some (.map (some (N + 4))) ∧ W.cell? ⟨gk, q, none⟩ = some (.int .u64 e.key) ∧ W.cell? ⟨gb, q, none⟩ = some (.bool e.kind) ∧
  W.cell? ⟨gm, q * 2, none⟩ = some (.bool e.tear) ∧ W.cell? ⟨gm, q * 2 + 1, none⟩ = some (.int .u64 e.seed) ∧
  (Instr.lookup 45 (.map (some (N + 3))) (.int .u64 e.key) true).run Yba.prog W = .ok (.tuple #[.agg #[.bool mt, .int .u64 ms], .bool e.kind]) W ∧
  (Instr.lookup 46 (.map (some (N + 4))) (.int .u64 e.key) true).run Yba.prog W = .ok (.tuple #[.bool fv, .bool (!e.kind)]) W

theorem cK (L : List Ent) (q : Nat) (h : q < L.length) : (colK L)[q]? = some (.int .u64 L[q].key) := by
  unfold colK; rw [List.getElem?_map, List.getElem?_eq_getElem h]; rfl
theorem cB (L : List Ent) (q : Nat) (h : q < L.length) : (colB L)[q]? = some (.bool L[q].kind) := by
  unfold colB; rw [List.getElem?_map, List.getElem?_eq_getElem h]; rfl

theorem facts_true {w0 W : World} {N gk gb gm ck cb cm q : Nat} {L : List Ent} {nC nF : Nat} {DC DF : DataW Unit}
    (h : St w0 N (.slice (some ⟨gk, 0, none⟩) L.length ck) (.slice (some ⟨gb, 0, none⟩) L.length cb) (.slice (some ⟨gm, 0, none⟩) L.length cm) L.length L.length L.length (colK L) (colB L) (colM L) nC nF DC DF W)
    (g : Good L DC DF) (hwf : ∀ e ∈ L, (Lit.int .u64 e.key).wf = true) (hq : q < L.length) (hk : L[q].kind = true) : Facts N gk gb gm q ⟨L[q].key, true, L[q].tear, L[q].seed⟩ L[q].tear L[q].seed false W := by
  obtain ⟨l1, l2, l3, l4⟩ := look_kind g q hq hk
  have hw := hwf _ (List.getElem_mem hq)
  have b1 := cB L q hq
  rw [hk] at b1
  refine ⟨cell_of h.fs.1 5, cell_of h.fs.1 6, ?_, ?_, ?_, ?_, lookC_run h.fs.2.1 hw l1 l2, lookF_run h.fs.2.2 hw l3 l4⟩
  · rw [h.rk.cellAt q (by omega)]; exact cK L q hq
  · rw [h.rb.cellAt q (by omega)]; exact b1
  · rw [h.rm.cellAt (q * 2) (by omega)]; exact colM_get0 L q hq
  · rw [h.rm.cellAt (q * 2 + 1) (by omega)]; exact colM_get1 L q hq

theorem facts_false {w0 W : World} {N gk gb gm ck cb cm q : Nat} {L : List Ent} {nC nF : Nat} {DC DF : DataW Unit}
    (h : St w0 N (.slice (some ⟨gk, 0, none⟩) L.length ck) (.slice (some ⟨gb, 0, none⟩) L.length cb) (.slice (some ⟨gm, 0, none⟩) L.length cm) L.length L.length L.length (colK L) (colB L) (colM L) nC nF DC DF W)
    (g : Good L DC DF) (hwf : ∀ e ∈ L, (Lit.int .u64 e.key).wf = true) (hq : q < L.length) (hk : L[q].kind = false) : Facts N gk gb gm q ⟨L[q].key, false, L[q].tear, L[q].seed⟩ false 0 true W := by
  obtain ⟨l1, l2, l3, l4⟩ := look_not g q hq hk
  have hw := hwf _ (List.getElem_mem hq)
  have b1 := cB L q hq
  rw [hk] at b1
  refine ⟨cell_of h.fs.1 5, cell_of h.fs.1 6, ?_, ?_, ?_, ?_, lookC_run h.fs.2.1 hw l1 l2, lookF_run h.fs.2.2 hw l3 l4⟩
  · rw [h.rk.cellAt q (by omega)]; exact cK L q hq
  · rw [h.rb.cellAt q (by omega)]; exact b1
  · rw [h.rm.cellAt (q * 2) (by omega)]; exact colM_get0 L q hq
  · rw [h.rm.cellAt (q * 2 + 1) (by omega)]; exact colM_get1 L q hq

/-- An empty map's length. -/
theorem len_empty {W : World} {b : Nat} (h : W.heap[b]? = some (.map #[] 0)) (ty : TypeId) : (Builtin.len_ #[50] ty #[.map (some b)]).run Yba.prog W = .ok (.int .i64 0) W := by
  simp [Builtin.len_, run_underlying Yba.underlying50, MapKept.run_getObj_map h, goInt, Result.andThen]
end Go.Proofs.Ybulkbkac
