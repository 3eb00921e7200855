import Derived.Test.YbulkbkacNew
import Derived.Test.YbulkbkacPlain
import Derived.Maps.AppendAt
import Derived.Laws.OwnMore
import Derived.Lib.OwnKind
import Derived.OwnWalk
namespace Go.Proofs.Ybulkbkac
open Go.RowKit Go.Maps

theorem FsAt.alloc {w : World} {c bc bf : Nat} {rv : Value} {nC nF : Nat} {DC DF : DataW Unit} (h : FsAt w c bc bf rv nC nF DC DF) (o : Obj) : FsAt (w.alloc o) c bc bf rv nC nF DC DF :=
  ⟨heap_past _ h.1, h.2.1.alloc _, h.2.2.alloc _⟩

/-- The law's state: the three slices (their cells), the file system, the root, and that nothing old has turned. -/
structure St (w0 : World) (N : Nat) (vk vb vm : Value) (mk mb mm : Nat) (xk xb xm : List Value) (nC nF : Nat) (DC DF : DataW Unit) (w : World) : Prop where
  rk : w.ownsRow (N + 6) 28 1 vk mk xk
  rb : w.ownsRow (N + 6) 4 1 vb mb xb
  rm : w.ownsRow (N + 6) 32 2 vm mm xm
  fs : FsAt w (N + 5) (N + 3) (N + 4) (.pointer (some ⟨N + 2, 0, none⟩)) nC nF DC DF
  root : RootAt w N
  bel : Below N w0 w
  sz : N + 6 ≤ w.heap.size

section
variable {w0 w w' : World} {N : Nat} {vk vb vm v' : Value} {mk mb mm m' : Nat} {xk xb xm x' : List Value} {nC nF nC' nF' : Nat} {DC DF DC' DF' : DataW Unit}

theorem St.alloc (h : St w0 N vk vb vm mk mb mm xk xb xm nC nF DC DF w) (o : Obj) : St w0 N vk vb vm mk mb mm xk xb xm nC nF DC DF (w.alloc o) :=
  ⟨h.rk.alloc _, h.rb.alloc _, h.rm.alloc _, h.fs.alloc _, ⟨heap_past _ h.root.1, heap_past _ h.root.2.1, heap_past _ h.root.2.2⟩, h.bel.alloc (by have := h.sz; omega) _, by have := h.sz; simp; omega⟩

theorem St.drew (h : St w0 N vk vb vm mk mb mm xk xb xm nC nF DC DF w) : St w0 N vk vb vm mk mb mm xk xb xm nC nF DC DF w.drew :=
  ⟨h.rk, h.rb, h.rm, h.fs, h.root, h.bel.drew, h.sz⟩

theorem St.drewN (n : Nat) (h : St w0 N vk vb vm mk mb mm xk xb xm nC nF DC DF w) : St w0 N vk vb vm mk mb mm xk xb xm nC nF DC DF (w.drewN n) :=
  ⟨h.rk, h.rb, h.rm, h.fs, h.root, ⟨h.bel.os, h.bel.tape, h.bel.output, h.bel.size, h.bel.block⟩, h.sz⟩

/-- A row stands while all old blocks but the two maps' stand. -/
theorem row_kept2 {base : Nat} {e : TypeId} {size : Nat} {v : Value} {n : Nat} {xs : List Value} {bc bf : Nat} (h : w.ownsRow base e size v n xs) (k : Kept2 bc bf w w') (h1 : bc < base) (h2 : bf < base) : w'.ownsRow base e size v n xs := by
  obtain ⟨hl, h⟩ := h
  refine ⟨hl, ?_⟩
  rcases h with h | ⟨g, cap, cur, hv, hb, hg, r⟩
  · exact .inl h
  · exact .inr ⟨g, cap, cur, hv, hb, by rw [k.block g (lt_of_some hg) (by omega) (by omega)]; exact hg, r⟩

/-- .. behind a call of the file system's. -/
theorem St.called (h : St w0 N vk vb vm mk mb mm xk xb xm nC nF DC DF w) (f : FsAt w' (N + 5) (N + 3) (N + 4) (.pointer (some ⟨N + 2, 0, none⟩)) nC' nF' DC' DF') (k : Kept2 (N + 3) (N + 4) w w') :
    St w0 N vk vb vm mk mb mm xk xb xm nC' nF' DC' DF' w' := by
  have hs := h.sz
  refine ⟨row_kept2 h.rk k (by omega) (by omega), row_kept2 h.rb k (by omega) (by omega), row_kept2 h.rm k (by omega) (by omega), f, ⟨?_, ?_, ?_⟩, ?_, Nat.le_trans hs k.size⟩
  · rw [k.block _ (by omega) (by omega) (by omega)]; exact h.root.1
  · rw [k.block _ (by omega) (by omega) (by omega)]; exact h.root.2.1
  · rw [k.block _ (by omega) (by omega) (by omega)]; exact h.root.2.2
  · exact ⟨k.os.trans h.bel.os, k.tape.trans h.bel.tape, k.output.trans h.bel.output, Nat.le_trans h.bel.size k.size, fun i hi => (k.block i (by omega) (by omega) (by omega)).trans (h.bel.block i hi)⟩

theorem row_ne {base : Nat} {e e' : TypeId} {size size' : Nat} {v v1 : Value} {n n1 : Nat} {xs xs1 : List Value} (h : w.ownsRow base e size v n xs) (h1 : w.ownsRow base e' size' v1 n1 xs1) (hne : e ≠ e') : v.ownBlock = none ∨ v.ownBlock ≠ v1.ownBlock := by
  cases hb : v.ownBlock with
  | none => exact .inl rfl
  | some g =>
    refine .inr fun e1 => ?_
    obtain ⟨c, fz, hc⟩ := Lib.ownsRow_kind h g hb
    obtain ⟨c1, fz1, hc1⟩ := Lib.ownsRow_kind h1 g e1.symm
    rw [hc] at hc1
    simp at hc1
    exact hne hc1.2.1

theorem own_ge {base : Nat} {e : TypeId} {size : Nat} {v : Value} {n : Nat} {xs : List Value} (h : w.ownsRow base e size v n xs) (k : Nat) (hk : k < base) : some k ≠ v.ownBlock := fun e1 => by
  have := (h.lt k e1.symm).1
  omega

/-- The file system, the root, the old: behind a row's growth. -/
theorem side_grown {v : Value} (hge : ∀ k, k < N + 6 → some k ≠ v.ownBlock) (hg : w.grownBy w' v.ownBlock) (f : FsAt w (N + 5) (N + 3) (N + 4) (.pointer (some ⟨N + 2, 0, none⟩)) nC nF DC DF) (r : RootAt w N) (b : Below N w0 w) (s : N + 6 ≤ w.heap.size) :
    FsAt w' (N + 5) (N + 3) (N + 4) (.pointer (some ⟨N + 2, 0, none⟩)) nC nF DC DF ∧ RootAt w' N ∧ Below N w0 w' ∧ N + 6 ≤ w'.heap.size := by
  refine ⟨⟨?_, f.2.1.kept hg (hge _ (by omega)), f.2.2.kept hg (hge _ (by omega))⟩, ⟨?_, ?_, ?_⟩, ?_, Nat.le_trans s hg.size⟩
  · rw [hg.block _ (by omega) (hge _ (by omega))]; exact f.1
  · rw [hg.block _ (by omega) (hge _ (by omega))]; exact r.1
  · rw [hg.block _ (by omega) (hge _ (by omega))]; exact r.2.1
  · rw [hg.block _ (by omega) (hge _ (by omega))]; exact r.2.2
  · exact ⟨hg.os.trans b.os, hg.tape.trans b.tape, hg.output.trans b.output, Nat.le_trans b.size hg.size, fun i hi => (hg.block i (by omega) (hge i (by omega))).trans (b.block i hi)⟩

theorem St.growK (h : St w0 N vk vb vm mk mb mm xk xb xm nC nF DC DF w) (r : w'.ownsRow (N + 6) 28 1 v' m' x') (hg : w.grownBy w' vk.ownBlock) : St w0 N v' vb vm m' mb mm x' xb xm nC nF DC DF w' := by
  obtain ⟨a, b, c, d⟩ := side_grown (own_ge h.rk) hg h.fs h.root h.bel h.sz
  exact ⟨r, h.rb.kept hg (row_ne h.rb h.rk (by decide)), h.rm.kept hg (row_ne h.rm h.rk (by decide)), a, b, c, d⟩
theorem St.growB (h : St w0 N vk vb vm mk mb mm xk xb xm nC nF DC DF w) (r : w'.ownsRow (N + 6) 4 1 v' m' x') (hg : w.grownBy w' vb.ownBlock) : St w0 N vk v' vm mk m' mm xk x' xm nC nF DC DF w' := by
  obtain ⟨a, b, c, d⟩ := side_grown (own_ge h.rb) hg h.fs h.root h.bel h.sz
  exact ⟨h.rk.kept hg (row_ne h.rk h.rb (by decide)), r, h.rm.kept hg (row_ne h.rm h.rb (by decide)), a, b, c, d⟩
theorem St.growM (h : St w0 N vk vb vm mk mb mm xk xb xm nC nF DC DF w) (r : w'.ownsRow (N + 6) 32 2 v' m' x') (hg : w.grownBy w' vm.ownBlock) : St w0 N vk vb v' mk mb m' xk xb x' nC nF DC DF w' := by
  obtain ⟨a, b, c, d⟩ := side_grown (own_ge h.rm) hg h.fs h.root h.bel h.sz
  exact ⟨h.rk.kept hg (row_ne h.rk h.rm (by decide)), h.rb.kept hg (row_ne h.rb h.rm (by decide)), r, a, b, c, d⟩

/-- A block of another type stands behind a row's growth. -/
theorem blk_grow {base : Nat} {e t : TypeId} {size : Nat} {v : Value} {n : Nat} {xs : List Value} {b : Nat} {cs : Array Value} {fz : Nat × Nat} (h : w.ownsRow base e size v n xs) (hb : w.heap[b]? = some (.cells cs t fz)) (hne : t ≠ e) (hg : w.grownBy w' v.ownBlock) : w'.heap[b]? = some (.cells cs t fz) := by
  rw [hg.block b (lt_of_some hb) (fun e1 => ?_)]
  · exact hb
  · obtain ⟨c, fz1, hc⟩ := Lib.ownsRow_kind h b e1.symm
    rw [hb] at hc
    simp at hc
    exact hne hc.2.1
end

/-- The columns of the ghost list. -/
def colK (L : List Ent) : List Value := L.map fun e => .int .u64 e.key
def colB (L : List Ent) : List Value := L.map fun e => .bool e.kind
def colM (L : List Ent) : List Value := L.flatMap fun e => [.bool e.tear, .int .u64 e.seed]

/-- The state at a round's head. -/
def At (w0 : World) (N : Nat) (vk vb vm : Value) (i : Nat) (w : World) : Prop :=
  ∃ (L : List Ent) (nC nF : Nat) (DC DF : DataW Unit), St w0 N vk vb vm L.length L.length L.length (colK L) (colB L) (colM L) nC nF DC DF w ∧ Good L DC DF ∧ L.length ≤ i ∧ nC ≤ i ∧ nF ≤ i ∧ ∀ e ∈ L, (Lit.int .u64 e.key).wf = true

theorem colM_length (L : List Ent) : (colM L).length = L.length * 2 := by
  induction L with
  | nil => rfl
  | cons e r ih => simp only [colM, List.flatMap_cons, List.length_append, List.length_cons, List.length_nil] at *; omega
theorem colM_get0 (L : List Ent) (q : Nat) (h : q < L.length) : (colM L)[q * 2]? = some (.bool L[q].tear) := by
  induction L generalizing q with
  | nil => simp at h
  | cons e r ih =>
    cases q with
    | zero => simp [colM]
    | succ q =>
      have := ih q (by simpa using h)
      simp only [colM, List.flatMap_cons, show (q + 1) * 2 = q * 2 + 2 from by omega] at *
      simpa using this
theorem colM_get1 (L : List Ent) (q : Nat) (h : q < L.length) : (colM L)[q * 2 + 1]? = some (.int .u64 L[q].seed) := by
  induction L generalizing q with
  | nil => simp at h
  | cons e r ih =>
    cases q with
    | zero => simp [colM]
    | succ q =>
      have := ih q (by simpa using h)
      simp only [colM, List.flatMap_cons, show (q + 1) * 2 + 1 = q * 2 + 1 + 2 from by omega] at *
      simpa using this
theorem colM_set (L : List Ent) (q : Nat) (h : q < L.length) (e : Ent) : ((colM L).set (q * 2) (.bool e.tear)).set (q * 2 + 1) (.int .u64 e.seed) = colM (L.set q e) := by
  induction L generalizing q with
  | nil => simp at h
  | cons x r ih =>
    cases q with
    | zero => simp [colM]
    | succ q =>
      have := ih q (by simpa using h)
      simp only [colM, List.flatMap_cons, List.set_cons_succ, show (q + 1) * 2 = q * 2 + 2 from by omega, show q * 2 + 2 + 1 = q * 2 + 1 + 2 from by omega] at *
      simpa using this
theorem colK_set (L : List Ent) (q : Nat) (h : q < L.length) (e : Ent) (hk : e.key = L[q].key) : colK (L.set q e) = colK L := by
  unfold colK
  rw [List.map_set, hk, ← List.getElem_map (fun e : Ent => Value.int .u64 e.key) (h := by simpa using h), List.set_getElem_self]
theorem colB_set (L : List Ent) (q : Nat) (e : Ent) : colB (L.set q e) = (colB L).set q (.bool e.kind) := by
  unfold colB; rw [List.map_set]
end Go.Proofs.Ybulkbkac
