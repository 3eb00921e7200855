import Derived.Test.YbulkbkacState
namespace Go.Proofs.Ybulkbkac
open Go.RowKit Go.Maps

/-- What the maps say once the entry e has been set, whether its key was there or not. -/
def Next (L : List Ent) (e : Ent) (DC DF : DataW Unit) : Prop :=
  ((∀ x ∈ L, x.key ≠ e.key) → Good (L ++ [e]) DC DF) ∧ ∀ j (hj : j < L.length), L[j].key = e.key → Good (L.set j e) DC DF

theorem next_of {L : List Ent} {DC DF : DataW Unit} (h : Good L DC DF) (n : Int) (kind t : Bool) (s : Int) : Next L ⟨n, kind, t, s⟩ (putC kind DC n t s) (putF kind DF n) := by
  refine ⟨fun hn => h.append n kind t s hn, fun j hj hk => ?_⟩
  have := h.set j hj kind t s
  rw [hk] at this
  exact this

/-- The state behind the round's call. -/
def Mid (w0 : World) (N : Nat) (vk vb vm : Value) (L : List Ent) (e : Ent) (k ob mb : Nat) (oc : Array Value) (w : World) : Prop :=
  ∃ (nC nF : Nat) (DC DF : DataW Unit), St w0 N vk vb vm L.length L.length L.length (colK L) (colB L) (colM L) nC nF DC DF w ∧ Next L e DC DF ∧ nC ≤ k + 1 ∧ nF ≤ k + 1 ∧
    w.heap[ob]? = some (.cells oc 30 (0, 0)) ∧ w.heap[mb]? = some (.cells #[.bool e.tear, .int .u64 e.seed] 32 (0, 0))

section
variable {w0 w w' : World} {N : Nat} {vk vb vm : Value} {L : List Ent} {e : Ent} {k ob mb : Nat} {oc : Array Value}

theorem Mid.drewN (n : Nat) (h : Mid w0 N vk vb vm L e k ob mb oc w) : Mid w0 N vk vb vm L e k ob mb oc (w.drewN n) := by
  obtain ⟨nC, nF, DC, DF, h1, h2⟩ := h
  exact ⟨nC, nF, DC, DF, h1.drewN n, h2⟩

/-- Behind CrashAtSync. -/
theorem mid_crash {nC nF : Nat} {DC DF : DataW Unit} {n : Int} {t : Bool} {s : Int}
    (hs : St w0 N vk vb vm L.length L.length L.length (colK L) (colB L) (colM L) nC nF DC DF w) (hg : Good L DC DF) (hC : nC ≤ k) (hF : nF ≤ k)
    (hob : w.heap[ob]? = some (.cells oc 30 (0, 0))) (hmb : w.heap[mb]? = some (.cells #[.bool t, .int .u64 s] 32 (0, 0))) (o1 : N + 6 ≤ ob) (o2 : N + 6 ≤ mb)
    (f : FsAt w' (N + 5) (N + 3) (N + 4) (.pointer (some ⟨N + 2, 0, none⟩)) (nC + 1) nF (DC.put (.int .u64 n) (modeD t s)) (DF.del (.int .u64 n))) (kp : Kept2 (N + 3) (N + 4) w w') :
    Mid w0 N vk vb vm L ⟨n, true, t, s⟩ k ob mb oc w' := by
  refine ⟨nC + 1, nF, _, _, hs.called f kp, next_of hg n true t s, by omega, by omega, ?_, ?_⟩
  · rw [kp.block _ (lt_of_some hob) (by omega) (by omega)]; exact hob
  · rw [kp.block _ (lt_of_some hmb) (by omega) (by omega)]; exact hmb

/-- Behind FailSync. -/
theorem mid_fail {nC nF : Nat} {DC DF : DataW Unit} {n : Int} {t : Bool} {s : Int}
    (hs : St w0 N vk vb vm L.length L.length L.length (colK L) (colB L) (colM L) nC nF DC DF w) (hg : Good L DC DF) (hC : nC ≤ k) (hF : nF ≤ k)
    (hob : w.heap[ob]? = some (.cells oc 30 (0, 0))) (hmb : w.heap[mb]? = some (.cells #[.bool t, .int .u64 s] 32 (0, 0))) (o1 : N + 6 ≤ ob) (o2 : N + 6 ≤ mb)
    (f : FsAt w' (N + 5) (N + 3) (N + 4) (.pointer (some ⟨N + 2, 0, none⟩)) nC (nF + 1) (DC.del (.int .u64 n)) (DF.put (.int .u64 n) (.lit (.bool true)))) (kp : Kept2 (N + 3) (N + 4) w w') :
    Mid w0 N vk vb vm L ⟨n, false, t, s⟩ k ob mb oc w' := by
  refine ⟨nC, nF + 1, _, _, hs.called f kp, next_of hg n false t s, by omega, by omega, ?_, ?_⟩
  · rw [kp.block _ (lt_of_some hob) (by omega) (by omega)]; exact hob
  · rw [kp.block _ (lt_of_some hmb) (by omega) (by omega)]; exact hmb

/-- The entry is set at a place that is there. -/
theorem mid_set {q gb cb gm cm : Nat} (h : Mid w0 N vk (.slice (some ⟨gb, 0, none⟩) L.length cb) (.slice (some ⟨gm, 0, none⟩) L.length cm) L e k ob mb oc w) (hq : q < L.length) (hk : L[q].key = e.key) (hL : L.length ≤ k)
    (hwf : ∀ x ∈ L, (Lit.int .u64 x.key).wf = true) (hwe : (Lit.int .u64 e.key).wf = true) :
    At w0 N vk (.slice (some ⟨gb, 0, none⟩) L.length cb) (.slice (some ⟨gm, 0, none⟩) L.length cm) (k + 1)
      (((w.setCell ⟨gb, q, none⟩ (.bool e.kind)).setCell ⟨gm, q * 2, none⟩ (.bool e.tear)).setCell ⟨gm, q * 2 + 1, none⟩ (.int .u64 e.seed)) := by
  obtain ⟨nC, nF, DC, DF, h1, h2, h3, h4, _, _⟩ := h
  obtain ⟨r1, g1⟩ := h1.rb.stored q (.bool e.kind)
  have s1 := h1.growB r1 g1
  obtain ⟨r2, g2⟩ := s1.rm.stored (q * 2) (.bool e.tear)
  have s2 := s1.growM r2 g2
  obtain ⟨r3, g3⟩ := s2.rm.stored (q * 2 + 1) (.int .u64 e.seed)
  have s3 := s2.growM r3 g3
  rw [colM_set L q hq e, ← colB_set, ← colK_set L q hq e hk.symm] at s3
  refine ⟨L.set q e, nC, nF, DC, DF, ?_, h2.2 q hq hk, by simp; omega, h3, h4, ?_⟩
  · simpa using s3
  · intro x hx
    rcases List.mem_or_eq_of_mem_set hx with hx | rfl
    · exact hwf x hx
    · exact hwe
end

section
variable {w0 w : World} {N : Nat} {vk vb vm : Value} {L : List Ent} {k : Nat} {nC nF : Nat} {DC DF : DataW Unit}

/-- .. with the entry's parts written out. -/
theorem mid_set' {w0 w : World} {N : Nat} {vk : Value} {L : List Ent} {k ob mb : Nat} {oc : Array Value} (n : Int) (kd t : Bool) (s : Int) (q gb cb gm cm : Nat) (h : Mid w0 N vk (.slice (some ⟨gb, 0, none⟩) L.length cb) (.slice (some ⟨gm, 0, none⟩) L.length cm) L ⟨n, kd, t, s⟩ k ob mb oc w) (hq : q < L.length) (hk : L[q].key = n) (hL : L.length ≤ k)
    (hwf : ∀ x ∈ L, (Lit.int .u64 x.key).wf = true) (hwe : (Lit.int .u64 n).wf = true) :
    At w0 N vk (.slice (some ⟨gb, 0, none⟩) L.length cb) (.slice (some ⟨gm, 0, none⟩) L.length cm) (k + 1)
      (((w.setCell ⟨gb, q, none⟩ (.bool kd)).setCell ⟨gm, q * 2, none⟩ (.bool t)).setCell ⟨gm, q * 2 + 1, none⟩ (.int .u64 s)) :=
  mid_set (e := ⟨n, kd, t, s⟩) h hq hk hL hwf hwe

/-- A new entry goes to the end. -/
theorem mid_append {w0 w : World} {N : Nat} {vk vb vm : Value} {L : List Ent} {k nC nF : Nat} {DC DF : DataW Unit} (n : Int) (kd t : Bool) (s : Int)
    (h : St w0 N vk vb vm (L.length + 1) (L.length + 1) (L.length + 1) (colK L ++ [.int .u64 n]) (colB L ++ [.bool kd]) (colM L ++ [.bool t, .int .u64 s]) nC nF DC DF w)
    (nx : Next L ⟨n, kd, t, s⟩ DC DF) (hC : nC ≤ k + 1) (hF : nF ≤ k + 1) (hL : L.length ≤ k) (hn : ∀ i (h : i < L.length), L[i].key ≠ n)
    (hwf : ∀ x ∈ L, (Lit.int .u64 x.key).wf = true) (hwe : (Lit.int .u64 n).wf = true) : At w0 N vk vb vm (k + 1) w := by
  refine ⟨L ++ [⟨n, kd, t, s⟩], nC, nF, DC, DF, ?_, nx.1 ?_, by simp; omega, hC, hF, ?_⟩
  · simpa [colK, colB, colM] using h
  · intro x hx
    obtain ⟨i, hi, rfl⟩ := List.getElem_of_mem hx
    exact hn i hi
  · intro x hx
    rcases List.mem_append.1 hx with hx | hx
    · exact hwf x hx
    · simp at hx; subst hx; exact hwe

/-- The world at the round's call. -/
theorem pre_call (hs : St w0 N vk vb vm L.length L.length L.length (colK L) (colB L) (colM L) nC nF DC DF w) (oc c1 c2 mc : Array Value) :
    let w3 := (((w.alloc (.cells oc 30)).alloc (.cells c1 32)).alloc (.cells c2 32)).alloc (.cells mc 32)
    St w0 N vk vb vm L.length L.length L.length (colK L) (colB L) (colM L) nC nF DC DF w3 ∧ w3.heap[w.heap.size]? = some (.cells oc 30 (0, 0)) ∧ w3.heap[w.heap.size + 1 + 1 + 1]? = some (.cells mc 32 (0, 0)) := by
  refine ⟨(((hs.alloc _).alloc _).alloc _).alloc _, heap_past _ (heap_past _ (heap_past _ (heap_alloc_new w _))), ?_⟩
  have := heap_alloc_new (((w.alloc (.cells oc 30)).alloc (.cells c1 32)).alloc (.cells c2 32)) (.cells mc 32)
  simpa using this

theorem crash_step (hs : St w0 N vk vb vm L.length L.length L.length (colK L) (colB L) (colM L) nC nF DC DF w) (hg : Good L DC DF) (hC : nC ≤ k) (hF : nF ≤ k) (hk : k ≤ 1024) (oc c1 c2 : Array Value) (n : Int) (t : Bool) (s : Int) (hwn : (Lit.int .u64 n).wf = true) :
    Calls Yba.prog 7 #[.pointer (some ⟨N + 5, 0, none⟩), .int .u64 n, .agg #[.bool t, .int .u64 s]]
      ((((w.alloc (.cells oc 30)).alloc (.cells c1 32)).alloc (.cells c2 32)).alloc (.cells #[.bool t, .int .u64 s] 32)) fun e w' => e = .returned (.tuple #[]) ∧ Mid w0 N vk vb vm L ⟨n, true, t, s⟩ k w.heap.size (w.heap.size + 1 + 1 + 1) oc w' := by
  obtain ⟨p1, p2, p3⟩ := pre_call hs oc c1 c2 #[.bool t, .int .u64 s]
  have hz := hs.sz
  refine (crashAtSync_any _ (N + 5) (N + 3) (N + 4) _ nC nF DC DF n t s p1.fs (by omega) (by omega) (by omega) (by unfold maxLen; omega) hwn).mono ?_
  rintro e w' ⟨rfl, f, kp⟩
  exact ⟨rfl, mid_crash p1 hg hC hF p2 p3 (by omega) (by omega) f kp⟩

theorem fail_step (hs : St w0 N vk vb vm L.length L.length L.length (colK L) (colB L) (colM L) nC nF DC DF w) (hg : Good L DC DF) (hC : nC ≤ k) (hF : nF ≤ k) (hk : k ≤ 1024) (oc c1 c2 : Array Value) (n : Int) (t : Bool) (s : Int) (hwn : (Lit.int .u64 n).wf = true) :
    Calls Yba.prog 8 #[.pointer (some ⟨N + 5, 0, none⟩), .int .u64 n]
      ((((w.alloc (.cells oc 30)).alloc (.cells c1 32)).alloc (.cells c2 32)).alloc (.cells #[.bool t, .int .u64 s] 32)) fun e w' => e = .returned (.tuple #[]) ∧ Mid w0 N vk vb vm L ⟨n, false, t, s⟩ k w.heap.size (w.heap.size + 1 + 1 + 1) oc w' := by
  obtain ⟨p1, p2, p3⟩ := pre_call hs oc c1 c2 #[.bool t, .int .u64 s]
  have hz := hs.sz
  refine (failSync_any _ (N + 5) (N + 3) (N + 4) _ nC nF DC DF n p1.fs (by omega) (by omega) (by omega) (by unfold maxLen; omega) hwn).mono ?_
  rintro e w' ⟨rfl, f, kp⟩
  exact ⟨rfl, mid_fail p1 hg hC hF p2 p3 (by omega) (by omega) f kp⟩
end

/-- A row's value is a slice of the row's length. -/
theorem row_slice {w : World} {base : Nat} {e : TypeId} {size : Nat} {v : Value} {n : Nat} {xs : List Value} (h : w.ownsRow base e size v n xs) : ∃ a c, v = .slice a n c := by
  rcases h.2 with ⟨rfl, rfl⟩ | ⟨g, cap, cur, rfl, _⟩
  · exact ⟨_, _, rfl⟩
  · exact ⟨_, _, rfl⟩
theorem row_addr {w : World} {base : Nat} {e : TypeId} {size : Nat} {a : Option Addr} {n c : Nat} {xs : List Value} (h : w.ownsRow base e size (.slice a n c) n xs) (hn : 0 < n) : ∃ g, a = some ⟨g, 0, none⟩ ∧ n ≤ c := by
  rcases h.2 with ⟨h1, h2⟩ | ⟨g, cap, cur, h1, _, _, h3, _⟩
  · omega
  · simp at h1
    exact ⟨g, h1.1, by omega⟩
end Go.Proofs.Ybulkbkac
