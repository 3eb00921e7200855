import Derived.Maps.Views
namespace Go.Proofs.Ybulkbkac
open Go Go.Maps

/-- One setting of the script, as the law's three slices hold it. -/
structure Ent where
  key : Int
  kind : Bool
  tear : Bool
  seed : Int

def K (n : Int) : Lit := .int .u64 n
def mD (t : Bool) (s : Int) : DataW Unit := .agg [.lit (.bool t), .lit (.int .u64 s)]
def tD : DataW Unit := .lit (.bool true)

theorem K_key (n : Int) : WideAt.IsKeyLit (K n) := by simp [K, WideAt.IsKeyLit]
theorem K_ne {a b : Int} (h : a ≠ b) : K a ≠ K b := by simpa [K] using h

def nCrash (L : List Ent) : Nat := (L.filter (·.kind)).length
def nFail (L : List Ent) : Nat := (L.filter (fun e => !e.kind)).length

/-- What one entry says of the two maps. -/
def Holds1 (DC DF : DataW Unit) (e : Ent) : Prop :=
  if e.kind then has DC (K e.key) = true ∧ (∀ z, DC.atKey (K e.key) z = mD e.tear e.seed) ∧ has DF (K e.key) = false
  else has DC (K e.key) = false ∧ has DF (K e.key) = true ∧ ∀ z, DF.atKey (K e.key) z = tD

structure Good (L : List Ent) (DC DF : DataW Unit) : Prop where
  nodup : L.Pairwise (fun a b => a.key ≠ b.key)
  holds : ∀ e ∈ L, Holds1 DC DF e
  none : ∀ n, (∀ e ∈ L, e.key ≠ n) → has DC (K n) = false ∧ has DF (K n) = false
  sizeC : size DC = nCrash L
  sizeF : size DF = nFail L
  tidyC : Tidy DC
  tidyF : Tidy DF

theorem good_nil : Good [] (.map []) (.map []) :=
  ⟨List.Pairwise.nil, (fun e h => by cases h), fun n _ => ⟨rfl, rfl⟩, rfl, rfl, tidy_empty, tidy_empty⟩

theorem Good.perm {L L' : List Ent} {DC DF : DataW Unit} (h : Good L DC DF) (p : L.Perm L') : Good L' DC DF :=
  ⟨(p.pairwise_iff (fun {a b} (h : a.key ≠ b.key) => h.symm)).1 h.nodup, fun e he => h.holds e (p.mem_iff.2 he), fun n hn => h.none n (fun e he => hn e (p.mem_iff.1 he)),
   h.sizeC.trans (p.filter _).length_eq, h.sizeF.trans (p.filter _).length_eq, h.tidyC, h.tidyF⟩

/-- The entry that a call leaves, and the two maps behind it. -/
def putC (kind : Bool) (DC : DataW Unit) (n : Int) (t : Bool) (s : Int) : DataW Unit := if kind then DC.put (K n) (mD t s) else DC.del (K n)
def putF (kind : Bool) (DF : DataW Unit) (n : Int) : DataW Unit := if kind then DF.del (K n) else DF.put (K n) tD

theorem holds_other {DC DF : DataW Unit} {e : Ent} {n : Int} (h : Holds1 DC DF e) (hne : e.key ≠ n) (kind t : Bool) (s : Int) : Holds1 (putC kind DC n t s) (putF kind DF n) e := by
  have hk := K_ne hne
  unfold Holds1 putC putF at *
  cases kind <;> simp only [if_true, Bool.false_eq_true, if_false] at * <;> cases hek : e.kind <;> simp only [hek, if_true, Bool.false_eq_true, if_false] at h ⊢
  · exact ⟨by rw [has_del_other hk]; exact h.1, by rw [has_put_other hk]; exact h.2.1, fun z => by rw [atKey_put_other hk]; exact h.2.2 z⟩
  · exact ⟨by rw [has_del_other hk]; exact h.1, fun z => by rw [atKey_del_other hk]; exact h.2.1 z, by rw [has_put_other hk]; exact h.2.2⟩
  · exact ⟨by rw [has_put_other hk]; exact h.1, by rw [has_del_other hk]; exact h.2.1, fun z => by rw [atKey_del_other hk]; exact h.2.2 z⟩
  · exact ⟨by rw [has_put_other hk]; exact h.1, fun z => by rw [atKey_put_other hk]; exact h.2.1 z, by rw [has_del_other hk]; exact h.2.2⟩

theorem holds_self {DC DF : DataW Unit} (hC : IsMap DC) (hF : IsMap DF) (n : Int) (kind t : Bool) (s : Int) : Holds1 (putC kind DC n t s) (putF kind DF n) ⟨n, kind, t, s⟩ := by
  unfold Holds1 putC putF
  cases kind <;> simp only [if_true, Bool.false_eq_true, if_false]
  · exact ⟨has_del_same, has_put_same hF (K_key n) _, fun z => atKey_put_same hF (K_key n) _ z⟩
  · exact ⟨has_put_same hC (K_key n) _, fun z => atKey_put_same hC (K_key n) _ z, has_del_same⟩

theorem none_other {DC DF : DataW Unit} {n m : Int} (hne : m ≠ n) (kind t : Bool) (s : Int) (h : has DC (K m) = false ∧ has DF (K m) = false) :
    has (putC kind DC n t s) (K m) = false ∧ has (putF kind DF n) (K m) = false := by
  have hk := K_ne hne
  unfold putC putF
  cases kind <;> simp only [if_true, Bool.false_eq_true, if_false]
  · exact ⟨by rw [has_del_other hk]; exact h.1, by rw [has_put_other hk]; exact h.2⟩
  · exact ⟨by rw [has_put_other hk]; exact h.1, by rw [has_del_other hk]; exact h.2⟩

theorem tidy_put {DC DF : DataW Unit} (hC : Tidy DC) (hF : Tidy DF) (n : Int) (kind t : Bool) (s : Int) : Tidy (putC kind DC n t s) ∧ Tidy (putF kind DF n) := by
  unfold putC putF
  cases kind <;> simp only [if_true, Bool.false_eq_true, if_false]
  · exact ⟨hC.del _, hF.put (K_key n) _⟩
  · exact ⟨hC.put (K_key n) _, hF.del _⟩

/-- The sizes behind a call. -/
theorem size_puts {DC DF : DataW Unit} (hC : Tidy DC) (hF : Tidy DF) (n : Int) (kind t : Bool) (s : Int) :
    size (putC kind DC n t s) + (if has DC (K n) then 1 else 0) = size DC + (if kind then 1 else 0) ∧
    size (putF kind DF n) + (if has DF (K n) then 1 else 0) = size DF + (if kind then 0 else 1) := by
  unfold putC putF
  cases kind <;> simp only [if_true, Bool.false_eq_true, if_false]
  · refine ⟨size_del hC, ?_⟩
    rw [size_put hF]; split <;> omega
  · refine ⟨?_, size_del hF⟩
    rw [size_put hC]; split <;> omega

theorem nCrash_cons (e : Ent) (L : List Ent) : nCrash (e :: L) = nCrash L + (if e.kind then 1 else 0) := by
  unfold nCrash; cases h : e.kind <;> simp [h]
theorem nFail_cons (e : Ent) (L : List Ent) : nFail (e :: L) = nFail L + (if e.kind then 0 else 1) := by
  unfold nFail; cases h : e.kind <;> simp [h]

/-- A key that is new. -/
theorem Good.new {L : List Ent} {DC DF : DataW Unit} (h : Good L DC DF) (n : Int) (kind t : Bool) (s : Int) (hn : ∀ e ∈ L, e.key ≠ n) :
    Good (⟨n, kind, t, s⟩ :: L) (putC kind DC n t s) (putF kind DF n) := by
  obtain ⟨z1, z2⟩ := h.none n hn
  obtain ⟨s1, s2⟩ := size_puts h.tidyC h.tidyF n kind t s
  rw [z1] at s1
  rw [z2] at s2
  simp only [Bool.false_eq_true, if_false, Nat.add_zero] at s1 s2
  refine ⟨List.pairwise_cons.2 ⟨fun e he => (hn e he).symm, h.nodup⟩, ?_, ?_, ?_, ?_, (tidy_put h.tidyC h.tidyF n kind t s).1, (tidy_put h.tidyC h.tidyF n kind t s).2⟩
  · intro e he
    rcases List.mem_cons.1 he with rfl | he
    · exact holds_self h.tidyC.isMap h.tidyF.isMap n kind t s
    · exact holds_other (h.holds e he) (hn e he) kind t s
  · intro m hm
    have h1 : m ≠ n := fun e => hm _ (List.mem_cons_self) e.symm
    exact none_other h1 kind t s (h.none m (fun e he => hm e (List.mem_cons_of_mem _ he)))
  · rw [s1, nCrash_cons, h.sizeC]
  · rw [s2, nFail_cons, h.sizeF]

/-- A key that is there already: its entry is replaced. -/
theorem Good.again {L : List Ent} {DC DF : DataW Unit} {e0 : Ent} (h : Good (e0 :: L) DC DF) (kind t : Bool) (s : Int) :
    Good (⟨e0.key, kind, t, s⟩ :: L) (putC kind DC e0.key t s) (putF kind DF e0.key) := by
  obtain ⟨n1, n2⟩ := List.pairwise_cons.1 h.nodup
  have h0 := h.holds e0 List.mem_cons_self
  obtain ⟨s1, s2⟩ := size_puts h.tidyC h.tidyF e0.key kind t s
  have zC := h.sizeC
  have zF := h.sizeF
  rw [nCrash_cons] at zC
  rw [nFail_cons] at zF
  have hh : has DC (K e0.key) = e0.kind ∧ has DF (K e0.key) = !e0.kind := by
    unfold Holds1 at h0
    cases hk : e0.kind <;> simp only [hk, if_true, Bool.false_eq_true, if_false] at h0
    · exact ⟨h0.1, h0.2.1⟩
    · exact ⟨h0.1, h0.2.2⟩
  rw [hh.1] at s1
  rw [hh.2] at s2
  refine ⟨List.pairwise_cons.2 ⟨n1, n2⟩, ?_, ?_, ?_, ?_, (tidy_put h.tidyC h.tidyF _ kind t s).1, (tidy_put h.tidyC h.tidyF _ kind t s).2⟩
  · intro e he
    rcases List.mem_cons.1 he with rfl | he
    · exact holds_self h.tidyC.isMap h.tidyF.isMap _ kind t s
    · exact holds_other (h.holds e (List.mem_cons_of_mem _ he)) (n1 e he).symm kind t s
  · intro m hm
    have h1 : m ≠ e0.key := fun e => hm _ (List.mem_cons_self) e.symm
    refine none_other h1 kind t s (h.none m (fun e he => ?_))
    rcases List.mem_cons.1 he with rfl | he
    · exact h1.symm
    · exact hm e (List.mem_cons_of_mem _ he)
  · rw [nCrash_cons]
    cases hk : e0.kind <;> cases kind <;> simp [hk] at * <;> omega
  · rw [nFail_cons]
    cases hk : e0.kind <;> cases kind <;> simp [hk] at * <;> omega

theorem Good.append {L : List Ent} {DC DF : DataW Unit} (h : Good L DC DF) (n : Int) (kind t : Bool) (s : Int) (hn : ∀ e ∈ L, e.key ≠ n) :
    Good (L ++ [⟨n, kind, t, s⟩]) (putC kind DC n t s) (putF kind DF n) :=
  (h.new n kind t s hn).perm (List.perm_append_singleton _ _).symm

theorem set_perm (L : List Ent) (j : Nat) (hj : j < L.length) (e : Ent) : (e :: L.eraseIdx j).Perm (L.set j e) := by
  induction L generalizing j with
  | nil => simp at hj
  | cons x r ih =>
    cases j with
    | zero => simp
    | succ j =>
      simp only [List.eraseIdx_cons_succ, List.set_cons_succ]
      exact (List.Perm.swap x e _).trans ((ih j (by simpa using hj)).cons x)

theorem Good.set {L : List Ent} {DC DF : DataW Unit} (h : Good L DC DF) (j : Nat) (hj : j < L.length) (kind t : Bool) (s : Int) :
    Good (L.set j ⟨L[j].key, kind, t, s⟩) (putC kind DC L[j].key t s) (putF kind DF L[j].key) := by
  have p : (L[j] :: L.eraseIdx j).Perm L := by
    have := set_perm L j hj L[j]
    rwa [List.set_getElem_self] at this
  exact ((h.perm p.symm).again kind t s).perm (set_perm L j hj _)
end Go.Proofs.Ybulkbkac
