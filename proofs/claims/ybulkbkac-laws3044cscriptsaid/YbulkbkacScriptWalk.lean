import Derived.Test.YbulkbkacLook
import Derived.Deep.RegionHeld3
import Derived.WalkSmall
import Derived.Sort.AtCall
import Derived.BigQuiet
import Derived.Deep.QuietTactic
namespace Go.Proofs.Ybulkbkac
open Go.RowKit Go.Maps

theorem at_start {w0 w1 : World} (h : FsAt w1 (w0.heap.size + 5) (w0.heap.size + 3) (w0.heap.size + 4) (.pointer (some ⟨w0.heap.size + 2, 0, none⟩)) 0 0 (.map []) (.map []) ∧ RootAt w1 w0.heap.size ∧ Below w0.heap.size w0 w1 ∧ w1.heap.size = w0.heap.size + 6) :
    At w0 w0.heap.size (.slice none 0 0) (.slice none 0 0) (.slice none 0 0) 0 w1 :=
  ⟨[], 0, 0, .map [], .map [], ⟨World.ownsRow_nil _ _ _ _, World.ownsRow_nil _ _ _ _, World.ownsRow_nil _ _ _ _, h.1, h.2.1, h.2.2.1, by have := h.2.2.2; omega⟩, good_nil, Nat.le_refl _, Nat.le_refl _, Nat.le_refl _, fun e he => by cases he⟩

/-- What the law's argument holds. -/
def Ops (w : World) (b off len : Nat) : Prop :=
  ∀ i, i < len → ∃ (op n : Int) (t : Bool) (s : Int), w.cell? ⟨b, off + i * 4, none⟩ = some (.int .u8 op) ∧ w.cell? ⟨b, off + i * 4 + 1, none⟩ = some (.int .u64 n) ∧ w.cell? ⟨b, off + i * 4 + 2, none⟩ = some (.bool t) ∧ w.cell? ⟨b, off + i * 4 + 3, none⟩ = some (.int .u64 s) ∧
    0 ≤ op ∧ op ≤ 255 ∧ (Lit.int .u64 n).wf = true

theorem colK_get (L : List Ent) (q : Nat) (h : q < L.length) : (colK L)[q]? = some (.int .u64 L[q].key) := by
  unfold colK; rw [List.getElem?_map, List.getElem?_eq_getElem h]; rfl
theorem colB_get (L : List Ent) (q : Nat) (h : q < L.length) : (colB L)[q]? = some (.bool L[q].kind) := by
  unfold colB; rw [List.getElem?_map, List.getElem?_eq_getElem h]; rfl

theorem blk_ne {w : World} {base : Nat} {e e' : TypeId} {size size' : Nat} {g g' n n' c c' : Nat} {xs xs' : List Value} (h : w.ownsRow base e size (.slice (some ⟨g, 0, none⟩) n c) n xs) (h' : w.ownsRow base e' size' (.slice (some ⟨g', 0, none⟩) n' c') n' xs') (hne : e ≠ e') : g ≠ g' := by
  rcases row_ne h h' hne with h1 | h1
  · simp [Value.ownBlock] at h1
  · simpa [Value.ownBlock] using h1
theorem blk_ne' {w : World} {base : Nat} {e t : TypeId} {size : Nat} {g b n c : Nat} {xs : List Value} {cs : Array Value} {fz : Nat × Nat} (h : w.ownsRow base e size (.slice (some ⟨g, 0, none⟩) n c) n xs) (hb : w.heap[b]? = some (.cells cs t fz)) (hne : e ≠ t) : g ≠ b := fun e1 => by
  obtain ⟨c1, fz1, hc⟩ := Lib.ownsRow_kind h g rfl
  rw [e1, hb] at hc
  simp at hc
  exact hne hc.2.1.symm
theorem next_not {L : List Ent} {n : Int} {q : Nat} (h : ∀ i (h : i < L.length), i < q → L[i].key ≠ n) {hq : q < L.length} (h1 : ¬ L[q].key = n) : ∀ i (h : i < L.length), i < q + 1 → L[i].key ≠ n := fun i hi hlt => by
  by_cases e : i = q
  · subst e; exact h1
  · exact h i hi (by omega)

theorem up1 {m m' : Nat} (h : m' = m + 1) : Value.int .i64 ((m : Int) + 1) = .int .i64 (m' : Int) := by rw [h]; go_num
theorem up0 {m m' : Nat} (h : m' = m + 0) : Value.int .i64 (m : Int) = .int .i64 (m' : Int) := by rw [h]; rfl

theorem info28 : (Yba.prog.info? 28).map (fun i => (i.zero, i.size, i.bytes)) = some (some (.int .u64 0), 1, 8) := by kernel_rfl
theorem info4 : (Yba.prog.info? 4).map (fun i => (i.zero, i.size, i.bytes)) = some (some (.bool false), 1, 1) := by kernel_rfl
theorem info32 : (Yba.prog.info? 32).map (fun i => (i.zero, i.size, i.bytes)) = some (some (.agg #[.bool false, .int .u64 0]), 2, 16) := by kernel_rfl

set_option maxRecDepth 100000 in
set_option maxHeartbeats 1000000 in
theorem script_long (a : Option Addr) (len cap : Nat) (w : World) (hl : 1024 < (len : Int)) :
    Calls Yba.prog 3 #[.slice a len cap] w fun e w' => e = .returned (.bool true) ∧ Below w.heap.size w w' := by
  go_enter Yba.func3, Yba.ntmps3
  go_wp2
  go_ret
  exact ⟨rfl, Below.refl _ _⟩

set_option maxRecDepth 100000 in
set_option maxHeartbeats 8000000 in
theorem script_main (a : Option Addr) (b off len cap : Nat) (w : World) (ha : 0 < len → a = some ⟨b, off, none⟩) (hl : (len : Int) ≤ 1024) (ho : Ops w b off len) :
    Calls Yba.prog 3 #[.slice a len cap] w fun e w' => e = .returned (.bool true) ∧ Below w.heap.size w w' := by
  obtain ⟨i28, hi28, hz28, hs28, hb28⟩ := info_parts info28
  obtain ⟨i4, hi4, hz4, hs4, hb4⟩ := info_parts info4
  obtain ⟨i32, hi32, hz32, hs32, hb32⟩ := info_parts info32
  have HO := hide ho
  have HA := hide ha
  have I28 := hide (And.intro hi28 (And.intro hz28 (And.intro hs28 hb28)))
  have I4 := hide (And.intro hi4 (And.intro hz4 (And.intro hs4 hb4)))
  have I32 := hide (And.intro hi32 (And.intro hz32 (And.intro hs32 hb32)))
  clear ho ha hi28 hz28 hs28 hb28 hi4 hz4 hs4 hb4 hi32 hz32 hs32 hb32
  go_enter Yba.func3, Yba.ntmps3
  go_wp2_with (go_at_call 5; refine (new_any w).mono ?_; rintro e w1 ⟨rfl, h1⟩; have H1 := hide (at_start h1); clear h1)
  go_loopw [4, 5, 6, 7] (fun vk vb vm i wr => ∃ k : Nat, k ≤ len ∧ i = .int .i64 k ∧ Hid (At w w.heap.size vk vb vm k wr)) (fun _ _ _ i _ => 2000 - (intOf i).toNat)
  case atStart => exact ⟨0, by omega, rfl, H1⟩
  case round =>
    obtain ⟨k, hk, rfl, hat⟩ := hrel
    by_cases hlt : (k : Int) < (len : Int)
    · obtain ⟨L, nC, nF, DC, DF, hst, hgood, hLk, hCk, hFk, hwf⟩ := unhide hat
      obtain rfl : a = some ⟨b, off, none⟩ := unhide HA (by omega)
      obtain ⟨op, n, t, s, e0, e1, e2, e3, op0, op1, hwn⟩ := unhide HO k (by omega)
      have hbN : b < w.heap.size := (by
        rcases Nat.lt_or_ge b w.heap.size with h' | h'
        · exact h'
        · simp [World.cell?, Array.getElem?_eq_none h'] at e0)
      have d0 : wr.cell? ⟨b, off + k * 4, none⟩ = some (.int .u8 op) := by rw [hst.bel.cell hbN]; exact e0
      have d1 : wr.cell? ⟨b, off + k * 4 + 1, none⟩ = some (.int .u64 n) := by rw [hst.bel.cell hbN]; exact e1
      have d2 : wr.cell? ⟨b, off + k * 4 + 2, none⟩ = some (.bool t) := by rw [hst.bel.cell hbN]; exact e2
      have d3 : wr.cell? ⟨b, off + k * 4 + 3, none⟩ = some (.int .u64 s) := by rw [hst.bel.cell hbN]; exact e3
      clear e0 e1 e2 e3
      obtain ⟨ak, ck, rfl⟩ := row_slice hst.rk
      obtain ⟨ab, cb, rfl⟩ := row_slice hst.rb
      obtain ⟨am, cm, rfl⟩ := row_slice hst.rm
      have HS := hide hst; have HG := hide hgood; have HWF := hide hwf
      clear hst hgood hwf hat
      have hb : w.heap.size + 6 ≤ wr.heap.size := (unhide HS).sz
      obtain ⟨wo, hwo⟩ : ∃ wo : World, wo = wr := ⟨_, rfl⟩
      subst hwo
      obtain ⟨kd, hkd⟩ : ∃ kd, (op % 2 == 0) = kd := ⟨_, rfl⟩
      cases kd
      · go_wp2_with (first
          | (go_at_call 6; refine (mode_any t s _).mono ?_; rintro e w' ⟨rfl, c1, c2, rfl⟩)
          | (go_at_call 8; refine (fail_step (unhide HS) (unhide HG) hCk hFk (by omega) _ c1 c2 n t (seedOf t s) hwn).mono ?_; rintro e w4 ⟨rfl, hm⟩; have HM := hide hm; clear hm))
        clear d0 d1 d2 d3 HS HG
        go_loopw [11] (fun j wq => ∃ q : Nat, q ≤ L.length ∧ j = .int .i64 q ∧ Hid (∀ i (h : i < L.length), i < q → L[i].key ≠ n) ∧ Hid (Mid w w.heap.size (.slice ak L.length ck) (.slice ab L.length cb) (.slice am L.length cm) L ⟨n, false, t, seedOf t s⟩ k wo.heap.size (wo.heap.size + 1 + 1 + 1) #[.int .u8 op, .int .u64 n, .bool t, .int .u64 s] wq)) (fun j _ => 2000 - (intOf j).toNat)
        case atStart => exact ⟨0, Nat.zero_le _, rfl, fun i h h0 => absurd h0 (Nat.not_lt_zero _), HM⟩
        case round =>
          obtain ⟨q, hq, rfl, HN, HQ⟩ := hrel
          clear HM
          obtain ⟨nC2, nF2, DC2, DF2, hst2, hnx, hC2, hF2, hob, hmb⟩ := unhide HQ
          have o1 : wr.cell? ⟨wo.heap.size, 1, none⟩ = some (.int .u64 n) := cell_of hob 1
          have m0 : wr.cell? ⟨wo.heap.size + 1 + 1 + 1, 0, none⟩ = some (.bool t) := cell_of hmb 0
          have m1 : wr.cell? ⟨wo.heap.size + 1 + 1 + 1, 1, none⟩ = some (.int .u64 (seedOf t s)) := cell_of hmb 1
          clear hob
          by_cases hql : (q : Int) < (L.length : Int)
          · have hql' : q < L.length := by omega
            obtain ⟨gk, rfl, hck⟩ := row_addr hst2.rk (by omega)
            have kq : wr.cell? ⟨gk, q, none⟩ = some (.int .u64 L[q].key) := by
              rw [hst2.rk.cellAt q (by omega)]; exact colK_get L q hql'
            by_cases hkey : L[q].key = n
            · have hkey' : (L[q].key != n) = false := by simp [hkey]
              have HKE := hide hkey
              clear hkey
              obtain ⟨gb, rfl, hcb⟩ := row_addr hst2.rb (by omega)
              obtain ⟨gm, rfl, hcm⟩ := row_addr hst2.rm (by omega)
              have bq : wr.cell? ⟨gb, q, none⟩ = some (.bool L[q].kind) := by
                rw [hst2.rb.cellAt q (by omega)]; exact colB_get L q hql'
              have mq0 : wr.cell? ⟨gm, q * 2, none⟩ = some (.bool L[q].tear) := by
                rw [hst2.rm.cellAt (q * 2) (by omega)]; exact colM_get0 L q hql'
              have mq1 : wr.cell? ⟨gm, q * 2 + 1, none⟩ = some (.int .u64 L[q].seed) := by
                rw [hst2.rm.cellAt (q * 2 + 1) (by omega)]; exact colM_get1 L q hql'
              have zb := hst2.rb.frozenAt q
              have zm0 := hst2.rm.frozenAt (q * 2)
              have zm1 := hst2.rm.frozenAt (q * 2 + 1)
              have hgm : gb ≠ gm := blk_ne hst2.rb hst2.rm (by decide)
              have hmg : gb ≠ wo.heap.size + 1 + 1 + 1 := blk_ne' hst2.rb hmb (by decide)
              clear hst2 hnx hmb
              go_wp2_with fail
              go_quiet (fail)
              go_wp2
              go_roundw
              case rel => exact ⟨k + 1, by omega, by go_num, mid_set' n false t (seedOf t s) q gb cb gm cm ((unhide HQ).drewN nq) hql' (unhide HKE) hLk (unhide HWF) hwn⟩
              case measure => simp [intOf]; omega
            · have hkey' : (L[q].key != n) = true := by simp [hkey]
              have HKE := hide hkey
              clear hkey hst2 hnx hmb
              go_wp2_with fail
              go_quiet (fail)
              go_wp2
              go_roundw
              case rel => exact ⟨q + 1, by omega, by go_num, next_not (unhide HN) (unhide HKE), (unhide HQ).drewN nq⟩
              case measure => simp [intOf]; omega
          · have hd : decide (q < L.length) = false := by simpa using hql
            have hq0 : L.length ≤ q := by omega
            have HQ0 := hide hq0
            have SQ := hide hst2; have NX := hide hnx; have MB := hide hmb
            clear hst2 hnx hmb hq0
            go_wp2_with fail
            go_quiet (fail)
            have hqe : ((q : Int) == (L.length : Int)) = true := by have := unhide HQ0; simp; omega
            go_wp2_with (first
              | (at_builtin; refine wpList_append_own_at _ rfl _ _ 25 rfl (w.heap.size + 6) 28 i28 (.int .u64 0) 1 8 Yba.underlying25 (unhide I28).1 (unhide I28).2.1 (unhide I28).2.2.1 (unhide I28).2.2.2 rfl (by decide) _ _ _ rfl (((unhide SQ).drewN nq).rk.alloc _) ⟨(wr.drewN nq).heap.size, 0, none⟩ 1 1 [.int .u64 n] rfl rfl (cell_one_new _ _ _) (by simp [Value.oneCell']) (by unfold maxLen; omega) (by omega) (by have := (unhide SQ).sz; simp; omega) ?_
                 intro vk5 w5 r5 g5 _ _
                 have S5 := hide (((((unhide SQ).drewN nq).alloc (.cells #[.int .u64 n] 28))).growK r5 g5)
                 have M5 := hide (blk_grow (((unhide SQ).drewN nq).alloc (.cells #[.int .u64 n] 28)).rk (heap_past _ (unhide MB)) (by decide) g5)
                 clear r5 g5)
              | (at_builtin; refine wpList_append_own_at _ rfl _ _ 26 rfl (w.heap.size + 6) 4 i4 (.bool false) 1 1 Yba.underlying26 (unhide I4).1 (unhide I4).2.1 (unhide I4).2.2.1 (unhide I4).2.2.2 rfl (by decide) _ _ _ rfl ((unhide S5).rb.alloc _) ⟨w5.heap.size, 0, none⟩ 1 1 [.bool false] rfl rfl (cell_one_new _ _ _) (by simp [Value.oneCell']) (by unfold maxLen; omega) (by omega) (by have := (unhide S5).sz; simp; omega) ?_
                 intro vb6 w6 r6 g6 _ _
                 have S6 := hide (((unhide S5).alloc (.cells #[.bool false] 4)).growB r6 g6)
                 have M6 := hide (blk_grow ((unhide S5).alloc (.cells #[.bool false] 4)).rb (heap_past _ (unhide M5)) (by decide) g6)
                 have m06 : w6.cell? ⟨wo.heap.size + 1 + 1 + 1, 0, none⟩ = some (.bool t) := cell_of (unhide M6) 0
                 have m16 : w6.cell? ⟨wo.heap.size + 1 + 1 + 1, 1, none⟩ = some (.int .u64 (seedOf t s)) := cell_of (unhide M6) 1
                 clear r6 g6)
              | (at_builtin; refine wpList_append_own_at _ rfl _ _ 27 rfl (w.heap.size + 6) 32 i32 (.agg #[.bool false, .int .u64 0]) 2 16 Yba.underlying27 (unhide I32).1 (unhide I32).2.1 (unhide I32).2.2.1 (unhide I32).2.2.2 rfl (by decide) _ _ _ rfl ((unhide S6).rm.alloc _) ⟨w6.heap.size, 0, none⟩ 1 1 [.bool t, .int .u64 (seedOf t s)] rfl rfl (cell_two_new _ _ _ _) (by simp [Value.oneCell']) (by unfold maxLen; omega) (by omega) (by have := (unhide S6).sz; simp; omega) ?_
                 intro vm7 w7 r7 g7 _ _
                 have S7 := hide (((unhide S6).alloc (.cells #[.bool t, .int .u64 (seedOf t s)] 32)).growM r7 g7)
                 clear r7 g7))
            go_roundw
            case rel => exact ⟨k + 1, by omega, by go_num, mid_append n false t (seedOf t s) (unhide S7) (unhide NX) hC2 hF2 hLk (fun i hi => unhide HN i hi (by have := unhide HQ0; omega)) (unhide HWF) hwn⟩
            case measure => simp [intOf]; omega
      · go_wp2_with (first
          | (go_at_call 6; refine (mode_any t s _).mono ?_; rintro e w' ⟨rfl, c1, c2, rfl⟩)
          | (go_at_call 7; refine (crash_step (unhide HS) (unhide HG) hCk hFk (by omega) _ c1 c2 n t (seedOf t s) hwn).mono ?_; rintro e w4 ⟨rfl, hm⟩; have HM := hide hm; clear hm))
        clear d0 d1 d2 d3 HS HG
        go_loopw [11] (fun j wq => ∃ q : Nat, q ≤ L.length ∧ j = .int .i64 q ∧ Hid (∀ i (h : i < L.length), i < q → L[i].key ≠ n) ∧ Hid (Mid w w.heap.size (.slice ak L.length ck) (.slice ab L.length cb) (.slice am L.length cm) L ⟨n, true, t, seedOf t s⟩ k wo.heap.size (wo.heap.size + 1 + 1 + 1) #[.int .u8 op, .int .u64 n, .bool t, .int .u64 s] wq)) (fun j _ => 2000 - (intOf j).toNat)
        case atStart => exact ⟨0, Nat.zero_le _, rfl, fun i h h0 => absurd h0 (Nat.not_lt_zero _), HM⟩
        case round =>
          obtain ⟨q, hq, rfl, HN, HQ⟩ := hrel
          clear HM
          obtain ⟨nC2, nF2, DC2, DF2, hst2, hnx, hC2, hF2, hob, hmb⟩ := unhide HQ
          have o1 : wr.cell? ⟨wo.heap.size, 1, none⟩ = some (.int .u64 n) := cell_of hob 1
          have m0 : wr.cell? ⟨wo.heap.size + 1 + 1 + 1, 0, none⟩ = some (.bool t) := cell_of hmb 0
          have m1 : wr.cell? ⟨wo.heap.size + 1 + 1 + 1, 1, none⟩ = some (.int .u64 (seedOf t s)) := cell_of hmb 1
          clear hob
          by_cases hql : (q : Int) < (L.length : Int)
          · have hql' : q < L.length := by omega
            obtain ⟨gk, rfl, hck⟩ := row_addr hst2.rk (by omega)
            have kq : wr.cell? ⟨gk, q, none⟩ = some (.int .u64 L[q].key) := by
              rw [hst2.rk.cellAt q (by omega)]; exact colK_get L q hql'
            by_cases hkey : L[q].key = n
            · have hkey' : (L[q].key != n) = false := by simp [hkey]
              have HKE := hide hkey
              clear hkey
              obtain ⟨gb, rfl, hcb⟩ := row_addr hst2.rb (by omega)
              obtain ⟨gm, rfl, hcm⟩ := row_addr hst2.rm (by omega)
              have bq : wr.cell? ⟨gb, q, none⟩ = some (.bool L[q].kind) := by
                rw [hst2.rb.cellAt q (by omega)]; exact colB_get L q hql'
              have mq0 : wr.cell? ⟨gm, q * 2, none⟩ = some (.bool L[q].tear) := by
                rw [hst2.rm.cellAt (q * 2) (by omega)]; exact colM_get0 L q hql'
              have mq1 : wr.cell? ⟨gm, q * 2 + 1, none⟩ = some (.int .u64 L[q].seed) := by
                rw [hst2.rm.cellAt (q * 2 + 1) (by omega)]; exact colM_get1 L q hql'
              have zb := hst2.rb.frozenAt q
              have zm0 := hst2.rm.frozenAt (q * 2)
              have zm1 := hst2.rm.frozenAt (q * 2 + 1)
              have hgm : gb ≠ gm := blk_ne hst2.rb hst2.rm (by decide)
              have hmg : gb ≠ wo.heap.size + 1 + 1 + 1 := blk_ne' hst2.rb hmb (by decide)
              clear hst2 hnx hmb
              go_wp2_with fail
              go_quiet (fail)
              go_wp2
              go_roundw
              case rel => exact ⟨k + 1, by omega, by go_num, mid_set' n true t (seedOf t s) q gb cb gm cm ((unhide HQ).drewN nq) hql' (unhide HKE) hLk (unhide HWF) hwn⟩
              case measure => simp [intOf]; omega
            · have hkey' : (L[q].key != n) = true := by simp [hkey]
              have HKE := hide hkey
              clear hkey hst2 hnx hmb
              go_wp2_with fail
              go_quiet (fail)
              go_wp2
              go_roundw
              case rel => exact ⟨q + 1, by omega, by go_num, next_not (unhide HN) (unhide HKE), (unhide HQ).drewN nq⟩
              case measure => simp [intOf]; omega
          · have hd : decide (q < L.length) = false := by simpa using hql
            have hq0 : L.length ≤ q := by omega
            have HQ0 := hide hq0
            have SQ := hide hst2; have NX := hide hnx; have MB := hide hmb
            clear hst2 hnx hmb hq0
            go_wp2_with fail
            go_quiet (fail)
            have hqe : ((q : Int) == (L.length : Int)) = true := by have := unhide HQ0; simp; omega
            go_wp2_with (first
              | (at_builtin; refine wpList_append_own_at _ rfl _ _ 25 rfl (w.heap.size + 6) 28 i28 (.int .u64 0) 1 8 Yba.underlying25 (unhide I28).1 (unhide I28).2.1 (unhide I28).2.2.1 (unhide I28).2.2.2 rfl (by decide) _ _ _ rfl (((unhide SQ).drewN nq).rk.alloc _) ⟨(wr.drewN nq).heap.size, 0, none⟩ 1 1 [.int .u64 n] rfl rfl (cell_one_new _ _ _) (by simp [Value.oneCell']) (by unfold maxLen; omega) (by omega) (by have := (unhide SQ).sz; simp; omega) ?_
                 intro vk5 w5 r5 g5 _ _
                 have S5 := hide (((((unhide SQ).drewN nq).alloc (.cells #[.int .u64 n] 28))).growK r5 g5)
                 have M5 := hide (blk_grow (((unhide SQ).drewN nq).alloc (.cells #[.int .u64 n] 28)).rk (heap_past _ (unhide MB)) (by decide) g5)
                 clear r5 g5)
              | (at_builtin; refine wpList_append_own_at _ rfl _ _ 26 rfl (w.heap.size + 6) 4 i4 (.bool false) 1 1 Yba.underlying26 (unhide I4).1 (unhide I4).2.1 (unhide I4).2.2.1 (unhide I4).2.2.2 rfl (by decide) _ _ _ rfl ((unhide S5).rb.alloc _) ⟨w5.heap.size, 0, none⟩ 1 1 [.bool true] rfl rfl (cell_one_new _ _ _) (by simp [Value.oneCell']) (by unfold maxLen; omega) (by omega) (by have := (unhide S5).sz; simp; omega) ?_
                 intro vb6 w6 r6 g6 _ _
                 have S6 := hide (((unhide S5).alloc (.cells #[.bool true] 4)).growB r6 g6)
                 have M6 := hide (blk_grow ((unhide S5).alloc (.cells #[.bool true] 4)).rb (heap_past _ (unhide M5)) (by decide) g6)
                 have m06 : w6.cell? ⟨wo.heap.size + 1 + 1 + 1, 0, none⟩ = some (.bool t) := cell_of (unhide M6) 0
                 have m16 : w6.cell? ⟨wo.heap.size + 1 + 1 + 1, 1, none⟩ = some (.int .u64 (seedOf t s)) := cell_of (unhide M6) 1
                 clear r6 g6)
              | (at_builtin; refine wpList_append_own_at _ rfl _ _ 27 rfl (w.heap.size + 6) 32 i32 (.agg #[.bool false, .int .u64 0]) 2 16 Yba.underlying27 (unhide I32).1 (unhide I32).2.1 (unhide I32).2.2.1 (unhide I32).2.2.2 rfl (by decide) _ _ _ rfl ((unhide S6).rm.alloc _) ⟨w6.heap.size, 0, none⟩ 1 1 [.bool t, .int .u64 (seedOf t s)] rfl rfl (cell_two_new _ _ _ _) (by simp [Value.oneCell']) (by unfold maxLen; omega) (by omega) (by have := (unhide S6).sz; simp; omega) ?_
                 intro vm7 w7 r7 g7 _ _
                 have S7 := hide (((unhide S6).alloc (.cells #[.bool t, .int .u64 (seedOf t s)] 32)).growM r7 g7)
                 clear r7 g7))
            go_roundw
            case rel => exact ⟨k + 1, by omega, by go_num, mid_append n true t (seedOf t s) (unhide S7) (unhide NX) hC2 hF2 hLk (fun i hi => unhide HN i hi (by have := unhide HQ0; omega)) (unhide HWF) hwn⟩
            case measure => simp [intOf]; omega

    · obtain ⟨L, nC, nF, DC, DF, hst, hgood, hLk, hCk, hFk, hwf⟩ := unhide hat
      obtain ⟨ak, ck, rfl⟩ := row_slice hst.rk
      obtain ⟨ab, cb, rfl⟩ := row_slice hst.rb
      obtain ⟨am, cm, rfl⟩ := row_slice hst.rm
      have HS := hide hst; have HG := hide hgood; have HWF := hide hwf
      clear hst hgood hwf hat
      go_wp2
      go_loopw [12, 13, 14] (fun c f j wq => ∃ q : Nat, q ≤ L.length ∧ j = .int .i64 q ∧ c = .int .i64 (nCrash (L.take q) : Nat) ∧ f = .int .i64 (nFail (L.take q) : Nat) ∧ Hid (St w w.heap.size (.slice ak L.length ck) (.slice ab L.length cb) (.slice am L.length cm) L.length L.length L.length (colK L) (colB L) (colM L) nC nF DC DF wq)) (fun _ _ j _ => 2000 - (intOf j).toNat)
      case atStart => exact ⟨0, Nat.zero_le _, rfl, rfl, rfl, HS⟩
      case round =>
        obtain ⟨q, hq, rfl, rfl, rfl, HQ⟩ := hrel
        clear HS
        have hst := unhide HQ
        have hfs := hst.fs.1
        have k2 : wr.cell? ⟨w.heap.size + 5, 2, none⟩ = some (.pointer (some ⟨w.heap.size + 2, 0, none⟩)) := cell_of hfs 2
        have k3 : wr.cell? ⟨w.heap.size + 5, 3, none⟩ = some (.int .u64 0) := cell_of hfs 3
        have k4 : wr.cell? ⟨w.heap.size + 5, 4, none⟩ = some (.int .u64 0) := cell_of hfs 4
        have k5 : wr.cell? ⟨w.heap.size + 5, 5, none⟩ = some (.map (some (w.heap.size + 3))) := cell_of hfs 5
        have k6 : wr.cell? ⟨w.heap.size + 5, 6, none⟩ = some (.map (some (w.heap.size + 4))) := cell_of hfs 6
        by_cases hql : (q : Int) < (L.length : Int)
        · have hql' : q < L.length := by omega
          have nle := nCrash_le (L.take q)
          have fle := nFail_le (L.take q)
          have tle : (L.take q).length ≤ L.length := List.length_take_le' _ _
          have NC := hide (nCrash_take L q hql')
          have NF := hide (nFail_take L q hql')
          obtain ⟨gk, rfl, hck⟩ := row_addr hst.rk (by omega)
          obtain ⟨gb, rfl, hcb⟩ := row_addr hst.rb (by omega)
          obtain ⟨gm, rfl, hcm⟩ := row_addr hst.rm (by omega)
          clear hst hfs
          by_cases hkind : L[q].kind = true
          · have HK := hide hkind
            clear hkind
            obtain ⟨ky, hky⟩ : ∃ ky, ky = L[q].key := ⟨_, rfl⟩
            obtain ⟨tr, htr⟩ : ∃ tr, tr = L[q].tear := ⟨_, rfl⟩
            obtain ⟨sd, hsd⟩ : ∃ sd, sd = L[q].seed := ⟨_, rfl⟩
            have KF : Hid (∀ W, St w w.heap.size (.slice (some ⟨gk, 0, none⟩) L.length ck) (.slice (some ⟨gb, 0, none⟩) L.length cb) (.slice (some ⟨gm, 0, none⟩) L.length cm) L.length L.length L.length (colK L) (colB L) (colM L) nC nF DC DF W → Facts w.heap.size gk gb gm q ⟨ky, true, tr, sd⟩ tr sd false W) := fun W hW => by rw [hky, htr, hsd]; exact facts_true hW (unhide HG) (unhide HWF) hql' (unhide HK)
            clear hky htr hsd
            have f0 := unhide KF wr (unhide HQ)
            go_wp2_with fail
            go_region_held3 (fun W => W.cell? ⟨w.heap.size + 5, 5, none⟩ = some (.map (some (w.heap.size + 3))) ∧ W.cell? ⟨w.heap.size + 5, 6, none⟩ = some (.map (some (w.heap.size + 4))) ∧ W.cell? ⟨gk, q, none⟩ = some (.int .u64 ky) ∧ W.cell? ⟨gb, q, none⟩ = some (.bool true) ∧ W.cell? ⟨gm, q * 2, none⟩ = some (.bool tr) ∧ W.cell? ⟨gm, q * 2 + 1, none⟩ = some (.int .u64 sd) ∧ (Instr.lookup 45 (.map (some (w.heap.size + 3))) (.int .u64 ky) true).run Yba.prog W = .ok (.tuple #[.agg #[.bool tr, .int .u64 sd], .bool true]) W ∧ (Instr.lookup 46 (.map (some (w.heap.size + 4))) (.int .u64 ky) true).run Yba.prog W = .ok (.tuple #[.bool false, .bool false]) W)
              (first | exact unhide KF _ (unhide HQ).drew | exact unhide KF _ ((unhide HQ).drew.alloc _) | exact unhide KF _ ((unhide HQ).alloc _).drew) (fail)
            all_goals
              obtain ⟨W1, hW1⟩ : ∃ x, x = (wr.alloc (.cells #[.bool tr, .int .u64 sd] 32)).drew := ⟨_, rfl⟩
              have S1 : Hid (St w w.heap.size (.slice (some ⟨gk, 0, none⟩) L.length ck) (.slice (some ⟨gb, 0, none⟩) L.length cb) (.slice (some ⟨gm, 0, none⟩) L.length cm) L.length L.length L.length (colK L) (colB L) (colM L) nC nF DC DF W1) := (by rw [hW1]; exact ((unhide HQ).alloc _).drew)
              have got0 : W1.cell? ⟨wr.heap.size, 0, none⟩ = some (.bool tr) := (by rw [hW1]; simp)
              have got1 : W1.cell? ⟨wr.heap.size, 1, none⟩ = some (.int .u64 sd) := (by rw [hW1]; simp)
              rw [← hW1]
              clear hW1
              obtain ⟨a5, a6, a7, a8, a9, a10, a11, a12⟩ := unhide KF W1 (unhide S1)
              clear f0 k5 k6
              go_wp2_with fail
              go_region_held3 (fun W => W.cell? ⟨w.heap.size + 5, 5, none⟩ = some (.map (some (w.heap.size + 3))) ∧ W.cell? ⟨w.heap.size + 5, 6, none⟩ = some (.map (some (w.heap.size + 4))) ∧ W.cell? ⟨gk, q, none⟩ = some (.int .u64 ky) ∧ W.cell? ⟨gb, q, none⟩ = some (.bool true) ∧ W.cell? ⟨gm, q * 2, none⟩ = some (.bool tr) ∧ W.cell? ⟨gm, q * 2 + 1, none⟩ = some (.int .u64 sd) ∧ (Instr.lookup 45 (.map (some (w.heap.size + 3))) (.int .u64 ky) true).run Yba.prog W = .ok (.tuple #[.agg #[.bool tr, .int .u64 sd], .bool true]) W ∧ (Instr.lookup 46 (.map (some (w.heap.size + 4))) (.int .u64 ky) true).run Yba.prog W = .ok (.tuple #[.bool false, .bool false]) W)
                (first | exact unhide KF _ (unhide S1).drew) (fail)
              go_wp2_with fail
              go_quiet (fail)
              go_wp2
              go_roundw
              case rel => exact ⟨q + 1, by omega, by go_num, up1 (by rw [unhide NC, unhide HK]; rfl), up0 (by rw [unhide NF, unhide HK]; rfl), (unhide S1).drewN _⟩
              case measure => simp [intOf]; omega
          · have hkind' : L[q].kind = false := by simpa using hkind
            have HK := hide hkind'
            clear hkind hkind'
            obtain ⟨ky, hky⟩ : ∃ ky, ky = L[q].key := ⟨_, rfl⟩
            obtain ⟨tr, htr⟩ : ∃ tr, tr = L[q].tear := ⟨_, rfl⟩
            obtain ⟨sd, hsd⟩ : ∃ sd, sd = L[q].seed := ⟨_, rfl⟩
            have KF : Hid (∀ W, St w w.heap.size (.slice (some ⟨gk, 0, none⟩) L.length ck) (.slice (some ⟨gb, 0, none⟩) L.length cb) (.slice (some ⟨gm, 0, none⟩) L.length cm) L.length L.length L.length (colK L) (colB L) (colM L) nC nF DC DF W → Facts w.heap.size gk gb gm q ⟨ky, false, tr, sd⟩ false 0 true W) := fun W hW => by rw [hky, htr, hsd]; exact facts_false hW (unhide HG) (unhide HWF) hql' (unhide HK)
            clear hky htr hsd
            go_wp2_with fail
            go_region_held3 (fun W => W.cell? ⟨w.heap.size + 5, 5, none⟩ = some (.map (some (w.heap.size + 3))) ∧ W.cell? ⟨w.heap.size + 5, 6, none⟩ = some (.map (some (w.heap.size + 4))) ∧ W.cell? ⟨gk, q, none⟩ = some (.int .u64 ky) ∧ W.cell? ⟨gb, q, none⟩ = some (.bool false) ∧ W.cell? ⟨gm, q * 2, none⟩ = some (.bool tr) ∧ W.cell? ⟨gm, q * 2 + 1, none⟩ = some (.int .u64 sd) ∧ (Instr.lookup 45 (.map (some (w.heap.size + 3))) (.int .u64 ky) true).run Yba.prog W = .ok (.tuple #[.agg #[.bool false, .int .u64 0], .bool false]) W ∧ (Instr.lookup 46 (.map (some (w.heap.size + 4))) (.int .u64 ky) true).run Yba.prog W = .ok (.tuple #[.bool true, .bool true]) W)
              (first | exact unhide KF _ (unhide HQ).drew | exact unhide KF _ ((unhide HQ).drew.alloc _) | exact unhide KF _ ((unhide HQ).alloc _).drew) (fail)
            all_goals
              obtain ⟨W1, hW1⟩ : ∃ x, x = (wr.alloc (.cells #[.bool false, .int .u64 0] 32)).drew := ⟨_, rfl⟩
              have S1 : Hid (St w w.heap.size (.slice (some ⟨gk, 0, none⟩) L.length ck) (.slice (some ⟨gb, 0, none⟩) L.length cb) (.slice (some ⟨gm, 0, none⟩) L.length cm) L.length L.length L.length (colK L) (colB L) (colM L) nC nF DC DF W1) := (by rw [hW1]; exact ((unhide HQ).alloc _).drew)
              rw [← hW1]
              clear hW1
              obtain ⟨a5, a6, a7, a8, a9, a10, a11, a12⟩ := unhide KF W1 (unhide S1)
              clear k5 k6
              go_wp2_with fail
              go_region_held3 (fun W => W.cell? ⟨w.heap.size + 5, 5, none⟩ = some (.map (some (w.heap.size + 3))) ∧ W.cell? ⟨w.heap.size + 5, 6, none⟩ = some (.map (some (w.heap.size + 4))) ∧ W.cell? ⟨gk, q, none⟩ = some (.int .u64 ky) ∧ W.cell? ⟨gb, q, none⟩ = some (.bool false) ∧ W.cell? ⟨gm, q * 2, none⟩ = some (.bool tr) ∧ W.cell? ⟨gm, q * 2 + 1, none⟩ = some (.int .u64 sd) ∧ (Instr.lookup 45 (.map (some (w.heap.size + 3))) (.int .u64 ky) true).run Yba.prog W = .ok (.tuple #[.agg #[.bool false, .int .u64 0], .bool false]) W ∧ (Instr.lookup 46 (.map (some (w.heap.size + 4))) (.int .u64 ky) true).run Yba.prog W = .ok (.tuple #[.bool true, .bool true]) W)
                (first | exact unhide KF _ (unhide S1).drew) (fail)
              go_wp2
              go_roundw
              case rel => exact ⟨q + 1, by omega, by go_num, up0 (by rw [unhide NC, unhide HK]; rfl), up1 (by rw [unhide NF, unhide HK]; rfl), (unhide S1).drew⟩
              case measure => simp [intOf]; omega
        · have ht : L.take q = L := List.take_of_length_le (by omega)
          have lC : ∀ ty, (Builtin.len_ #[45] ty #[.map (some (w.heap.size + 3))]).run Yba.prog wr = .ok (.int .i64 (nCrash L : Nat)) wr := fun ty => (by
            have := hst.fs.2.1.len Yba.underlying45 ty
            rw [(unhide HG).sizeC] at this; exact this)
          have lF : ∀ ty, (Builtin.len_ #[46] ty #[.map (some (w.heap.size + 4))]).run Yba.prog wr = .ok (.int .i64 (nFail L : Nat)) wr := fun ty => (by
            have := hst.fs.2.2.len Yba.underlying46 ty
            rw [(unhide HG).sizeF] at this; exact this)
          have l0 := len_empty hst.root.2.1
          have l1 := len_empty hst.root.2.2
          have r0 : wr.cell? ⟨w.heap.size + 2, 0, none⟩ = some (.map (some w.heap.size)) := cell_of hst.root.1 0
          have r1 : wr.cell? ⟨w.heap.size + 2, 1, none⟩ = some (.map (some (w.heap.size + 1))) := cell_of hst.root.1 1
          clear hst hfs
          go_wp2
          go_ret
          exact ⟨rfl, (unhide HQ).bel⟩
end Go.Proofs.Ybulkbkac
