import Derived.Test.YbulkbkbeRows
import Derived.Test.YbulkbkbeNew
import Derived.Test.YbulkbkbeSlicesWalk
import Derived.ProofKit
import Derived.OpenShut
import Derived.ShutString
import Derived.ChangeOld
import Derived.Lib.SmallJoins
namespace Go.Proofs.Ybulkbkbe
open Go.ChangeShapes Go.WideShapes Go.ChangeAt Go.RowKit

theorem own : ownKnob Yba.prog.godebug = none := by kernel_rfl
theorem laidOut : laidOutB Yba.prog = true := by kernel_rfl
theorem cells23 : Yba.prog.cellsOf 23 = 4 := by kernel_rfl

theorem slices_any (n b a0 a1 a2 a3 : Int) (w : World) :
    Calls Yba.prog 4 #[.int .i64 n, .int .i64 b, .agg #[.int .i64 a0, .int .i64 a1, .int .i64 a2, .int .i64 a3]] w fun e w' => e = .returned (.bool true) ∧ Below w.heap.size w w' := by
  by_cases h : n < 0 ∨ 4096 < n ∨ b < 0 ∨ 4096 < b
  · exact slices_out n b a0 a1 a2 a3 w h
  · obtain ⟨N, rfl⟩ := Int.eq_ofNat_of_zero_le (show 0 ≤ n by omega)
    obtain ⟨B, rfl⟩ := Int.eq_ofNat_of_zero_le (show 0 ≤ b by omega)
    exact slices_main N B a0 a1 a2 a3 w (by omega) (by omega) (fun W => new_any N B a0 a1 a2 a3 W (by omega) (by omega))

set_option maxRecDepth 100000 in
theorem slices_lifted (os : Os) (started : os.Started) (H : Type) (enc : TypeId × Value → H) :
    ReturnsInHanded {} Yba.checked os 4 .any (Rows.lawS3046CSlicesSpec.pre6 enc Yba.prog Yba.f4 Rows.lawS3046CSlicesRow.domain false) (Rows.lawS3046CSlicesSpec.post enc Yba.prog Yba.f4 false true false false) := by
  refine returnsInHanded_of_change (C := Yba.checked) own started (by kernel_rfl) Yba.func4
    (ChangeSpec.witness6 (enc := enc) (C := Yba.checked) false ⟨#[], #[.int .i64 0, .int .i64 0, .agg #[.int .i64 0, .int .i64 0, .int .i64 0, .int .i64 0]], []⟩ 8 (by kernel_rfl) (by kernel_rfl) (by kernel_rfl) (by kernel_rfl)) ?_
  intro W base args ds gs before hval0 hW hcnd _
  have hval : ∀ (j : Nat) t v, Yba.f4.params[j]? = some t → args[j]? = some v → Value.okWide Yba.prog W .any base t v := hval0
  have hW' := hW
  obtain ⟨p, q, hA0, hV, rfl, hfz, hnd⟩ := hW
  have hA : DataW.TrodAll enc Yba.prog W 0 (fun _ => true) true Yba.f4.params.toList args.toList ds p := hA0
  rw [Yba.params4] at hA hval
  obtain ⟨v0, vs0, d0, ds0, p0, q0, hargs, rfl, rfl, h0, r0⟩ := trodAll_cons hA
  obtain ⟨v1, vs1, d1, ds1, p1, q1, rfl, rfl, rfl, h1, r1⟩ := trodAll_cons r0
  obtain ⟨v2, vs2, d2, ds2, p2, q2, rfl, rfl, rfl, h2, r2⟩ := trodAll_cons r1
  obtain ⟨rfl, rfl, rfl⟩ := trodAll_nil r2
  obtain rfl : args = #[v0, v1, v2] := by cases args; simp_all
  obtain ⟨rfl, rfl⟩ := trodVars_none hV
  obtain ⟨a0, rfl, rfl, rfl, w0⟩ := open_int Yba.underlying3 (hval 0 3 v0 rfl rfl) h0
  obtain ⟨a1, rfl, rfl, rfl, w1⟩ := open_int Yba.underlying3 (hval 1 3 v1 rfl rfl) h1
  have k2 := h2
  have lt2 : ∀ x ∈ p2, x.block < W.heap.size := by obtain ⟨m, hm⟩ := k2; exact DataW.trod_lt m _ _ _ hm
  obtain ⟨b0, b1, b2, b3, rfl⟩ : ∃ b0 b1 b2 b3 : Int, v2 = .agg #[.int .i64 b0, .int .i64 b1, .int .i64 b2, .int .i64 b3] := by
    obtain ⟨c0, c1, c2, c3, y0, y1, y2, y3, m, rfl, _, _, t0, t1, t2, t3⟩ := Joins.open_agg4 Yba.underlying23 (by kernel_rfl) cells23 (hval 2 23 v2 rfl rfl) h2
    obtain ⟨b0, e0, _, _⟩ := DataW.trod_int Yba.underlying3 t0
    obtain ⟨b1, e1, _, _⟩ := DataW.trod_int Yba.underlying3 t1
    obtain ⟨b2, e2, _, _⟩ := DataW.trod_int Yba.underlying3 t2
    obtain ⟨b3, e3, _, _⟩ := DataW.trod_int Yba.underlying3 t3
    simp at e0 e1 e2 e3
    subst e0 e1 e2 e3
    exact ⟨b0, b1, b2, b3, rfl⟩
  clear hA0 hval0
  refine (slices_any a0 a1 b0 b1 b2 b3 W).mono fun e W' ⟨he, bel⟩ => ?_
  subst he
  exact ⟨_, rfl, _, _, _, [], _, [], hW', trodAll_mk1 (shut_bool Yba.underlying4 _), (trodAll_cons_mk (shut_int Yba.underlying3 w0) (trodAll_cons_mk (shut_int Yba.underlying3 w1) (trodAll_cons_mk (Below.trod laidOut (by kernel_rfl) (of_decide_eq_true (by kernel_rfl)) k2 bel lt2) trodAll_mk0))), rfl, bel.frame _, fun h => by cases h⟩

theorem slices_proved : Rows.LawS3046CSlicesSaid :=
  OpenClaim.holds_of_wide 4 Yba.f4 rfl rfl rfl rfl rfl rfl rfl ⟨rfl, rfl, rfl, rfl, rfl⟩ rfl rfl rfl rfl rfl (by kernel_rfl) Yba.func4 (by kernel_rfl)
    (of_decide_eq_true (by kernel_rfl)) (by unfold Func.isWrapper; first | (rw [if_pos (by decide +kernel)]; kernel_rfl) | (rw [if_neg (by decide +kernel)]; exact ⟨rfl, rfl⟩))
    (fun os started H enc _ => slices_lifted os started H enc)
#print axioms slices_proved
end Go.Proofs.Ybulkbkbe
