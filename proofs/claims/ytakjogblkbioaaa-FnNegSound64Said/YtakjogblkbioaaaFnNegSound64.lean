/-
  For every limit l (any four bounds) and every word x: FnNegSound64(l, x) returns true (that the negation of a word meets the negation of all limits that the word meets). No condition.
-/
import Derived.Test.YtakjogblkbioaaaAddw
import Derived.Test.YtakjogblkbioaaaPlainNeg
import Derived.ProofKit
import Derived.OpenShut
import Derived.ChangeOld
import Derived.Lib.SmallJoins
namespace Go.Proofs.Ytakjogblkbioaaa.lawFnNegSound64
open Go.ChangeShapes Go.WideShapes Go.ChangeAt Go.RowKit
set_option linter.unusedVariables false
set_option maxHeartbeats 1000000 in
theorem walk (a00 : Int) (a01 : Int) (a02 : Int) (a03 : Int) (x00 : I64 a00) (x01 : I64 a01) (x02 : U64 a02) (x03 : U64 a03) (a1 : Int) (x1 : U64 a1) (w : World) :
    Calls Try.prog 11 #[.agg #[.int .i64 a00, .int .i64 a01, .int .u64 a02, .int .u64 a03], .int .u64 a1] w fun e w' => e = .returned (.bool true) ∧ Up w w' := by
  have ux := wrap_U64 (-a1)
  have hall := Up.refl (w.alloc (.cells #[.int .i64 a00, .int .i64 a01, .int .u64 a02, .int .u64 a03] 24))
  cases hm : mt ⟨a00, a01, a02, a03⟩ (sg 64 a1) (us 64 a1)
  · go_enter Try.func11, Try.ntmps11
    go_wp2_with (first | (go_at_call 15; refine (c_lmWorks _).mono ?_; rintro e wh ⟨rfl, hup⟩; have hall := Up.via hall hup (by (repeat (first | exact Up.refl _ | assumption | refine Up.setCell ?_ (by first | omega | (dsimp only; omega) | simp) _ | refine Up.alloc ?_ _ | refine Up.drew ?_ | refine Up.trans ?_ (by assumption)))); have hc := hall.cells; have hf := hall.frozens) | (go_at_call 20; refine (c_Meets _ _ _ _ _ _ _ b64 (by first | exact x1 | exact ux)).mono ?_; rintro e wh ⟨rfl, hup⟩; have hall := Up.via hall hup (by (repeat (first | exact Up.refl _ | assumption | refine Up.setCell ?_ (by first | omega | (dsimp only; omega) | simp) _ | refine Up.alloc ?_ _ | refine Up.drew ?_ | refine Up.trans ?_ (by assumption)))); have hc := hall.cells; have hf := hall.frozens))
    go_ret
    refine ⟨rfl, ?_⟩
    (repeat (first | exact Up.refl _ | assumption | refine Up.setCell ?_ (by first | omega | (dsimp only; omega) | simp) _ | refine Up.alloc ?_ _ | refine Up.drew ?_ | refine Up.trans ?_ (by assumption)))
  · have hs : mt ⟨(negL 64 ⟨a00, a01, a02, a03⟩).a, (negL 64 ⟨a00, a01, a02, a03⟩).b, (negL 64 ⟨a00, a01, a02, a03⟩).c, (negL 64 ⟨a00, a01, a02, a03⟩).d⟩ (sg 64 (IntKind.u64.wrap (-a1))) (us 64 (IntKind.u64.wrap (-a1))) = true := neg_sound b64 (ok_fits ⟨x00, x01, x02, x03⟩) hm
    go_enter Try.func11, Try.ntmps11
    go_wp2_with (first | (go_at_call 15; refine (c_lmWorks _).mono ?_; rintro e wh ⟨rfl, hup⟩; have hall := Up.via hall hup (by (repeat (first | exact Up.refl _ | assumption | refine Up.setCell ?_ (by first | omega | (dsimp only; omega) | simp) _ | refine Up.alloc ?_ _ | refine Up.drew ?_ | refine Up.trans ?_ (by assumption)))); have hc := hall.cells; have hf := hall.frozens) | (go_at_call 27; refine (c_Neg _ _ _ _ _ _ b64 x00 x01 x02 x03).mono ?_; rintro e wh ⟨rfl, hup⟩; have hall := Up.via hall hup (by (repeat (first | exact Up.refl _ | assumption | refine Up.setCell ?_ (by first | omega | (dsimp only; omega) | simp) _ | refine Up.alloc ?_ _ | refine Up.drew ?_ | refine Up.trans ?_ (by assumption)))); have hc := hall.cells; have hf := hall.frozens) | (go_at_call 20; refine (c_Meets _ _ _ _ _ _ _ b64 (by first | exact x1 | exact ux)).mono ?_; rintro e wh ⟨rfl, hup⟩; have hall := Up.via hall hup (by (repeat (first | exact Up.refl _ | assumption | refine Up.setCell ?_ (by first | omega | (dsimp only; omega) | simp) _ | refine Up.alloc ?_ _ | refine Up.drew ?_ | refine Up.trans ?_ (by assumption)))); have hc := hall.cells; have hf := hall.frozens))
    go_ret
    refine ⟨rfl, ?_⟩
    (repeat (first | exact Up.refl _ | assumption | refine Up.setCell ?_ (by first | omega | (dsimp only; omega) | simp) _ | refine Up.alloc ?_ _ | refine Up.drew ?_ | refine Up.trans ?_ (by assumption)))

theorem own : ownKnob Try.prog.godebug = none := by kernel_rfl
theorem laidOut : laidOutB Try.prog = true := by kernel_rfl
theorem cellsL : Try.prog.cellsOf 24 = 4 := by kernel_rfl
set_option maxRecDepth 100000 in
theorem lifted (os : Os) (started : os.Started) (H : Type) (enc : TypeId × Value → H) :
    ReturnsInHanded {} Try.checked os 11 .any (Rows.fnNegSound64Spec.pre6 enc Try.prog Try.f11 Rows.fnNegSound64Row.domain false) (Rows.fnNegSound64Spec.post enc Try.prog Try.f11 false true false false) := by
  refine returnsInHanded_of_change (C := Try.checked) own started (by kernel_rfl) Try.func11
    (ChangeSpec.witness6 (enc := enc) (C := Try.checked) false ⟨#[], #[.agg #[.int .i64 0, .int .i64 0, .int .u64 0, .int .u64 0], .int .u64 0], []⟩ 8 (by kernel_rfl) (by kernel_rfl) (by kernel_rfl) (by kernel_rfl)) ?_
  intro W base args ds gs before hval0 hW hcnd _
  have hval : ∀ (j : Nat) t v, Try.f11.params[j]? = some t → args[j]? = some v → Value.okWide Try.prog W .any base t v := hval0
  have hW' := hW
  obtain ⟨p, q, hA0, hV, rfl, hfz, hnd⟩ := hW
  have hA : DataW.TrodAll enc Try.prog W 0 (fun _ => true) true Try.f11.params.toList args.toList ds p := hA0
  rw [Try.params11] at hA hval
  obtain ⟨v0, vs0, d0, ds0, p0, q0, hargs, rfl, rfl, h0, r0⟩ := trodAll_cons hA
  obtain ⟨v1, vs1, d1, ds1, p1, q1, rfl, rfl, rfl, h1, r1⟩ := trodAll_cons r0
  obtain ⟨rfl, rfl, rfl⟩ := trodAll_nil r1
  obtain rfl : args = #[v0, v1] := by cases args; simp_all
  obtain ⟨rfl, rfl⟩ := trodVars_none hV
  have k0 := h0
  have lt0 : ∀ x ∈ p0, x.block < W.heap.size := by obtain ⟨m, hm⟩ := k0; exact DataW.trod_lt m _ _ _ hm
  obtain ⟨c00, c01, c02, c03, y00, y01, y02, y03, m0, rfl, _, _, hy00, hy01, hy02, hy03⟩ := Go.Joins.open_agg4 Try.underlying24 (by kernel_rfl) cellsL (hval 0 24 v0 rfl rfl) h0
  obtain ⟨a00, e00, _, z00⟩ := DataW.trod_int Try.underlying2 hy00
  have x00 := bounds_i64 z00
  obtain ⟨a01, e01, _, z01⟩ := DataW.trod_int Try.underlying2 hy01
  have x01 := bounds_i64 z01
  obtain ⟨a02, e02, _, z02⟩ := DataW.trod_int Try.underlying22 hy02
  have x02 := bounds_u64 z02
  obtain ⟨a03, e03, _, z03⟩ := DataW.trod_int Try.underlying22 hy03
  have x03 := bounds_u64 z03
  simp only [List.cons.injEq, and_true] at e00 e01 e02 e03
  subst e00 e01 e02 e03
  obtain ⟨a1, rfl, rfl, rfl, z1⟩ := open_int Try.underlying22 (hval 1 22 v1 rfl rfl) h1
  have x1 := bounds_u64 z1
  clear hA0 hval0
  refine (walk a00 a01 a02 a03 x00 x01 x02 x03 a1 x1 W).mono fun e W' ⟨he, bel⟩ => ?_
  subst he
  exact ⟨_, rfl, _, _, _, [], _, [], hW', trodAll_mk1 (shut_bool Try.underlying4 _), (trodAll_cons_mk (Below.trod laidOut (by kernel_rfl) (of_decide_eq_true (by kernel_rfl)) k0 bel lt0) (trodAll_cons_mk (shut_int Try.underlying22 z1) trodAll_mk0)), rfl, Below.frame bel _, fun h => by cases h⟩

theorem over : Rows.fnNegSound64Row.holds Try.pinned (OpenSpec.ofChange Rows.fnNegSound64Spec) :=
  OpenClaim.holds_of_wide 11 Try.f11 rfl rfl rfl rfl rfl rfl rfl ⟨rfl, rfl, rfl, rfl, rfl⟩ rfl rfl rfl rfl rfl (by kernel_rfl) Try.func11 (by kernel_rfl)
    (of_decide_eq_true (by kernel_rfl)) (by unfold Func.isWrapper; first | (rw [if_pos (by decide +kernel)]; kernel_rfl) | (rw [if_neg (by decide +kernel)]; exact ⟨rfl, rfl⟩))
    (fun os started H enc _ => lifted os started H enc)

/-- The statement. -/
theorem proved : Rows.FnNegSound64Said := over
#print axioms proved
end Go.Proofs.Ytakjogblkbioaaa.lawFnNegSound64
