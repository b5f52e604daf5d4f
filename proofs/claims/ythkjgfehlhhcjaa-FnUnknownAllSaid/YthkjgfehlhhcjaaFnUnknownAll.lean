/-
  For every word x and every int n: FnUnknownAll(x, n) returns true (that sums, differences, products, complements and negations of the limits of all values of 8, 16, 32 or 64 bits are met by all). No condition.
-/
import Derived.Test.YthkjgfehlhhcjaaAddw
import Derived.Test.YthkjgfehlhhcjaaCom
import Derived.Test.YthkjgfehlhhcjaaNeg
import Derived.Test.YthkjgfehlhhcjaaSub
import Derived.Test.YthkjgfehlhhcjaaMul
import Derived.Test.YthkjgfehlhhcjaaPlainAll
import Derived.ProofKit
import Derived.OpenShut
import Derived.ChangeOld
import Derived.Lib.SmallJoins
namespace Go.Proofs.Ythkjgfehlhhcjaa.lawFnUnknownAll
open Go.ChangeShapes Go.WideShapes Go.ChangeAt Go.RowKit
set_option linter.unusedVariables false
set_option maxHeartbeats 1000000 in
theorem walk (a0 : Int) (x0 : U64 a0) (a1 : Int) (x1 : I64 a1) (w : World) :
    Calls Try.prog 3 #[.int .u64 a0, .int .i64 a1] w fun e w' => e = .returned (.bool true) ∧ Up w w' := by
  go_enter Try.func3, Try.ntmps3
  go_wp2_with fail
  refine (c_Bits _ _).mono ?_
  rintro e wb ⟨b, hb, rfl, rfl⟩
  have f1 : mt ⟨(addL b ⟨lst b, grt b, 0, top b⟩ ⟨lst b, grt b, 0, top b⟩).a, (addL b ⟨lst b, grt b, 0, top b⟩ ⟨lst b, grt b, 0, top b⟩).b, (addL b ⟨lst b, grt b, 0, top b⟩ ⟨lst b, grt b, 0, top b⟩).c, (addL b ⟨lst b, grt b, 0, top b⟩ ⟨lst b, grt b, 0, top b⟩).d⟩ (sg b a0) (us b a0) = true := all_add hb
  have f2 : mt ⟨(subL b ⟨lst b, grt b, 0, top b⟩ ⟨lst b, grt b, 0, top b⟩).a, (subL b ⟨lst b, grt b, 0, top b⟩ ⟨lst b, grt b, 0, top b⟩).b, (subL b ⟨lst b, grt b, 0, top b⟩ ⟨lst b, grt b, 0, top b⟩).c, (subL b ⟨lst b, grt b, 0, top b⟩ ⟨lst b, grt b, 0, top b⟩).d⟩ (sg b a0) (us b a0) = true := all_sub hb
  have f3 : mt ⟨(mulL b ⟨lst b, grt b, 0, top b⟩ ⟨lst b, grt b, 0, top b⟩).a, (mulL b ⟨lst b, grt b, 0, top b⟩ ⟨lst b, grt b, 0, top b⟩).b, (mulL b ⟨lst b, grt b, 0, top b⟩ ⟨lst b, grt b, 0, top b⟩).c, (mulL b ⟨lst b, grt b, 0, top b⟩ ⟨lst b, grt b, 0, top b⟩).d⟩ (sg b a0) (us b a0) = true := all_mul hb
  have f4 : mt ⟨(comL b ⟨lst b, grt b, 0, top b⟩).a, (comL b ⟨lst b, grt b, 0, top b⟩).b, (comL b ⟨lst b, grt b, 0, top b⟩).c, (comL b ⟨lst b, grt b, 0, top b⟩).d⟩ (sg b a0) (us b a0) = true := all_com hb
  have f5 : mt ⟨(negL b ⟨lst b, grt b, 0, top b⟩).a, (negL b ⟨lst b, grt b, 0, top b⟩).b, (negL b ⟨lst b, grt b, 0, top b⟩).c, (negL b ⟨lst b, grt b, 0, top b⟩).d⟩ (sg b a0) (us b a0) = true := all_neg hb
  have H := Lib.hid hb
  clear hb
  go_wp2_with fail
  refine (c_Every _ _ H.out).mono ?_
  rintro e w1 ⟨rfl, h1⟩
  go_wp2_with (first | (go_at_call 7; refine (c_lmWorks _).mono ?_; rintro e wh ⟨rfl, hall⟩; have hc := hall.cells; have hf := hall.frozens) | (go_at_call 9; refine (c_Add _ _ _ _ _ _ _ _ _ _ H.out (lst_I64 H.out) (grt_I64 H.out) ⟨by decide, by decide⟩ (top_U64 H.out) (lst_I64 H.out) (grt_I64 H.out) ⟨by decide, by decide⟩ (top_U64 H.out)).mono ?_; rintro e wh ⟨rfl, hup⟩; have hall := Up.via hall hup (by (repeat (first | exact Up.refl _ | assumption | refine Up.setCell ?_ (by first | omega | (dsimp only; omega) | simp) _ | refine Up.alloc ?_ _ | refine Up.drew ?_ | refine Up.trans ?_ (by assumption)))); have hc := hall.cells; have hf := hall.frozens) | (go_at_call 10; refine (c_Sub _ _ _ _ _ _ _ _ _ _ H.out (lst_I64 H.out) (grt_I64 H.out) ⟨by decide, by decide⟩ (top_U64 H.out) (lst_I64 H.out) (grt_I64 H.out) ⟨by decide, by decide⟩ (top_U64 H.out)).mono ?_; rintro e wh ⟨rfl, hup⟩; have hall := Up.via hall hup (by (repeat (first | exact Up.refl _ | assumption | refine Up.setCell ?_ (by first | omega | (dsimp only; omega) | simp) _ | refine Up.alloc ?_ _ | refine Up.drew ?_ | refine Up.trans ?_ (by assumption)))); have hc := hall.cells; have hf := hall.frozens) | (go_at_call 11; refine (c_Mul _ _ _ _ _ _ _ _ _ _ H.out (lst_I64 H.out) (grt_I64 H.out) ⟨by decide, by decide⟩ (top_U64 H.out) (lst_I64 H.out) (grt_I64 H.out) ⟨by decide, by decide⟩ (top_U64 H.out)).mono ?_; rintro e wh ⟨rfl, hup⟩; have hall := Up.via hall hup (by (repeat (first | exact Up.refl _ | assumption | refine Up.setCell ?_ (by first | omega | (dsimp only; omega) | simp) _ | refine Up.alloc ?_ _ | refine Up.drew ?_ | refine Up.trans ?_ (by assumption)))); have hc := hall.cells; have hf := hall.frozens) | (go_at_call 12; refine (c_Com _ _ _ _ _ _ H.out (lst_I64 H.out) (grt_I64 H.out) ⟨by decide, by decide⟩ (top_U64 H.out)).mono ?_; rintro e wh ⟨rfl, hup⟩; have hall := Up.via hall hup (by (repeat (first | exact Up.refl _ | assumption | refine Up.setCell ?_ (by first | omega | (dsimp only; omega) | simp) _ | refine Up.alloc ?_ _ | refine Up.drew ?_ | refine Up.trans ?_ (by assumption)))); have hc := hall.cells; have hf := hall.frozens) | (go_at_call 13; refine (c_Neg _ _ _ _ _ _ H.out (lst_I64 H.out) (grt_I64 H.out) ⟨by decide, by decide⟩ (top_U64 H.out)).mono ?_; rintro e wh ⟨rfl, hup⟩; have hall := Up.via hall hup (by (repeat (first | exact Up.refl _ | assumption | refine Up.setCell ?_ (by first | omega | (dsimp only; omega) | simp) _ | refine Up.alloc ?_ _ | refine Up.drew ?_ | refine Up.trans ?_ (by assumption)))); have hc := hall.cells; have hf := hall.frozens) | (go_at_call 8; refine (c_Meets _ _ _ _ _ _ _ H.out x0).mono ?_; rintro e wh ⟨rfl, hup⟩; have hall := Up.via hall hup (by (repeat (first | exact Up.refl _ | assumption | refine Up.setCell ?_ (by first | omega | (dsimp only; omega) | simp) _ | refine Up.alloc ?_ _ | refine Up.drew ?_ | refine Up.trans ?_ (by assumption)))); have hc := hall.cells; have hf := hall.frozens))
  go_ret
  refine ⟨rfl, ?_⟩
  (repeat (first | exact Up.refl _ | assumption | refine Up.setCell ?_ (by first | omega | (dsimp only; omega) | simp) _ | refine Up.alloc ?_ _ | refine Up.drew ?_ | refine Up.trans ?_ (by assumption)))

theorem own : ownKnob Try.prog.godebug = none := by kernel_rfl
theorem laidOut : laidOutB Try.prog = true := by kernel_rfl
set_option maxRecDepth 100000 in
theorem lifted (os : Os) (started : os.Started) (H : Type) (enc : TypeId × Value → H) :
    ReturnsInHanded {} Try.checked os 3 .any (Rows.fnUnknownAllSpec.pre6 enc Try.prog Try.f3 Rows.fnUnknownAllRow.domain false) (Rows.fnUnknownAllSpec.post enc Try.prog Try.f3 false true false false) := by
  refine returnsInHanded_of_change (C := Try.checked) own started (by kernel_rfl) Try.func3
    (ChangeSpec.witness6 (enc := enc) (C := Try.checked) false ⟨#[], #[.int .u64 0, .int .i64 0], []⟩ 8 (by kernel_rfl) (by kernel_rfl) (by kernel_rfl) (by kernel_rfl)) ?_
  intro W base args ds gs before hval0 hW hcnd _
  have hval : ∀ (j : Nat) t v, Try.f3.params[j]? = some t → args[j]? = some v → Value.okWide Try.prog W .any base t v := hval0
  have hW' := hW
  obtain ⟨p, q, hA0, hV, rfl, hfz, hnd⟩ := hW
  have hA : DataW.TrodAll enc Try.prog W 0 (fun _ => true) true Try.f3.params.toList args.toList ds p := hA0
  rw [Try.params3] at hA hval
  obtain ⟨v0, vs0, d0, ds0, p0, q0, hargs, rfl, rfl, h0, r0⟩ := trodAll_cons hA
  obtain ⟨v1, vs1, d1, ds1, p1, q1, rfl, rfl, rfl, h1, r1⟩ := trodAll_cons r0
  obtain ⟨rfl, rfl, rfl⟩ := trodAll_nil r1
  obtain rfl : args = #[v0, v1] := by cases args; simp_all
  obtain ⟨rfl, rfl⟩ := trodVars_none hV
  obtain ⟨a0, rfl, rfl, rfl, z0⟩ := open_int Try.underlying22 (hval 0 22 v0 rfl rfl) h0
  have x0 := bounds_u64 z0
  obtain ⟨a1, rfl, rfl, rfl, z1⟩ := open_int Try.underlying3 (hval 1 3 v1 rfl rfl) h1
  have x1 := bounds_i64 z1
  clear hA0 hval0
  refine (walk a0 x0 a1 x1 W).mono fun e W' ⟨he, bel⟩ => ?_
  subst he
  exact ⟨_, rfl, _, _, _, [], _, [], hW', trodAll_mk1 (shut_bool Try.underlying4 _), (trodAll_cons_mk (shut_int Try.underlying22 z0) (trodAll_cons_mk (shut_int Try.underlying3 z1) trodAll_mk0)), rfl, Below.frame bel _, fun h => by cases h⟩

theorem over : Rows.fnUnknownAllRow.holds Try.pinned (OpenSpec.ofChange Rows.fnUnknownAllSpec) :=
  OpenClaim.holds_of_wide 3 Try.f3 rfl rfl rfl rfl rfl rfl rfl ⟨rfl, rfl, rfl, rfl, rfl⟩ rfl rfl rfl rfl rfl (by kernel_rfl) Try.func3 (by kernel_rfl)
    (of_decide_eq_true (by kernel_rfl)) (by unfold Func.isWrapper; first | (rw [if_pos (by decide +kernel)]; kernel_rfl) | (rw [if_neg (by decide +kernel)]; exact ⟨rfl, rfl⟩))
    (fun os started H enc _ => lifted os started H enc)

/-- The statement. -/
theorem proved : Rows.FnUnknownAllSaid := over
#print axioms proved
end Go.Proofs.Ythkjgfehlhhcjaa.lawFnUnknownAll
