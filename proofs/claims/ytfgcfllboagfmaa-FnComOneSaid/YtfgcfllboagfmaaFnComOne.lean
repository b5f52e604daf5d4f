/-
  For every word x and every int n: FnComOne(x, n) returns true (that the complement of the limit of one value of 8, 16, 32 or 64 bits is that of its complement). No condition.
-/
import Derived.Test.YtfgcfllboagfmaaSpec
import Derived.Test.YtfgcfllboagfmaaPlainCom
import Derived.ProofKit
import Derived.OpenShut
import Derived.ChangeOld
import Derived.Lib.SmallJoins
namespace Go.Proofs.Ytfgcfllboagfmaa.lawFnComOne
open Go.ChangeShapes Go.WideShapes Go.ChangeAt Go.RowKit
set_option linter.unusedVariables false
set_option maxHeartbeats 1000000 in
theorem walk (a0 : Int) (x0 : U64 a0) (a1 : Int) (x1 : I64 a1) (w : World) :
    Calls Try.prog 13 #[.int .u64 a0, .int .i64 a1] w fun e w' => e = .returned (.bool true) ∧ Up w w' := by
  have ex := xor_top x0
  have ux := com_U64 x0
  go_enter Try.func13, Try.ntmps13
  go_wp2_with fail
  refine (c_Bits _ _).mono ?_
  rintro e wb ⟨b, hb, rfl, rfl⟩
  have e0 := com_one (x := a0) hb
  have E0 := Lib.hid e0
  clear e0
  have H := Lib.hid hb
  clear hb
  go_wp2_with fail
  refine (c_One _ _ _ H.out x0).mono ?_
  rintro e w1 ⟨rfl, h1⟩
  go_wp2_with fail
  refine (c_Com _ _ _ _ _ _ H.out (sg_I64 H.out) (sg_I64 H.out) (us_U64 H.out) (us_U64 H.out)).mono ?_
  rintro e w2 ⟨rfl, h2⟩
  rw [E0.out]
  go_wp2_with fail
  refine (c_One _ _ _ H.out ux).mono ?_
  rintro e w3 ⟨rfl, h3⟩
  go_wp2_with fail
  go_ret
  refine ⟨rfl, ?_⟩
  (repeat (first | exact Up.refl _ | assumption | refine Up.setCell ?_ (by first | omega | (dsimp only; omega) | simp) _ | refine Up.alloc ?_ _ | refine Up.drew ?_ | refine Up.trans ?_ (by assumption)))

theorem own : ownKnob Try.prog.godebug = none := by kernel_rfl
theorem laidOut : laidOutB Try.prog = true := by kernel_rfl
set_option maxRecDepth 100000 in
theorem lifted (os : Os) (started : os.Started) (H : Type) (enc : TypeId × Value → H) :
    ReturnsInHanded {} Try.checked os 13 .any (Rows.fnComOneSpec.pre6 enc Try.prog Try.f13 Rows.fnComOneRow.domain false) (Rows.fnComOneSpec.post enc Try.prog Try.f13 false true false false) := by
  refine returnsInHanded_of_change (C := Try.checked) own started (by kernel_rfl) Try.func13
    (ChangeSpec.witness6 (enc := enc) (C := Try.checked) false ⟨#[], #[.int .u64 0, .int .i64 0], []⟩ 8 (by kernel_rfl) (by kernel_rfl) (by kernel_rfl) (by kernel_rfl)) ?_
  intro W base args ds gs before hval0 hW hcnd _
  have hval : ∀ (j : Nat) t v, Try.f13.params[j]? = some t → args[j]? = some v → Value.okWide Try.prog W .any base t v := hval0
  have hW' := hW
  obtain ⟨p, q, hA0, hV, rfl, hfz, hnd⟩ := hW
  have hA : DataW.TrodAll enc Try.prog W 0 (fun _ => true) true Try.f13.params.toList args.toList ds p := hA0
  rw [Try.params13] at hA hval
  obtain ⟨v0, vs0, d0, ds0, p0, q0, hargs, rfl, rfl, h0, r0⟩ := trodAll_cons hA
  obtain ⟨v1, vs1, d1, ds1, p1, q1, rfl, rfl, rfl, h1, r1⟩ := trodAll_cons r0
  obtain ⟨rfl, rfl, rfl⟩ := trodAll_nil r1
  obtain rfl : args = #[v0, v1] := by cases args; simp_all
  obtain ⟨rfl, rfl⟩ := trodVars_none hV
  obtain ⟨a0, rfl, rfl, rfl, z0⟩ := open_int Try.underlying22 (hval 0 22 v0 rfl rfl) h0
  have x0 := bounds_u64 z0
  obtain ⟨a1, rfl, rfl, rfl, z1⟩ := open_int Try.underlying3 (hval 1 3 v1 rfl rfl) h1
  have x1 := bounds_i64 z1
  clear hA0 hval0
  refine (walk a0 x0 a1 x1 W).mono fun e W' ⟨he, bel⟩ => ?_
  subst he
  exact ⟨_, rfl, _, _, _, [], _, [], hW', trodAll_mk1 (shut_bool Try.underlying4 _), (trodAll_cons_mk (shut_int Try.underlying22 z0) (trodAll_cons_mk (shut_int Try.underlying3 z1) trodAll_mk0)), rfl, Below.frame bel _, fun h => by cases h⟩

theorem over : Rows.fnComOneRow.holds Try.pinned (OpenSpec.ofChange Rows.fnComOneSpec) :=
  OpenClaim.holds_of_wide 13 Try.f13 rfl rfl rfl rfl rfl rfl rfl ⟨rfl, rfl, rfl, rfl, rfl⟩ rfl rfl rfl rfl rfl (by kernel_rfl) Try.func13 (by kernel_rfl)
    (of_decide_eq_true (by kernel_rfl)) (by unfold Func.isWrapper; first | (rw [if_pos (by decide +kernel)]; kernel_rfl) | (rw [if_neg (by decide +kernel)]; exact ⟨rfl, rfl⟩))
    (fun os started H enc _ => lifted os started H enc)

/-- The statement. -/
theorem proved : Rows.FnComOneSaid := over
#print axioms proved
end Go.Proofs.Ytfgcfllboagfmaa.lawFnComOne
