/-
  For every int64 x and every int n: FnToUnsignedIs(x, n) returns true (that ToUnsigned is the word of the signed number of the low 8, 16, 32 or 64 bits). No condition.
-/
import Derived.Test.YtahbafhegiljdaaSpec
import Derived.Test.YtahbafhegiljdaaConv
import Derived.ProofKit
import Derived.OpenShut
import Derived.ChangeOld
import Derived.Lib.SmallJoins
namespace Go.Proofs.Ytahbafhegiljdaa.lawFnToUnsignedIs
open Go.ChangeShapes Go.WideShapes Go.ChangeAt Go.RowKit
set_option linter.unusedVariables false
theorem walk (a0 : Int) (x0 : I64 a0) (a1 : Int) (x1 : I64 a1) (w : World) :
    Calls Try.prog 14 #[.int .i64 a0, .int .i64 a1] w fun e w' => e = .returned (.bool true) ∧ Up w w' := by
  go_enter Try.func14, Try.ntmps14
  go_wp2_with fail
  refine (c_Bits _ _).mono ?_
  rintro e w1 ⟨b, hb, rfl, rfl⟩
  have h5 := sg_5 hb
  have h6 : us 64 5 = 5 := by decide
  have hq : us 64 (sg b a0) = IntKind.u64.wrap (sg b (IntKind.u64.wrap a0)) := by rw [u64_us, u64_us, sg_mod hb]
  have hu : U64 (IntKind.u64.wrap a0) := by rw [u64_us]; exact us_U64 b64
  have H := Lib.hid hb
  clear hb
  go_wp2_with (first | (go_at_call 31; refine (c_ToUnsigned _ _ _ H.out (by first | exact x0 | exact ⟨by decide, by decide⟩)).mono ?_; rintro e w2 ⟨rfl, rfl⟩) | (go_at_call 30; refine (c_Signed _ _ _ H.out hu).mono ?_; rintro e w2 ⟨rfl, rfl⟩))
  go_ret
  exact ⟨rfl, Up.refl _⟩

theorem own : ownKnob Try.prog.godebug = none := by kernel_rfl
theorem laidOut : laidOutB Try.prog = true := by kernel_rfl
set_option maxRecDepth 100000 in
theorem lifted (os : Os) (started : os.Started) (H : Type) (enc : TypeId × Value → H) :
    ReturnsInHanded {} Try.checked os 14 .any (Rows.fnToUnsignedIsSpec.pre6 enc Try.prog Try.f14 Rows.fnToUnsignedIsRow.domain false) (Rows.fnToUnsignedIsSpec.post enc Try.prog Try.f14 false true false false) := by
  refine returnsInHanded_of_change (C := Try.checked) own started (by kernel_rfl) Try.func14
    (ChangeSpec.witness6 (enc := enc) (C := Try.checked) false ⟨#[], #[.int .i64 0, .int .i64 0], []⟩ 8 (by kernel_rfl) (by kernel_rfl) (by kernel_rfl) (by kernel_rfl)) ?_
  intro W base args ds gs before hval0 hW hcnd _
  have hval : ∀ (j : Nat) t v, Try.f14.params[j]? = some t → args[j]? = some v → Value.okWide Try.prog W .any base t v := hval0
  have hW' := hW
  obtain ⟨p, q, hA0, hV, rfl, hfz, hnd⟩ := hW
  have hA : DataW.TrodAll enc Try.prog W 0 (fun _ => true) true Try.f14.params.toList args.toList ds p := hA0
  rw [Try.params14] at hA hval
  obtain ⟨v0, vs0, d0, ds0, p0, q0, hargs, rfl, rfl, h0, r0⟩ := trodAll_cons hA
  obtain ⟨v1, vs1, d1, ds1, p1, q1, rfl, rfl, rfl, h1, r1⟩ := trodAll_cons r0
  obtain ⟨rfl, rfl, rfl⟩ := trodAll_nil r1
  obtain rfl : args = #[v0, v1] := by cases args; simp_all
  obtain ⟨rfl, rfl⟩ := trodVars_none hV
  obtain ⟨a0, rfl, rfl, rfl, z0⟩ := open_int Try.underlying2 (hval 0 2 v0 rfl rfl) h0
  have x0 := bounds_i64 z0
  obtain ⟨a1, rfl, rfl, rfl, z1⟩ := open_int Try.underlying3 (hval 1 3 v1 rfl rfl) h1
  have x1 := bounds_i64 z1
  clear hA0 hval0
  refine (walk a0 x0 a1 x1 W).mono fun e W' ⟨he, bel⟩ => ?_
  subst he
  exact ⟨_, rfl, _, _, _, [], _, [], hW', trodAll_mk1 (shut_bool Try.underlying4 _), (trodAll_cons_mk (shut_int Try.underlying2 z0) (trodAll_cons_mk (shut_int Try.underlying3 z1) trodAll_mk0)), rfl, Below.frame bel _, fun h => by cases h⟩

theorem over : Rows.fnToUnsignedIsRow.holds Try.pinned (OpenSpec.ofChange Rows.fnToUnsignedIsSpec) :=
  OpenClaim.holds_of_wide 14 Try.f14 rfl rfl rfl rfl rfl rfl rfl ⟨rfl, rfl, rfl, rfl, rfl⟩ rfl rfl rfl rfl rfl (by kernel_rfl) Try.func14 (by kernel_rfl)
    (of_decide_eq_true (by kernel_rfl)) (by unfold Func.isWrapper; first | (rw [if_pos (by decide +kernel)]; kernel_rfl) | (rw [if_neg (by decide +kernel)]; exact ⟨rfl, rfl⟩))
    (fun os started H enc _ => lifted os started H enc)

/-- The statement. -/
theorem proved : Rows.FnToUnsignedIsSaid := over
#print axioms proved
end Go.Proofs.Ytahbafhegiljdaa.lawFnToUnsignedIs
