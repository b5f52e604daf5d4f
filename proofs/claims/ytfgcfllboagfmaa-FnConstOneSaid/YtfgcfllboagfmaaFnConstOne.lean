/-
  For every word x and every int n: FnConstOne(x, n) returns true (that the limit of one value alone, of 8, 16, 32 or 64 bits, has this value, and that one whose signed bounds are equal has it, too). No condition.
-/
import Derived.Test.YtfgcfllboagfmaaSpec
import Derived.Test.YtfgcfllboagfmaaConv
import Derived.ProofKit
import Derived.OpenShut
import Derived.ChangeOld
import Derived.Lib.SmallJoins
namespace Go.Proofs.Ytfgcfllboagfmaa.lawFnConstOne
open Go.ChangeShapes Go.WideShapes Go.ChangeAt Go.RowKit
set_option linter.unusedVariables false
theorem walk (a0 : Int) (x0 : U64 a0) (a1 : Int) (x1 : I64 a1) (w : World) :
    Calls Try.prog 3 #[.int .u64 a0, .int .i64 a1] w fun e w' => e = .returned (.bool true) ∧ Up w w' := by
  have k1 : ∀ s r t : Int, cvV s s r t = s := fun s r t => by simp [cvV]
  have k2 : ∀ s r t : Int, cvB s s r t = true := fun s r t => by simp [cvB]
  go_enter Try.func3, Try.ntmps3
  go_wp2_with fail
  refine (c_Bits _ _).mono ?_
  rintro e wb ⟨b, hb, rfl, rfl⟩
  have H := Lib.hid hb
  clear hb
  go_wp2_with fail
  refine (c_One _ _ _ H.out x0).mono ?_
  rintro e w1 ⟨rfl, h1⟩
  go_wp2_with fail
  refine (c_Const _ _ _ _ _).mono ?_
  rintro e w2 ⟨rfl, h2⟩
  have c2 := h2.cells
  go_wp2_with fail
  refine (c_Const _ _ _ _ _).mono ?_
  rintro e w3 ⟨rfl, g3⟩
  have h3 := h2.trans g3
  have c3 := h3.cells
  go_wp2_with fail
  go_ret
  refine ⟨rfl, ?_⟩
  (repeat (first | exact Up.refl _ | assumption | refine Up.setCell ?_ (by first | omega | (dsimp only; omega) | simp) _ | refine Up.alloc ?_ _ | refine Up.drew ?_ | refine Up.trans ?_ (by assumption)))

theorem own : ownKnob Try.prog.godebug = none := by kernel_rfl
theorem laidOut : laidOutB Try.prog = true := by kernel_rfl
set_option maxRecDepth 100000 in
theorem lifted (os : Os) (started : os.Started) (H : Type) (enc : TypeId × Value → H) :
    ReturnsInHanded {} Try.checked os 3 .any (Rows.fnConstOneSpec.pre6 enc Try.prog Try.f3 Rows.fnConstOneRow.domain false) (Rows.fnConstOneSpec.post enc Try.prog Try.f3 false true false false) := by
  refine returnsInHanded_of_change (C := Try.checked) own started (by kernel_rfl) Try.func3
    (ChangeSpec.witness6 (enc := enc) (C := Try.checked) false ⟨#[], #[.int .u64 0, .int .i64 0], []⟩ 8 (by kernel_rfl) (by kernel_rfl) (by kernel_rfl) (by kernel_rfl)) ?_
  intro W base args ds gs before hval0 hW hcnd _
  have hval : ∀ (j : Nat) t v, Try.f3.params[j]? = some t → args[j]? = some v → Value.okWide Try.prog W .any base t v := hval0
  have hW' := hW
  obtain ⟨p, q, hA0, hV, rfl, hfz, hnd⟩ := hW
  have hA : DataW.TrodAll enc Try.prog W 0 (fun _ => true) true Try.f3.params.toList args.toList ds p := hA0
  rw [Try.params3] at hA hval
  obtain ⟨v0, vs0, d0, ds0, p0, q0, hargs, rfl, rfl, h0, r0⟩ := trodAll_cons hA
  obtain ⟨v1, vs1, d1, ds1, p1, q1, rfl, rfl, rfl, h1, r1⟩ := trodAll_cons r0
  obtain ⟨rfl, rfl, rfl⟩ := trodAll_nil r1
  obtain rfl : args = #[v0, v1] := by cases args; simp_all
  obtain ⟨rfl, rfl⟩ := trodVars_none hV
  obtain ⟨a0, rfl, rfl, rfl, z0⟩ := open_int Try.underlying22 (hval 0 22 v0 rfl rfl) h0
  have x0 := bounds_u64 z0
  obtain ⟨a1, rfl, rfl, rfl, z1⟩ := open_int Try.underlying3 (hval 1 3 v1 rfl rfl) h1
  have x1 := bounds_i64 z1
  clear hA0 hval0
  refine (walk a0 x0 a1 x1 W).mono fun e W' ⟨he, bel⟩ => ?_
  subst he
  exact ⟨_, rfl, _, _, _, [], _, [], hW', trodAll_mk1 (shut_bool Try.underlying4 _), (trodAll_cons_mk (shut_int Try.underlying22 z0) (trodAll_cons_mk (shut_int Try.underlying3 z1) trodAll_mk0)), rfl, Below.frame bel _, fun h => by cases h⟩

theorem over : Rows.fnConstOneRow.holds Try.pinned (OpenSpec.ofChange Rows.fnConstOneSpec) :=
  OpenClaim.holds_of_wide 3 Try.f3 rfl rfl rfl rfl rfl rfl rfl ⟨rfl, rfl, rfl, rfl, rfl⟩ rfl rfl rfl rfl rfl (by kernel_rfl) Try.func3 (by kernel_rfl)
    (of_decide_eq_true (by kernel_rfl)) (by unfold Func.isWrapper; first | (rw [if_pos (by decide +kernel)]; kernel_rfl) | (rw [if_neg (by decide +kernel)]; exact ⟨rfl, rfl⟩))
    (fun os started H enc _ => lifted os started H enc)

/-- The statement. -/
theorem proved : Rows.FnConstOneSaid := over
#print axioms proved
end Go.Proofs.Ytfgcfllboagfmaa.lawFnConstOne
