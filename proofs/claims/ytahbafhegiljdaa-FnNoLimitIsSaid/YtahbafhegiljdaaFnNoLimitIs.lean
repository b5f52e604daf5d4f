/-
  For every int n: FnNoLimitIs(n) returns true (that the bounds of the limit of all values of 8, 16, 32 or 64 bits are the least and the greatest numbers of this size). No condition.
-/
import Derived.Test.YtahbafhegiljdaaSpec
import Derived.Test.YtahbafhegiljdaaConv
import Derived.ProofKit
import Derived.OpenShut
import Derived.ChangeOld
import Derived.Lib.SmallJoins
namespace Go.Proofs.Ytahbafhegiljdaa.lawFnNoLimitIs
open Go.ChangeShapes Go.WideShapes Go.ChangeAt Go.RowKit
set_option linter.unusedVariables false
theorem walk (a0 : Int) (x0 : I64 a0) (w : World) :
    Calls Try.prog 6 #[.int .i64 a0] w fun e w' => e = .returned (.bool true) ∧ Up w w' := by
  go_enter Try.func6, Try.ntmps6
  go_wp2_with fail
  refine (c_Bits _ _).mono ?_
  rintro e w1 ⟨b, hb, rfl, rfl⟩
  have H := Lib.hid hb
  clear hb
  go_wp2_with (first | (go_at_call 20; refine (c_NoLimit _ _ H.out).mono ?_; rintro e w2 ⟨rfl, h2⟩; have c2 := h2.cells; have f2 := h2.frozens) | (go_at_call 17; refine (c_Top _ _ H.out).mono ?_; rintro e w3 ⟨rfl, rfl⟩) | (go_at_call 21; refine (c_Least _ _ H.out).mono ?_; rintro e w3 ⟨rfl, rfl⟩) | (go_at_call 22; refine (c_Greatest _ _ H.out).mono ?_; rintro e w3 ⟨rfl, rfl⟩))
  go_ret
  exact ⟨rfl, h2⟩

theorem own : ownKnob Try.prog.godebug = none := by kernel_rfl
theorem laidOut : laidOutB Try.prog = true := by kernel_rfl
set_option maxRecDepth 100000 in
theorem lifted (os : Os) (started : os.Started) (H : Type) (enc : TypeId × Value → H) :
    ReturnsInHanded {} Try.checked os 6 .any (Rows.fnNoLimitIsSpec.pre6 enc Try.prog Try.f6 Rows.fnNoLimitIsRow.domain false) (Rows.fnNoLimitIsSpec.post enc Try.prog Try.f6 false true false false) := by
  refine returnsInHanded_of_change (C := Try.checked) own started (by kernel_rfl) Try.func6
    (ChangeSpec.witness6 (enc := enc) (C := Try.checked) false ⟨#[], #[.int .i64 0], []⟩ 8 (by kernel_rfl) (by kernel_rfl) (by kernel_rfl) (by kernel_rfl)) ?_
  intro W base args ds gs before hval0 hW hcnd _
  have hval : ∀ (j : Nat) t v, Try.f6.params[j]? = some t → args[j]? = some v → Value.okWide Try.prog W .any base t v := hval0
  have hW' := hW
  obtain ⟨p, q, hA0, hV, rfl, hfz, hnd⟩ := hW
  have hA : DataW.TrodAll enc Try.prog W 0 (fun _ => true) true Try.f6.params.toList args.toList ds p := hA0
  rw [Try.params6] at hA hval
  obtain ⟨v0, vs0, d0, ds0, p0, q0, hargs, rfl, rfl, h0, r0⟩ := trodAll_cons hA
  obtain ⟨rfl, rfl, rfl⟩ := trodAll_nil r0
  obtain rfl : args = #[v0] := by cases args; simp_all
  obtain ⟨rfl, rfl⟩ := trodVars_none hV
  obtain ⟨a0, rfl, rfl, rfl, z0⟩ := open_int Try.underlying3 (hval 0 3 v0 rfl rfl) h0
  have x0 := bounds_i64 z0
  clear hA0 hval0
  refine (walk a0 x0 W).mono fun e W' ⟨he, bel⟩ => ?_
  subst he
  exact ⟨_, rfl, _, _, _, [], _, [], hW', trodAll_mk1 (shut_bool Try.underlying4 _), (trodAll_cons_mk (shut_int Try.underlying3 z0) trodAll_mk0), rfl, Below.frame bel _, fun h => by cases h⟩

theorem over : Rows.fnNoLimitIsRow.holds Try.pinned (OpenSpec.ofChange Rows.fnNoLimitIsSpec) :=
  OpenClaim.holds_of_wide 6 Try.f6 rfl rfl rfl rfl rfl rfl rfl ⟨rfl, rfl, rfl, rfl, rfl⟩ rfl rfl rfl rfl rfl (by kernel_rfl) Try.func6 (by kernel_rfl)
    (of_decide_eq_true (by kernel_rfl)) (by unfold Func.isWrapper; first | (rw [if_pos (by decide +kernel)]; kernel_rfl) | (rw [if_neg (by decide +kernel)]; exact ⟨rfl, rfl⟩))
    (fun os started H enc _ => lifted os started H enc)

/-- The statement. -/
theorem proved : Rows.FnNoLimitIsSaid := over
#print axioms proved
end Go.Proofs.Ytahbafhegiljdaa.lawFnNoLimitIs
