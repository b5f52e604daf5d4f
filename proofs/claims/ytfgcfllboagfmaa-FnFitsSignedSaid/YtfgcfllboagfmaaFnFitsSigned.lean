/-
  For every int64 x and every int n: FnFitsSigned(x, n) returns true (that a number is told to fit in 8, 16, 32 or 64 bits exactly if it is the signed number of its own low bits). No condition.
-/
import Derived.Test.YtfgcfllboagfmaaPlainSum
import Derived.ProofKit
import Derived.OpenShut
import Derived.ChangeOld
import Derived.Lib.SmallJoins
namespace Go.Proofs.Ytfgcfllboagfmaa.lawFnFitsSigned
open Go.ChangeShapes Go.WideShapes Go.ChangeAt Go.RowKit
set_option linter.unusedVariables false
theorem walk (a0 : Int) (x0 : I64 a0) (a1 : Int) (x1 : I64 a1) (w : World) :
    Calls Try.prog 9 #[.int .i64 a0, .int .i64 a1] w fun e w' => e = .returned (.bool true) ∧ Up w w' := by
  go_enter Try.func9, Try.ntmps9
  go_wp2_with fail
  refine (c_Bits _ _).mono ?_
  rintro e wb ⟨b, hb, rfl, rfl⟩
  have h5 := fitB_5 hb
  have hq := fitB_sg (x := a0) hb
  have hw : sg b (IntKind.u64.wrap a0) = sg b a0 := sg_wrap hb
  have H := Lib.hid hb
  clear hb
  cases hf : fitB b a0
  · have hd : (sg b (IntKind.u64.wrap a0) == a0) = false := by
      rw [hw, beq_eq_false_iff_ne]
      rw [hf] at hq
      exact of_decide_eq_false hq.symm
    clear hq hw
    go_wp2_with (first | (go_at_call 28; refine (c_FitsInBits _ _ _ H.out (by first | exact x0 | exact ⟨by decide, by decide⟩)).mono ?_; rintro e w2 ⟨rfl, rfl⟩) | (go_at_call 29; refine (c_ToSigned _ _ _ H.out (wrap_U64 _)).mono ?_; rintro e w2 ⟨rfl, rfl⟩))
    go_ret
    exact ⟨rfl, Up.refl _⟩
  · have hd : (sg b (IntKind.u64.wrap a0) == a0) = true := by
      rw [hw, beq_iff_eq]
      rw [hf] at hq
      exact of_decide_eq_true hq.symm
    clear hq hw
    go_wp2_with (first | (go_at_call 28; refine (c_FitsInBits _ _ _ H.out (by first | exact x0 | exact ⟨by decide, by decide⟩)).mono ?_; rintro e w2 ⟨rfl, rfl⟩) | (go_at_call 29; refine (c_ToSigned _ _ _ H.out (wrap_U64 _)).mono ?_; rintro e w2 ⟨rfl, rfl⟩))
    go_ret
    exact ⟨rfl, Up.refl _⟩

theorem own : ownKnob Try.prog.godebug = none := by kernel_rfl
theorem laidOut : laidOutB Try.prog = true := by kernel_rfl
set_option maxRecDepth 100000 in
theorem lifted (os : Os) (started : os.Started) (H : Type) (enc : TypeId × Value → H) :
    ReturnsInHanded {} Try.checked os 9 .any (Rows.fnFitsSignedSpec.pre6 enc Try.prog Try.f9 Rows.fnFitsSignedRow.domain false) (Rows.fnFitsSignedSpec.post enc Try.prog Try.f9 false true false false) := by
  refine returnsInHanded_of_change (C := Try.checked) own started (by kernel_rfl) Try.func9
    (ChangeSpec.witness6 (enc := enc) (C := Try.checked) false ⟨#[], #[.int .i64 0, .int .i64 0], []⟩ 8 (by kernel_rfl) (by kernel_rfl) (by kernel_rfl) (by kernel_rfl)) ?_
  intro W base args ds gs before hval0 hW hcnd _
  have hval : ∀ (j : Nat) t v, Try.f9.params[j]? = some t → args[j]? = some v → Value.okWide Try.prog W .any base t v := hval0
  have hW' := hW
  obtain ⟨p, q, hA0, hV, rfl, hfz, hnd⟩ := hW
  have hA : DataW.TrodAll enc Try.prog W 0 (fun _ => true) true Try.f9.params.toList args.toList ds p := hA0
  rw [Try.params9] at hA hval
  obtain ⟨v0, vs0, d0, ds0, p0, q0, hargs, rfl, rfl, h0, r0⟩ := trodAll_cons hA
  obtain ⟨v1, vs1, d1, ds1, p1, q1, rfl, rfl, rfl, h1, r1⟩ := trodAll_cons r0
  obtain ⟨rfl, rfl, rfl⟩ := trodAll_nil r1
  obtain rfl : args = #[v0, v1] := by cases args; simp_all
  obtain ⟨rfl, rfl⟩ := trodVars_none hV
  obtain ⟨a0, rfl, rfl, rfl, z0⟩ := open_int Try.underlying2 (hval 0 2 v0 rfl rfl) h0
  have x0 := bounds_i64 z0
  obtain ⟨a1, rfl, rfl, rfl, z1⟩ := open_int Try.underlying3 (hval 1 3 v1 rfl rfl) h1
  have x1 := bounds_i64 z1
  clear hA0 hval0
  refine (walk a0 x0 a1 x1 W).mono fun e W' ⟨he, bel⟩ => ?_
  subst he
  exact ⟨_, rfl, _, _, _, [], _, [], hW', trodAll_mk1 (shut_bool Try.underlying4 _), (trodAll_cons_mk (shut_int Try.underlying2 z0) (trodAll_cons_mk (shut_int Try.underlying3 z1) trodAll_mk0)), rfl, Below.frame bel _, fun h => by cases h⟩

theorem over : Rows.fnFitsSignedRow.holds Try.pinned (OpenSpec.ofChange Rows.fnFitsSignedSpec) :=
  OpenClaim.holds_of_wide 9 Try.f9 rfl rfl rfl rfl rfl rfl rfl ⟨rfl, rfl, rfl, rfl, rfl⟩ rfl rfl rfl rfl rfl (by kernel_rfl) Try.func9 (by kernel_rfl)
    (of_decide_eq_true (by kernel_rfl)) (by unfold Func.isWrapper; first | (rw [if_pos (by decide +kernel)]; kernel_rfl) | (rw [if_neg (by decide +kernel)]; exact ⟨rfl, rfl⟩))
    (fun os started H enc _ => lifted os started H enc)

/-- The statement. -/
theorem proved : Rows.FnFitsSignedSaid := over
#print axioms proved
end Go.Proofs.Ytfgcfllboagfmaa.lawFnFitsSigned
