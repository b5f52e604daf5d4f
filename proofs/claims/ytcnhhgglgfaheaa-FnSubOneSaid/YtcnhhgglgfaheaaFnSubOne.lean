/-
  For all words x, y and every int n: FnSubOne(x, y, n) returns true (that the difference of the limits of one value of 8, 16, 32 or 64 bits each is that of their difference, if neither the signed nor the unsigned one goes round). No condition.
-/
import Derived.Test.YtcnhhgglgfaheaaAddw
import Derived.Test.YtcnhhgglgfaheaaSub
import Derived.Test.YtcnhhgglgfaheaaPlainDif
import Derived.ProofKit
import Derived.OpenShut
import Derived.ChangeOld
import Derived.Lib.SmallJoins
namespace Go.Proofs.Ytcnhhgglgfaheaa.lawFnSubOne
open Go.ChangeShapes Go.WideShapes Go.ChangeAt Go.RowKit
set_option linter.unusedVariables false
set_option maxHeartbeats 1000000 in
theorem walk (a0 : Int) (x0 : U64 a0) (a1 : Int) (x1 : U64 a1) (a2 : Int) (x2 : I64 a2) (w : World) :
    Calls Try.prog 9 #[.int .u64 a0, .int .u64 a1, .int .i64 a2] w fun e w' => e = .returned (.bool true) ∧ Up w w' := by
  go_enter Try.func9, Try.ntmps9
  go_wp2_with fail
  refine (c_Bits _ _).mono ?_
  rintro e wb ⟨b, hb, rfl, rfl⟩
  have e0 : dfB b (sg b a0) (sg b a1) = true → us b a1 ≤ us b a0 → subL b ⟨sg b a0, sg b a0, us b a0, us b a0⟩ ⟨sg b a1, sg b a1, us b a1, us b a1⟩ = ⟨sg b (IntKind.u64.wrap (a0 - a1)), sg b (IntKind.u64.wrap (a0 - a1)), us b (IntKind.u64.wrap (a0 - a1)), us b (IntKind.u64.wrap (a0 - a1))⟩ := sub_one hb
  have E0 := Lib.hid e0
  clear e0
  have H := Lib.hid hb
  clear hb
  cases hs : dfB b (sg b a0) (sg b a1)
  · go_wp2_with (first | (go_at_call 26; refine (c_Signed _ _ _ H.out (by first | exact x0 | exact x1)).mono ?_; rintro e w2 ⟨rfl, rfl⟩) | (go_at_call 25; refine (c_DifferenceFits _ _ _ _ H.out (sg_I64 H.out) (sg_I64 H.out)).mono ?_; rintro e w2 ⟨rfl, rfl⟩) | (go_at_call 19; refine (c_lmWorks _).mono ?_; rintro e w1 ⟨rfl, h1⟩; have c1 := h1.cells; have f1 := h1.frozens))
    go_ret
    refine ⟨rfl, ?_⟩
    (repeat (first | exact Up.refl _ | assumption | refine Up.setCell ?_ (by first | omega | (dsimp only; omega) | simp) _ | refine Up.alloc ?_ _ | refine Up.drew ?_ | refine Up.trans ?_ (by assumption)))
  · cases hu : decide (us b a0 < us b a1)
    · have hle : us b a1 ≤ us b a0 := by rw [decide_eq_false_iff_not] at hu; omega
      have e1 := E0.out hs hle
      have E1 := Lib.hid e1
      clear e1
      go_wp2_with (first | (go_at_call 26; refine (c_Signed _ _ _ H.out (by first | exact x0 | exact x1)).mono ?_; rintro e w2 ⟨rfl, rfl⟩) | (go_at_call 25; refine (c_DifferenceFits _ _ _ _ H.out (sg_I64 H.out) (sg_I64 H.out)).mono ?_; rintro e w2 ⟨rfl, rfl⟩) | (go_at_call 27; refine (c_Unsigned _ _ _ H.out (by first | exact x0 | exact x1)).mono ?_; rintro e w2 ⟨rfl, rfl⟩))
      refine (c_One _ _ _ H.out x0).mono ?_
      rintro e w1 ⟨rfl, h1⟩
      go_wp2_with fail
      refine (c_One _ _ _ H.out x1).mono ?_
      rintro e w2 ⟨rfl, h2⟩
      go_wp2_with fail
      refine (c_Sub _ _ _ _ _ _ _ _ _ _ H.out (sg_I64 H.out) (sg_I64 H.out) (us_U64 H.out) (us_U64 H.out) (sg_I64 H.out) (sg_I64 H.out) (us_U64 H.out) (us_U64 H.out)).mono ?_
      rintro e w3 ⟨rfl, h3⟩
      rw [E1.out]
      go_wp2_with fail
      refine (c_One _ _ _ H.out (wrap_U64 _)).mono ?_
      rintro e w4 ⟨rfl, h4⟩
      go_wp2_with fail
      go_ret
      refine ⟨rfl, ?_⟩
      (repeat (first | exact Up.refl _ | assumption | refine Up.setCell ?_ (by first | omega | (dsimp only; omega) | simp) _ | refine Up.alloc ?_ _ | refine Up.drew ?_ | refine Up.trans ?_ (by assumption)))
    · go_wp2_with (first | (go_at_call 26; refine (c_Signed _ _ _ H.out (by first | exact x0 | exact x1)).mono ?_; rintro e w2 ⟨rfl, rfl⟩) | (go_at_call 25; refine (c_DifferenceFits _ _ _ _ H.out (sg_I64 H.out) (sg_I64 H.out)).mono ?_; rintro e w2 ⟨rfl, rfl⟩) | (go_at_call 27; refine (c_Unsigned _ _ _ H.out (by first | exact x0 | exact x1)).mono ?_; rintro e w2 ⟨rfl, rfl⟩) | (go_at_call 19; refine (c_lmWorks _).mono ?_; rintro e w1 ⟨rfl, h1⟩; have c1 := h1.cells; have f1 := h1.frozens))
      go_ret
      refine ⟨rfl, ?_⟩
      (repeat (first | exact Up.refl _ | assumption | refine Up.setCell ?_ (by first | omega | (dsimp only; omega) | simp) _ | refine Up.alloc ?_ _ | refine Up.drew ?_ | refine Up.trans ?_ (by assumption)))

theorem own : ownKnob Try.prog.godebug = none := by kernel_rfl
theorem laidOut : laidOutB Try.prog = true := by kernel_rfl
set_option maxRecDepth 100000 in
theorem lifted (os : Os) (started : os.Started) (H : Type) (enc : TypeId × Value → H) :
    ReturnsInHanded {} Try.checked os 9 .any (Rows.fnSubOneSpec.pre6 enc Try.prog Try.f9 Rows.fnSubOneRow.domain false) (Rows.fnSubOneSpec.post enc Try.prog Try.f9 false true false false) := by
  refine returnsInHanded_of_change (C := Try.checked) own started (by kernel_rfl) Try.func9
    (ChangeSpec.witness6 (enc := enc) (C := Try.checked) false ⟨#[], #[.int .u64 0, .int .u64 0, .int .i64 0], []⟩ 8 (by kernel_rfl) (by kernel_rfl) (by kernel_rfl) (by kernel_rfl)) ?_
  intro W base args ds gs before hval0 hW hcnd _
  have hval : ∀ (j : Nat) t v, Try.f9.params[j]? = some t → args[j]? = some v → Value.okWide Try.prog W .any base t v := hval0
  have hW' := hW
  obtain ⟨p, q, hA0, hV, rfl, hfz, hnd⟩ := hW
  have hA : DataW.TrodAll enc Try.prog W 0 (fun _ => true) true Try.f9.params.toList args.toList ds p := hA0
  rw [Try.params9] at hA hval
  obtain ⟨v0, vs0, d0, ds0, p0, q0, hargs, rfl, rfl, h0, r0⟩ := trodAll_cons hA
  obtain ⟨v1, vs1, d1, ds1, p1, q1, rfl, rfl, rfl, h1, r1⟩ := trodAll_cons r0
  obtain ⟨v2, vs2, d2, ds2, p2, q2, rfl, rfl, rfl, h2, r2⟩ := trodAll_cons r1
  obtain ⟨rfl, rfl, rfl⟩ := trodAll_nil r2
  obtain rfl : args = #[v0, v1, v2] := by cases args; simp_all
  obtain ⟨rfl, rfl⟩ := trodVars_none hV
  obtain ⟨a0, rfl, rfl, rfl, z0⟩ := open_int Try.underlying22 (hval 0 22 v0 rfl rfl) h0
  have x0 := bounds_u64 z0
  obtain ⟨a1, rfl, rfl, rfl, z1⟩ := open_int Try.underlying22 (hval 1 22 v1 rfl rfl) h1
  have x1 := bounds_u64 z1
  obtain ⟨a2, rfl, rfl, rfl, z2⟩ := open_int Try.underlying3 (hval 2 3 v2 rfl rfl) h2
  have x2 := bounds_i64 z2
  clear hA0 hval0
  refine (walk a0 x0 a1 x1 a2 x2 W).mono fun e W' ⟨he, bel⟩ => ?_
  subst he
  exact ⟨_, rfl, _, _, _, [], _, [], hW', trodAll_mk1 (shut_bool Try.underlying4 _), (trodAll_cons_mk (shut_int Try.underlying22 z0) (trodAll_cons_mk (shut_int Try.underlying22 z1) (trodAll_cons_mk (shut_int Try.underlying3 z2) trodAll_mk0))), rfl, Below.frame bel _, fun h => by cases h⟩

theorem over : Rows.fnSubOneRow.holds Try.pinned (OpenSpec.ofChange Rows.fnSubOneSpec) :=
  OpenClaim.holds_of_wide 9 Try.f9 rfl rfl rfl rfl rfl rfl rfl ⟨rfl, rfl, rfl, rfl, rfl⟩ rfl rfl rfl rfl rfl (by kernel_rfl) Try.func9 (by kernel_rfl)
    (of_decide_eq_true (by kernel_rfl)) (by unfold Func.isWrapper; first | (rw [if_pos (by decide +kernel)]; kernel_rfl) | (rw [if_neg (by decide +kernel)]; exact ⟨rfl, rfl⟩))
    (fun os started H enc _ => lifted os started H enc)

/-- The statement. -/
theorem proved : Rows.FnSubOneSaid := over
#print axioms proved
end Go.Proofs.Ytcnhhgglgfaheaa.lawFnSubOne
