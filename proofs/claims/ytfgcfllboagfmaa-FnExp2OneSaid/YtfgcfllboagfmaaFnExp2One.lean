/-
  For every word x and every int n: FnExp2One(x, n) returns true (that the unsigned bounds of 1 shifted by one value alone, less than the size of 8, 16, 32 or 64 bits, are what it is). No condition.
-/
import Derived.Test.YtfgcfllboagfmaaSpec
import Derived.Test.YtfgcfllboagfmaaExp2
import Derived.ProofKit
import Derived.OpenShut
import Derived.ChangeOld
import Derived.Lib.SmallJoins
namespace Go.Proofs.Ytfgcfllboagfmaa.lawFnExp2One
open Go.ChangeShapes Go.WideShapes Go.ChangeAt Go.RowKit
set_option linter.unusedVariables false
set_option maxHeartbeats 1000000 in
theorem walk (a0 : Int) (x0 : U64 a0) (a1 : Int) (x1 : I64 a1) (w : World) :
    Calls Try.prog 12 #[.int .u64 a0, .int .i64 a1] w fun e w' => e = .returned (.bool true) ∧ Up w w' := by
  obtain ⟨g1, g2⟩ := x0
  go_enter Try.func12, Try.ntmps12
  go_wp2_with fail
  refine (c_Bits _ _).mono ?_
  rintro e wb ⟨b, hb, rfl, rfl⟩
  have h8 : 8 ≤ b ∧ b ≤ 64 := by unfold B4 at hb; omega
  obtain ⟨h8, h9⟩ := h8
  have m1 : 0 ≤ a0 % b := Int.emod_nonneg _ (by omega)
  have m2 : a0 % b < b := Int.emod_lt_of_pos _ (by omega)
  have mu : U64 (a0 % b) := ⟨m1, by omega⟩
  have e0 : exp2L b ⟨sg 64 (a0 % b), sg 64 (a0 % b), us 64 (a0 % b), us 64 (a0 % b)⟩ = ⟨-9223372036854775808, 9223372036854775807, p2 (a0 % b), p2 (a0 % b)⟩ := by
    rw [us64 mu]
    unfold exp2L
    rw [if_pos (by dsimp only; omega)]
  have hz : (b == 0) = false := by rw [beq_eq_false_iff_ne]; omega
  have E0 := Lib.hid e0
  clear e0
  have H := Lib.hid hb
  clear hb
  go_wp2_with fail
  refine (c_One _ _ _ b64 mu).mono ?_
  rintro e w1 ⟨rfl, h1⟩
  go_wp2_with fail
  refine (c_Exp2 _ _ _ _ _ _ (us_U64 b64) (us_U64 b64)).mono ?_
  rintro e w2 ⟨rfl, h2⟩
  rw [E0.out]
  have ep : p2 (a0 % b) = IntKind.u64.wrap (2 ^ (a0 % b).toNat) := by unfold p2; rw [Nat.min_eq_left (by omega)]
  go_wp2_with fail
  go_ret
  refine ⟨rfl, ?_⟩
  (repeat (first | exact Up.refl _ | assumption | refine Up.setCell ?_ (by first | omega | (dsimp only; omega) | simp) _ | refine Up.alloc ?_ _ | refine Up.drew ?_ | refine Up.trans ?_ (by assumption)))

theorem own : ownKnob Try.prog.godebug = none := by kernel_rfl
theorem laidOut : laidOutB Try.prog = true := by kernel_rfl
set_option maxRecDepth 100000 in
theorem lifted (os : Os) (started : os.Started) (H : Type) (enc : TypeId × Value → H) :
    ReturnsInHanded {} Try.checked os 12 .any (Rows.fnExp2OneSpec.pre6 enc Try.prog Try.f12 Rows.fnExp2OneRow.domain false) (Rows.fnExp2OneSpec.post enc Try.prog Try.f12 false true false false) := by
  refine returnsInHanded_of_change (C := Try.checked) own started (by kernel_rfl) Try.func12
    (ChangeSpec.witness6 (enc := enc) (C := Try.checked) false ⟨#[], #[.int .u64 0, .int .i64 0], []⟩ 8 (by kernel_rfl) (by kernel_rfl) (by kernel_rfl) (by kernel_rfl)) ?_
  intro W base args ds gs before hval0 hW hcnd _
  have hval : ∀ (j : Nat) t v, Try.f12.params[j]? = some t → args[j]? = some v → Value.okWide Try.prog W .any base t v := hval0
  have hW' := hW
  obtain ⟨p, q, hA0, hV, rfl, hfz, hnd⟩ := hW
  have hA : DataW.TrodAll enc Try.prog W 0 (fun _ => true) true Try.f12.params.toList args.toList ds p := hA0
  rw [Try.params12] at hA hval
  obtain ⟨v0, vs0, d0, ds0, p0, q0, hargs, rfl, rfl, h0, r0⟩ := trodAll_cons hA
  obtain ⟨v1, vs1, d1, ds1, p1, q1, rfl, rfl, rfl, h1, r1⟩ := trodAll_cons r0
  obtain ⟨rfl, rfl, rfl⟩ := trodAll_nil r1
  obtain rfl : args = #[v0, v1] := by cases args; simp_all
  obtain ⟨rfl, rfl⟩ := trodVars_none hV
  obtain ⟨a0, rfl, rfl, rfl, z0⟩ := open_int Try.underlying22 (hval 0 22 v0 rfl rfl) h0
  have x0 := bounds_u64 z0
  obtain ⟨a1, rfl, rfl, rfl, z1⟩ := open_int Try.underlying3 (hval 1 3 v1 rfl rfl) h1
  have x1 := bounds_i64 z1
  clear hA0 hval0
  refine (walk a0 x0 a1 x1 W).mono fun e W' ⟨he, bel⟩ => ?_
  subst he
  exact ⟨_, rfl, _, _, _, [], _, [], hW', trodAll_mk1 (shut_bool Try.underlying4 _), (trodAll_cons_mk (shut_int Try.underlying22 z0) (trodAll_cons_mk (shut_int Try.underlying3 z1) trodAll_mk0)), rfl, Below.frame bel _, fun h => by cases h⟩

theorem over : Rows.fnExp2OneRow.holds Try.pinned (OpenSpec.ofChange Rows.fnExp2OneSpec) :=
  OpenClaim.holds_of_wide 12 Try.f12 rfl rfl rfl rfl rfl rfl rfl ⟨rfl, rfl, rfl, rfl, rfl⟩ rfl rfl rfl rfl rfl (by kernel_rfl) Try.func12 (by kernel_rfl)
    (of_decide_eq_true (by kernel_rfl)) (by unfold Func.isWrapper; first | (rw [if_pos (by decide +kernel)]; kernel_rfl) | (rw [if_neg (by decide +kernel)]; exact ⟨rfl, rfl⟩))
    (fun os started H enc _ => lifted os started H enc)

/-- The statement. -/
theorem proved : Rows.FnExp2OneSaid := over
#print axioms proved
end Go.Proofs.Ytfgcfllboagfmaa.lawFnExp2One
