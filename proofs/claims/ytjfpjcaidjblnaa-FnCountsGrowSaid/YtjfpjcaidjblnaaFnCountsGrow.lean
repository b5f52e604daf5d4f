/-
  For all limits l, m (any bounds), every word x and every int n: FnCountsGrow(l, m, x, n) returns true (that with a wider limit the limits of the length in bits and of the number of ones are as wide at least, for limits of 8, 16, 32 or 64 bits that some value meets). No condition.
-/
import Derived.Test.YtjfpjcaidjblnaaAddw
import Derived.Test.YtjfpjcaidjblnaaPop
import Derived.Test.YtjfpjcaidjblnaaCounts
import Derived.Deep.DeepCutAuto
import Derived.ProofKit
import Derived.OpenShut
import Derived.ChangeOld
import Derived.Lib.SmallJoins
namespace Go.Proofs.Ytjfpjcaidjblnaa.lawFnCountsGrow
open Go.ChangeShapes Go.WideShapes Go.ChangeAt Go.RowKit
set_option linter.unusedVariables false
set_option maxHeartbeats 1000000 in
theorem walk (a00 : Int) (a01 : Int) (a02 : Int) (a03 : Int) (x00 : I64 a00) (x01 : I64 a01) (x02 : U64 a02) (x03 : U64 a03) (a10 : Int) (a11 : Int) (a12 : Int) (a13 : Int) (x10 : I64 a10) (x11 : I64 a11) (x12 : U64 a12) (x13 : U64 a13) (a2 : Int) (x2 : U64 a2) (a3 : Int) (x3 : I64 a3) (w : World) :
    Calls Try.prog 9 #[.agg #[.int .i64 a00, .int .i64 a01, .int .u64 a02, .int .u64 a03], .agg #[.int .i64 a10, .int .i64 a11, .int .u64 a12, .int .u64 a13], .int .u64 a2, .int .i64 a3] w fun e w' => e = .returned (.bool true) ∧ Up w w' := by
  go_enter Try.func9, Try.ntmps9
  go_wp2_with fail
  refine (c_Bits _ _).mono ?_
  rintro e wb ⟨b, hb, rfl, rfl⟩
  have H := Lib.hid hb
  clear hb
  go_upto_region 2 with (fail)
  go_cut [10, 11] (fun s0 s1 wx => ∃ B0 B1 : Nat, s0 = .pointer (some ⟨B0, 0, none⟩) ∧ s1 = .pointer (some ⟨B1, 0, none⟩) ∧ Blk wx B0 (sg b a00) (sg b a01) (us b a02) (us b a03) ∧ Blk wx B1 (sg b a10) (sg b a11) (us b a12) (us b a13) ∧ Up w wx)
  case first =>
    have hS0 := two_boxes w 24 a00 a01 a02 a03 a10 a11 a12 a13
    have HS0 := Lib.hid hS0
    clear hS0
    go_region_held3 (fun w' => w'.cell? ⟨w.heap.size, 0, none⟩ = some (.int .i64 a00) ∧ w'.cell? ⟨w.heap.size, 1, none⟩ = some (.int .i64 a01) ∧ w'.cell? ⟨w.heap.size, 2, none⟩ = some (.int .u64 a02) ∧ w'.cell? ⟨w.heap.size, 3, none⟩ = some (.int .u64 a03) ∧ w'.cell? ⟨(w.heap.size + 1), 0, none⟩ = some (.int .i64 a10) ∧ w'.cell? ⟨(w.heap.size + 1), 1, none⟩ = some (.int .i64 a11) ∧ w'.cell? ⟨(w.heap.size + 1), 2, none⟩ = some (.int .u64 a12) ∧ w'.cell? ⟨(w.heap.size + 1), 3, none⟩ = some (.int .u64 a13)) ((refine keep8 ?_ HS0.out; (repeat (first | exact Up.refl _ | assumption | refine Up.setCell ?_ (by first | omega | (dsimp only; omega) | simp) _ | refine Up.alloc ?_ _ | refine Up.drew ?_ | refine Up.trans ?_ (by assumption))))) (first | (go_at_call 15; refine (c_FitX _ _ _ _ _ _ H.out (by first | exact x02 | exact x12) (by first | exact x03 | exact x13)).mono ?_; rintro e wh ⟨rfl, rfl⟩))
    all_goals
      go_wp2_with fail
      go_meet
      case rel => exact ⟨_, _, rfl, rfl, by unfold Blk; simp [go_sem], by unfold Blk; simp [go_sem], by (repeat (first | exact Up.refl _ | assumption | refine Up.setCell ?_ (by first | omega | (dsimp only; omega) | simp) _ | refine Up.alloc ?_ _ | refine Up.drew ?_ | refine Up.trans ?_ (by assumption)))⟩
  case rest =>
    obtain ⟨B0, B1, rfl, rfl, k0, k1, hu⟩ := hcut
    have z0 := k0.lt
    obtain ⟨k00, k01, k02, k03⟩ := k0
    have z1 := k1.lt
    obtain ⟨k10, k11, k12, k13⟩ := k1
    have hall := Up.refl wc
    cases hm : mt ⟨sg b a00, sg b a01, us b a02, us b a03⟩ (sg b a2) (us b a2)
    · go_wp2_with (first | (go_at_call 12; refine (c_lmWorks _).mono ?_; rintro e wh ⟨rfl, hup⟩; have hall := Up.via hall hup (by (repeat (first | exact Up.refl _ | assumption | refine Up.setCell ?_ (by first | omega | (dsimp only; omega) | simp) _ | refine Up.alloc ?_ _ | refine Up.drew ?_ | refine Up.trans ?_ (by assumption)))); have hc := hall.cells; have hf := hall.frozens) | (go_at_call 11; refine (c_Meets _ _ _ _ _ _ _ H.out x2).mono ?_; rintro e wh ⟨rfl, hup⟩; have hall := Up.via hall hup (by (repeat (first | exact Up.refl _ | assumption | refine Up.setCell ?_ (by first | omega | (dsimp only; omega) | simp) _ | refine Up.alloc ?_ _ | refine Up.drew ?_ | refine Up.trans ?_ (by assumption)))); have hc := hall.cells; have hf := hall.frozens))
      go_ret
      refine ⟨rfl, ?_⟩
      (repeat (first | exact Up.refl _ | assumption | refine Up.setCell ?_ (by first | omega | (dsimp only; omega) | simp) _ | refine Up.alloc ?_ _ | refine Up.drew ?_ | refine Up.trans ?_ (by assumption)))
    · cases hi : insB (sg b a00) (sg b a01) (us b a02) (us b a03) (sg b a10) (sg b a11) (us b a12) (us b a13)
      · go_wp2_with (first | (go_at_call 12; refine (c_lmWorks _).mono ?_; rintro e wh ⟨rfl, hup⟩; have hall := Up.via hall hup (by (repeat (first | exact Up.refl _ | assumption | refine Up.setCell ?_ (by first | omega | (dsimp only; omega) | simp) _ | refine Up.alloc ?_ _ | refine Up.drew ?_ | refine Up.trans ?_ (by assumption)))); have hc := hall.cells; have hf := hall.frozens) | (go_at_call 11; refine (c_Meets _ _ _ _ _ _ _ H.out x2).mono ?_; rintro e wh ⟨rfl, hup⟩; have hall := Up.via hall hup (by (repeat (first | exact Up.refl _ | assumption | refine Up.setCell ?_ (by first | omega | (dsimp only; omega) | simp) _ | refine Up.alloc ?_ _ | refine Up.drew ?_ | refine Up.trans ?_ (by assumption)))); have hc := hall.cells; have hf := hall.frozens) | (go_at_call 21; refine (c_Inside _ _ _ _ _ _ _ _ _).mono ?_; rintro e wh ⟨rfl, hup⟩; have hall := Up.via hall hup (by (repeat (first | exact Up.refl _ | assumption | refine Up.setCell ?_ (by first | omega | (dsimp only; omega) | simp) _ | refine Up.alloc ?_ _ | refine Up.drew ?_ | refine Up.trans ?_ (by assumption)))); have hc := hall.cells; have hf := hall.frozens))
        go_ret
        refine ⟨rfl, ?_⟩
        (repeat (first | exact Up.refl _ | assumption | refine Up.setCell ?_ (by first | omega | (dsimp only; omega) | simp) _ | refine Up.alloc ?_ _ | refine Up.drew ?_ | refine Up.trans ?_ (by assumption)))
      · have g1 := len_grows (us_U64 H.out) (us_U64 H.out) (us_U64 H.out) (us_U64 H.out) (insB_iff.1 hi).2.2.1 (insB_iff.1 hi).2.2.2
        have g2 := ones_grows (us_U64 H.out) (us_U64 H.out) (us_U64 H.out) (us_U64 H.out) (Int.le_trans (mt_iff.1 hm).2.2.1 (mt_iff.1 hm).2.2.2) (insB_iff.1 hi).2.2.1 (insB_iff.1 hi).2.2.2
        go_wp2_with (first | (go_at_call 11; refine (c_Meets _ _ _ _ _ _ _ H.out x2).mono ?_; rintro e wh ⟨rfl, hup⟩; have hall := Up.via hall hup (by (repeat (first | exact Up.refl _ | assumption | refine Up.setCell ?_ (by first | omega | (dsimp only; omega) | simp) _ | refine Up.alloc ?_ _ | refine Up.drew ?_ | refine Up.trans ?_ (by assumption)))); have hc := hall.cells; have hf := hall.frozens) | (go_at_call 21; refine (c_Inside _ _ _ _ _ _ _ _ _).mono ?_; rintro e wh ⟨rfl, hup⟩; have hall := Up.via hall hup (by (repeat (first | exact Up.refl _ | assumption | refine Up.setCell ?_ (by first | omega | (dsimp only; omega) | simp) _ | refine Up.alloc ?_ _ | refine Up.drew ?_ | refine Up.trans ?_ (by assumption)))); have hc := hall.cells; have hf := hall.frozens))
        go_region_held3 (fun w' => w'.cell? ⟨B0, 0, none⟩ = some (.int .i64 (sg b a00)) ∧ w'.cell? ⟨B0, 1, none⟩ = some (.int .i64 (sg b a01)) ∧ w'.cell? ⟨B0, 2, none⟩ = some (.int .u64 (us b a02)) ∧ w'.cell? ⟨B0, 3, none⟩ = some (.int .u64 (us b a03)) ∧ w'.cell? ⟨B1, 0, none⟩ = some (.int .i64 (sg b a10)) ∧ w'.cell? ⟨B1, 1, none⟩ = some (.int .i64 (sg b a11)) ∧ w'.cell? ⟨B1, 2, none⟩ = some (.int .u64 (us b a12)) ∧ w'.cell? ⟨B1, 3, none⟩ = some (.int .u64 (us b a13))) (first | (exact keep8 hup (by assumption)) | (exact keep8 (Up.drew hall) ⟨k00, k01, k02, k03, k10, k11, k12, k13⟩)) (first | (go_at_call 12; refine (c_lmWorks _).mono ?_; rintro e wh ⟨rfl, hup⟩) | (go_at_call 17; refine (c_Bitlen _ _ _ _ _ _ (us_U64 H.out) (us_U64 H.out)).mono ?_; rintro e wh ⟨rfl, hup⟩) | (go_at_call 19; refine (c_Popcount _ _ _ _ _ _ (us_U64 H.out) (us_U64 H.out)).mono ?_; rintro e wh ⟨rfl, hup⟩) | (go_at_call 21; refine (c_Inside _ _ _ _ _ _ _ _ _).mono ?_; rintro e wh ⟨rfl, hup⟩))
        go_wp2
        go_ret
        refine ⟨rfl, ?_⟩
        (repeat (first | exact Up.refl _ | assumption | refine Up.setCell ?_ (by first | omega | (dsimp only; omega) | simp) _ | refine Up.alloc ?_ _ | refine Up.drew ?_ | refine Up.trans ?_ (by assumption)))

theorem own : ownKnob Try.prog.godebug = none := by kernel_rfl
theorem laidOut : laidOutB Try.prog = true := by kernel_rfl
theorem cellsL : Try.prog.cellsOf 24 = 4 := by kernel_rfl
set_option maxRecDepth 100000 in
theorem lifted (os : Os) (started : os.Started) (H : Type) (enc : TypeId × Value → H) :
    ReturnsInHanded {} Try.checked os 9 .any (Rows.fnCountsGrowSpec.pre6 enc Try.prog Try.f9 Rows.fnCountsGrowRow.domain false) (Rows.fnCountsGrowSpec.post enc Try.prog Try.f9 false true false false) := by
  refine returnsInHanded_of_change (C := Try.checked) own started (by kernel_rfl) Try.func9
    (ChangeSpec.witness6 (enc := enc) (C := Try.checked) false ⟨#[], #[.agg #[.int .i64 0, .int .i64 0, .int .u64 0, .int .u64 0], .agg #[.int .i64 0, .int .i64 0, .int .u64 0, .int .u64 0], .int .u64 0, .int .i64 0], []⟩ 8 (by kernel_rfl) (by kernel_rfl) (by kernel_rfl) (by kernel_rfl)) ?_
  intro W base args ds gs before hval0 hW hcnd _
  have hval : ∀ (j : Nat) t v, Try.f9.params[j]? = some t → args[j]? = some v → Value.okWide Try.prog W .any base t v := hval0
  have hW' := hW
  obtain ⟨p, q, hA0, hV, rfl, hfz, hnd⟩ := hW
  have hA : DataW.TrodAll enc Try.prog W 0 (fun _ => true) true Try.f9.params.toList args.toList ds p := hA0
  rw [Try.params9] at hA hval
  obtain ⟨v0, vs0, d0, ds0, p0, q0, hargs, rfl, rfl, h0, r0⟩ := trodAll_cons hA
  obtain ⟨v1, vs1, d1, ds1, p1, q1, rfl, rfl, rfl, h1, r1⟩ := trodAll_cons r0
  obtain ⟨v2, vs2, d2, ds2, p2, q2, rfl, rfl, rfl, h2, r2⟩ := trodAll_cons r1
  obtain ⟨v3, vs3, d3, ds3, p3, q3, rfl, rfl, rfl, h3, r3⟩ := trodAll_cons r2
  obtain ⟨rfl, rfl, rfl⟩ := trodAll_nil r3
  obtain rfl : args = #[v0, v1, v2, v3] := by cases args; simp_all
  obtain ⟨rfl, rfl⟩ := trodVars_none hV
  have k0 := h0
  have lt0 : ∀ x ∈ p0, x.block < W.heap.size := by obtain ⟨m, hm⟩ := k0; exact DataW.trod_lt m _ _ _ hm
  obtain ⟨c00, c01, c02, c03, y00, y01, y02, y03, m0, rfl, _, _, hy00, hy01, hy02, hy03⟩ := Go.Joins.open_agg4 Try.underlying24 (by kernel_rfl) cellsL (hval 0 24 v0 rfl rfl) h0
  obtain ⟨a00, e00, _, z00⟩ := DataW.trod_int Try.underlying2 hy00
  have x00 := bounds_i64 z00
  obtain ⟨a01, e01, _, z01⟩ := DataW.trod_int Try.underlying2 hy01
  have x01 := bounds_i64 z01
  obtain ⟨a02, e02, _, z02⟩ := DataW.trod_int Try.underlying22 hy02
  have x02 := bounds_u64 z02
  obtain ⟨a03, e03, _, z03⟩ := DataW.trod_int Try.underlying22 hy03
  have x03 := bounds_u64 z03
  simp only [List.cons.injEq, and_true] at e00 e01 e02 e03
  subst e00 e01 e02 e03
  have k1 := h1
  have lt1 : ∀ x ∈ p1, x.block < W.heap.size := by obtain ⟨m, hm⟩ := k1; exact DataW.trod_lt m _ _ _ hm
  obtain ⟨c10, c11, c12, c13, y10, y11, y12, y13, m1, rfl, _, _, hy10, hy11, hy12, hy13⟩ := Go.Joins.open_agg4 Try.underlying24 (by kernel_rfl) cellsL (hval 1 24 v1 rfl rfl) h1
  obtain ⟨a10, e10, _, z10⟩ := DataW.trod_int Try.underlying2 hy10
  have x10 := bounds_i64 z10
  obtain ⟨a11, e11, _, z11⟩ := DataW.trod_int Try.underlying2 hy11
  have x11 := bounds_i64 z11
  obtain ⟨a12, e12, _, z12⟩ := DataW.trod_int Try.underlying22 hy12
  have x12 := bounds_u64 z12
  obtain ⟨a13, e13, _, z13⟩ := DataW.trod_int Try.underlying22 hy13
  have x13 := bounds_u64 z13
  simp only [List.cons.injEq, and_true] at e10 e11 e12 e13
  subst e10 e11 e12 e13
  obtain ⟨a2, rfl, rfl, rfl, z2⟩ := open_int Try.underlying22 (hval 2 22 v2 rfl rfl) h2
  have x2 := bounds_u64 z2
  obtain ⟨a3, rfl, rfl, rfl, z3⟩ := open_int Try.underlying3 (hval 3 3 v3 rfl rfl) h3
  have x3 := bounds_i64 z3
  clear hA0 hval0
  refine (walk a00 a01 a02 a03 x00 x01 x02 x03 a10 a11 a12 a13 x10 x11 x12 x13 a2 x2 a3 x3 W).mono fun e W' ⟨he, bel⟩ => ?_
  subst he
  exact ⟨_, rfl, _, _, _, [], _, [], hW', trodAll_mk1 (shut_bool Try.underlying4 _), (trodAll_cons_mk (Below.trod laidOut (by kernel_rfl) (of_decide_eq_true (by kernel_rfl)) k0 bel lt0) (trodAll_cons_mk (Below.trod laidOut (by kernel_rfl) (of_decide_eq_true (by kernel_rfl)) k1 bel lt1) (trodAll_cons_mk (shut_int Try.underlying22 z2) (trodAll_cons_mk (shut_int Try.underlying3 z3) trodAll_mk0)))), rfl, Below.frame bel _, fun h => by cases h⟩

theorem over : Rows.fnCountsGrowRow.holds Try.pinned (OpenSpec.ofChange Rows.fnCountsGrowSpec) :=
  OpenClaim.holds_of_wide 9 Try.f9 rfl rfl rfl rfl rfl rfl rfl ⟨rfl, rfl, rfl, rfl, rfl⟩ rfl rfl rfl rfl rfl (by kernel_rfl) Try.func9 (by kernel_rfl)
    (of_decide_eq_true (by kernel_rfl)) (by unfold Func.isWrapper; first | (rw [if_pos (by decide +kernel)]; kernel_rfl) | (rw [if_neg (by decide +kernel)]; exact ⟨rfl, rfl⟩))
    (fun os started H enc _ => lifted os started H enc)

/-- The statement. -/
theorem proved : Rows.FnCountsGrowSaid := over
#print axioms proved
end Go.Proofs.Ytjfpjcaidjblnaa.lawFnCountsGrow
