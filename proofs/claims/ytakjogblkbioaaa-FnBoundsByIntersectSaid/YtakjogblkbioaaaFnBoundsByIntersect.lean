/-
  For every limit l (any four bounds), all int64 n, most and all words low, high: FnBoundsByIntersect(l, n, most, low, high) returns true (that bounds that are added are the same as an intersection with a limit that has these bounds alone). No condition.
-/
import Derived.Test.YtakjogblkbioaaaAddw
import Derived.Test.YtakjogblkbioaaaBound
import Derived.Test.YtakjogblkbioaaaAux
import Derived.ProofKit
import Derived.OpenShut
import Derived.ChangeOld
import Derived.Lib.SmallJoins
namespace Go.Proofs.Ytakjogblkbioaaa.lawFnBoundsByIntersect
open Go.ChangeShapes Go.WideShapes Go.ChangeAt Go.RowKit
set_option linter.unusedVariables false
set_option maxHeartbeats 1000000 in
theorem walk (a00 : Int) (a01 : Int) (a02 : Int) (a03 : Int) (x00 : I64 a00) (x01 : I64 a01) (x02 : U64 a02) (x03 : U64 a03) (a1 : Int) (x1 : I64 a1) (a2 : Int) (x2 : I64 a2) (a3 : Int) (x3 : U64 a3) (a4 : Int) (x4 : U64 a4) (w : World) :
    Calls Try.prog 3 #[.agg #[.int .i64 a00, .int .i64 a01, .int .u64 a02, .int .u64 a03], .int .i64 a1, .int .i64 a2, .int .u64 a3, .int .u64 a4] w fun e w' => e = .returned (.bool true) ∧ Up w w' := by
  have m1 : max a02 0 = a02 := by have := x02.1; omega
  have m2 : min a03 (top 64) = a03 := by have := x03.2; rw [top64]; omega
  have m3 : max a00 (lst 64) = a00 := by have := x00.1; rw [lst64]; omega
  have m4 : min a01 (grt 64) = a01 := by have := x01.2; rw [grt64]; omega
  go_enter Try.func3, Try.ntmps3
  go_wp2_with fail
  refine (c_NoLimit _ _ b64).mono ?_
  rintro e w1 ⟨rfl, h1⟩
  have bl1 := (blk_new w 24 a00 a01 a02 a03).later h1
  have BL1 := Lib.hid bl1
  clear bl1
  go_wp2_with fail
  refine (c_NoLimit _ _ b64).mono ?_
  rintro e w2 ⟨rfl, h2⟩
  have bl2 := (BL1.out.later ((Up.refl _).alloc _)).later h2
  have bo2 := (blk_new w1 24 a1 a2 0 (top 64)).later h2
  have BL2 := Lib.hid bl2
  have BO2 := Lib.hid bo2
  clear bl2 bo2
  go_wp2_with fail
  have hbl := BL2.out.later (((Up.refl _).alloc (.cells #[.int .i64 (lst 64), .int .i64 (grt 64), .int .u64 a3, .int .u64 a4] 24)).drew)
  have hbo := BO2.out.later (((Up.refl _).alloc (.cells #[.int .i64 (lst 64), .int .i64 (grt 64), .int .u64 a3, .int .u64 a4] 24)).drew)
  have hbt := (blk_new w2 24 (lst 64) (grt 64) a3 a4).later ((Up.refl _).drew)
  have HBL := Lib.hid hbl
  have HBO := Lib.hid hbo
  have HBT := Lib.hid hbt
  clear hbl hbo hbt
  go_region_held3 (fun w' => w'.cell? ⟨w.heap.size, 0, none⟩ = some (.int .i64 a00) ∧ w'.cell? ⟨w.heap.size, 1, none⟩ = some (.int .i64 a01) ∧ w'.cell? ⟨w.heap.size, 2, none⟩ = some (.int .u64 a02) ∧ w'.cell? ⟨w.heap.size, 3, none⟩ = some (.int .u64 a03) ∧ w'.cell? ⟨w1.heap.size, 0, none⟩ = some (.int .i64 a1) ∧ w'.cell? ⟨w1.heap.size, 1, none⟩ = some (.int .i64 a2) ∧ w'.cell? ⟨w1.heap.size, 2, none⟩ = some (.int .u64 0) ∧ w'.cell? ⟨w1.heap.size, 3, none⟩ = some (.int .u64 (top 64)) ∧ w'.cell? ⟨w2.heap.size, 0, none⟩ = some (.int .i64 (lst 64)) ∧ w'.cell? ⟨w2.heap.size, 1, none⟩ = some (.int .i64 (grt 64)) ∧ w'.cell? ⟨w2.heap.size, 2, none⟩ = some (.int .u64 a3) ∧ w'.cell? ⟨w2.heap.size, 3, none⟩ = some (.int .u64 a4)) (first | (exact keep12 hup (by assumption)) | (exact ⟨HBL.out.1, HBL.out.2.1, HBL.out.2.2.1, HBL.out.2.2.2, HBO.out.1, HBO.out.2.1, HBO.out.2.2.1, HBO.out.2.2.2, HBT.out.1, HBT.out.2.1, HBT.out.2.2.1, HBT.out.2.2.2⟩)) (first | (go_at_call 15; refine (c_lmWorks _).mono ?_; rintro e wh ⟨rfl, hup⟩) | (go_at_call 16; refine (c_SignedMinMax _ _ _ _ _ _ _).mono ?_; rintro e wh ⟨rfl, hup⟩) | (go_at_call 18; refine (c_UnsignedMinMax _ _ _ _ _ _ _).mono ?_; rintro e wh ⟨rfl, hup⟩) | (go_at_call 17; refine (c_Intersect _ _ _ _ _ _ _ _ _).mono ?_; rintro e wh ⟨rfl, hup⟩))
  go_wp2
  go_ret
  refine ⟨rfl, ?_⟩
  (repeat (first | exact Up.refl _ | assumption | refine Up.setCell ?_ (by first | omega | (dsimp only; omega) | simp) _ | refine Up.alloc ?_ _ | refine Up.drew ?_ | refine Up.trans ?_ (by assumption)))

theorem own : ownKnob Try.prog.godebug = none := by kernel_rfl
theorem laidOut : laidOutB Try.prog = true := by kernel_rfl
theorem cellsL : Try.prog.cellsOf 24 = 4 := by kernel_rfl
set_option maxRecDepth 100000 in
theorem lifted (os : Os) (started : os.Started) (H : Type) (enc : TypeId × Value → H) :
    ReturnsInHanded {} Try.checked os 3 .any (Rows.fnBoundsByIntersectSpec.pre6 enc Try.prog Try.f3 Rows.fnBoundsByIntersectRow.domain false) (Rows.fnBoundsByIntersectSpec.post enc Try.prog Try.f3 false true false false) := by
  refine returnsInHanded_of_change (C := Try.checked) own started (by kernel_rfl) Try.func3
    (ChangeSpec.witness6 (enc := enc) (C := Try.checked) false ⟨#[], #[.agg #[.int .i64 0, .int .i64 0, .int .u64 0, .int .u64 0], .int .i64 0, .int .i64 0, .int .u64 0, .int .u64 0], []⟩ 8 (by kernel_rfl) (by kernel_rfl) (by kernel_rfl) (by kernel_rfl)) ?_
  intro W base args ds gs before hval0 hW hcnd _
  have hval : ∀ (j : Nat) t v, Try.f3.params[j]? = some t → args[j]? = some v → Value.okWide Try.prog W .any base t v := hval0
  have hW' := hW
  obtain ⟨p, q, hA0, hV, rfl, hfz, hnd⟩ := hW
  have hA : DataW.TrodAll enc Try.prog W 0 (fun _ => true) true Try.f3.params.toList args.toList ds p := hA0
  rw [Try.params3] at hA hval
  obtain ⟨v0, vs0, d0, ds0, p0, q0, hargs, rfl, rfl, h0, r0⟩ := trodAll_cons hA
  obtain ⟨v1, vs1, d1, ds1, p1, q1, rfl, rfl, rfl, h1, r1⟩ := trodAll_cons r0
  obtain ⟨v2, vs2, d2, ds2, p2, q2, rfl, rfl, rfl, h2, r2⟩ := trodAll_cons r1
  obtain ⟨v3, vs3, d3, ds3, p3, q3, rfl, rfl, rfl, h3, r3⟩ := trodAll_cons r2
  obtain ⟨v4, vs4, d4, ds4, p4, q4, rfl, rfl, rfl, h4, r4⟩ := trodAll_cons r3
  obtain ⟨rfl, rfl, rfl⟩ := trodAll_nil r4
  obtain rfl : args = #[v0, v1, v2, v3, v4] := by cases args; simp_all
  obtain ⟨rfl, rfl⟩ := trodVars_none hV
  have k0 := h0
  have lt0 : ∀ x ∈ p0, x.block < W.heap.size := by obtain ⟨m, hm⟩ := k0; exact DataW.trod_lt m _ _ _ hm
  obtain ⟨c00, c01, c02, c03, y00, y01, y02, y03, m0, rfl, _, _, hy00, hy01, hy02, hy03⟩ := Go.Joins.open_agg4 Try.underlying24 (by kernel_rfl) cellsL (hval 0 24 v0 rfl rfl) h0
  obtain ⟨a00, e00, _, z00⟩ := DataW.trod_int Try.underlying2 hy00
  have x00 := bounds_i64 z00
  obtain ⟨a01, e01, _, z01⟩ := DataW.trod_int Try.underlying2 hy01
  have x01 := bounds_i64 z01
  obtain ⟨a02, e02, _, z02⟩ := DataW.trod_int Try.underlying22 hy02
  have x02 := bounds_u64 z02
  obtain ⟨a03, e03, _, z03⟩ := DataW.trod_int Try.underlying22 hy03
  have x03 := bounds_u64 z03
  simp only [List.cons.injEq, and_true] at e00 e01 e02 e03
  subst e00 e01 e02 e03
  obtain ⟨a1, rfl, rfl, rfl, z1⟩ := open_int Try.underlying2 (hval 1 2 v1 rfl rfl) h1
  have x1 := bounds_i64 z1
  obtain ⟨a2, rfl, rfl, rfl, z2⟩ := open_int Try.underlying2 (hval 2 2 v2 rfl rfl) h2
  have x2 := bounds_i64 z2
  obtain ⟨a3, rfl, rfl, rfl, z3⟩ := open_int Try.underlying22 (hval 3 22 v3 rfl rfl) h3
  have x3 := bounds_u64 z3
  obtain ⟨a4, rfl, rfl, rfl, z4⟩ := open_int Try.underlying22 (hval 4 22 v4 rfl rfl) h4
  have x4 := bounds_u64 z4
  clear hA0 hval0
  refine (walk a00 a01 a02 a03 x00 x01 x02 x03 a1 x1 a2 x2 a3 x3 a4 x4 W).mono fun e W' ⟨he, bel⟩ => ?_
  subst he
  exact ⟨_, rfl, _, _, _, [], _, [], hW', trodAll_mk1 (shut_bool Try.underlying4 _), (trodAll_cons_mk (Below.trod laidOut (by kernel_rfl) (of_decide_eq_true (by kernel_rfl)) k0 bel lt0) (trodAll_cons_mk (shut_int Try.underlying2 z1) (trodAll_cons_mk (shut_int Try.underlying2 z2) (trodAll_cons_mk (shut_int Try.underlying22 z3) (trodAll_cons_mk (shut_int Try.underlying22 z4) trodAll_mk0))))), rfl, Below.frame bel _, fun h => by cases h⟩

theorem over : Rows.fnBoundsByIntersectRow.holds Try.pinned (OpenSpec.ofChange Rows.fnBoundsByIntersectSpec) :=
  OpenClaim.holds_of_wide 3 Try.f3 rfl rfl rfl rfl rfl rfl rfl ⟨rfl, rfl, rfl, rfl, rfl⟩ rfl rfl rfl rfl rfl (by kernel_rfl) Try.func3 (by kernel_rfl)
    (of_decide_eq_true (by kernel_rfl)) (by unfold Func.isWrapper; first | (rw [if_pos (by decide +kernel)]; kernel_rfl) | (rw [if_neg (by decide +kernel)]; exact ⟨rfl, rfl⟩))
    (fun os started H enc _ => lifted os started H enc)

/-- The statement. -/
theorem proved : Rows.FnBoundsByIntersectSaid := over
#print axioms proved
end Go.Proofs.Ytakjogblkbioaaa.lawFnBoundsByIntersect
