/-
  For all limits l, m (any bounds): FnIntersectInside(l, m) returns true (that all bounds of an intersection lie within those of both limits). No condition.
-/
import Derived.Test.YtlophbgeclojdaaAddw
import Derived.Test.YtlophbgeclojdaaBound
import Derived.Test.YtlophbgeclojdaaAux
import Derived.ProofKit
import Derived.OpenShut
import Derived.ChangeOld
import Derived.Lib.SmallJoins
namespace Go.Proofs.Ytlophbgeclojdaa.lawFnIntersectInside
open Go.ChangeShapes Go.WideShapes Go.ChangeAt Go.RowKit
set_option linter.unusedVariables false
set_option maxHeartbeats 1000000 in
theorem walk (a00 : Int) (a01 : Int) (a02 : Int) (a03 : Int) (x00 : I64 a00) (x01 : I64 a01) (x02 : U64 a02) (x03 : U64 a03) (a10 : Int) (a11 : Int) (a12 : Int) (a13 : Int) (x10 : I64 a10) (x11 : I64 a11) (x12 : U64 a12) (x13 : U64 a13) (w : World) :
    Calls Try.prog 12 #[.agg #[.int .i64 a00, .int .i64 a01, .int .u64 a02, .int .u64 a03], .agg #[.int .i64 a10, .int .i64 a11, .int .u64 a12, .int .u64 a13]] w fun e w' => e = .returned (.bool true) ∧ Up w w' := by
  have e1 : insB (max a00 a10) (min a01 a11) (max a02 a12) (min a03 a13) a00 a01 a02 a03 = true := by rw [insB_iff]; omega
  have e2 : insB (max a00 a10) (min a01 a11) (max a02 a12) (min a03 a13) a10 a11 a12 a13 = true := by rw [insB_iff]; omega
  have bb := two_boxes w 24 a00 a01 a02 a03 a10 a11 a12 a13
  have BB := Lib.hid bb
  clear bb
  go_enter Try.func12, Try.ntmps12
  go_wp2_with fail
  refine (c_Intersect _ _ _ _ _ _ _ _ _).mono ?_
  rintro e w1 ⟨rfl, h1⟩
  have kk := keep8 h1 BB.out
  obtain ⟨k00, k01, k02, k03, k10, k11, k12, k13⟩ := kk
  have z0 : w.heap.size < w1.heap.size := World.block_lt_of_cell? w1 ⟨w.heap.size, 0, none⟩ k00
  have z1 : w.heap.size + 1 < w1.heap.size := World.block_lt_of_cell? w1 ⟨w.heap.size + 1, 0, none⟩ k10
  have z2 : w.heap.size < w1.heap.size + 1 := by omega
  have z3 : w.heap.size + 1 < w1.heap.size + 1 := by omega
  have n0 : w.heap.size ≠ w1.heap.size := by omega
  have n1 : w.heap.size + 1 ≠ w1.heap.size := by omega
  have n2 : w1.heap.size ≠ w.heap.size := by omega
  have n3 : w1.heap.size ≠ w.heap.size + 1 := by omega
  go_wp2_with (first | (go_at_call 17; refine (c_lmWorks _).mono ?_; rintro e wh ⟨rfl, hall⟩; have hc := hall.cells; have hf := hall.frozens) | (go_at_call 28; refine (c_Inside _ _ _ _ _ _ _ _ _).mono ?_; rintro e wh ⟨rfl, hup⟩; have hall := Up.via hall hup (by (repeat (first | exact Up.refl _ | assumption | refine Up.setCell ?_ (by first | omega | (dsimp only; omega) | simp) _ | refine Up.alloc ?_ _ | refine Up.drew ?_ | refine Up.trans ?_ (by assumption)))); have hc := hall.cells; have hf := hall.frozens))
  go_ret
  refine ⟨rfl, ?_⟩
  (repeat (first | exact Up.refl _ | assumption | refine Up.setCell ?_ (by first | omega | (dsimp only; omega) | simp) _ | refine Up.alloc ?_ _ | refine Up.drew ?_ | refine Up.trans ?_ (by assumption)))

theorem own : ownKnob Try.prog.godebug = none := by kernel_rfl
theorem laidOut : laidOutB Try.prog = true := by kernel_rfl
theorem cellsL : Try.prog.cellsOf 24 = 4 := by kernel_rfl
set_option maxRecDepth 100000 in
theorem lifted (os : Os) (started : os.Started) (H : Type) (enc : TypeId × Value → H) :
    ReturnsInHanded {} Try.checked os 12 .any (Rows.fnIntersectInsideSpec.pre6 enc Try.prog Try.f12 Rows.fnIntersectInsideRow.domain false) (Rows.fnIntersectInsideSpec.post enc Try.prog Try.f12 false true false false) := by
  refine returnsInHanded_of_change (C := Try.checked) own started (by kernel_rfl) Try.func12
    (ChangeSpec.witness6 (enc := enc) (C := Try.checked) false ⟨#[], #[.agg #[.int .i64 0, .int .i64 0, .int .u64 0, .int .u64 0], .agg #[.int .i64 0, .int .i64 0, .int .u64 0, .int .u64 0]], []⟩ 8 (by kernel_rfl) (by kernel_rfl) (by kernel_rfl) (by kernel_rfl)) ?_
  intro W base args ds gs before hval0 hW hcnd _
  have hval : ∀ (j : Nat) t v, Try.f12.params[j]? = some t → args[j]? = some v → Value.okWide Try.prog W .any base t v := hval0
  have hW' := hW
  obtain ⟨p, q, hA0, hV, rfl, hfz, hnd⟩ := hW
  have hA : DataW.TrodAll enc Try.prog W 0 (fun _ => true) true Try.f12.params.toList args.toList ds p := hA0
  rw [Try.params12] at hA hval
  obtain ⟨v0, vs0, d0, ds0, p0, q0, hargs, rfl, rfl, h0, r0⟩ := trodAll_cons hA
  obtain ⟨v1, vs1, d1, ds1, p1, q1, rfl, rfl, rfl, h1, r1⟩ := trodAll_cons r0
  obtain ⟨rfl, rfl, rfl⟩ := trodAll_nil r1
  obtain rfl : args = #[v0, v1] := by cases args; simp_all
  obtain ⟨rfl, rfl⟩ := trodVars_none hV
  have k0 := h0
  have lt0 : ∀ x ∈ p0, x.block < W.heap.size := by obtain ⟨m, hm⟩ := k0; exact DataW.trod_lt m _ _ _ hm
  obtain ⟨c00, c01, c02, c03, y00, y01, y02, y03, m0, rfl, _, _, hy00, hy01, hy02, hy03⟩ := Go.Joins.open_agg4 Try.underlying24 (by kernel_rfl) cellsL (hval 0 24 v0 rfl rfl) h0
  obtain ⟨a00, e00, _, z00⟩ := DataW.trod_int Try.underlying2 hy00
  have x00 := bounds_i64 z00
  obtain ⟨a01, e01, _, z01⟩ := DataW.trod_int Try.underlying2 hy01
  have x01 := bounds_i64 z01
  obtain ⟨a02, e02, _, z02⟩ := DataW.trod_int Try.underlying22 hy02
  have x02 := bounds_u64 z02
  obtain ⟨a03, e03, _, z03⟩ := DataW.trod_int Try.underlying22 hy03
  have x03 := bounds_u64 z03
  simp only [List.cons.injEq, and_true] at e00 e01 e02 e03
  subst e00 e01 e02 e03
  have k1 := h1
  have lt1 : ∀ x ∈ p1, x.block < W.heap.size := by obtain ⟨m, hm⟩ := k1; exact DataW.trod_lt m _ _ _ hm
  obtain ⟨c10, c11, c12, c13, y10, y11, y12, y13, m1, rfl, _, _, hy10, hy11, hy12, hy13⟩ := Go.Joins.open_agg4 Try.underlying24 (by kernel_rfl) cellsL (hval 1 24 v1 rfl rfl) h1
  obtain ⟨a10, e10, _, z10⟩ := DataW.trod_int Try.underlying2 hy10
  have x10 := bounds_i64 z10
  obtain ⟨a11, e11, _, z11⟩ := DataW.trod_int Try.underlying2 hy11
  have x11 := bounds_i64 z11
  obtain ⟨a12, e12, _, z12⟩ := DataW.trod_int Try.underlying22 hy12
  have x12 := bounds_u64 z12
  obtain ⟨a13, e13, _, z13⟩ := DataW.trod_int Try.underlying22 hy13
  have x13 := bounds_u64 z13
  simp only [List.cons.injEq, and_true] at e10 e11 e12 e13
  subst e10 e11 e12 e13
  clear hA0 hval0
  refine (walk a00 a01 a02 a03 x00 x01 x02 x03 a10 a11 a12 a13 x10 x11 x12 x13 W).mono fun e W' ⟨he, bel⟩ => ?_
  subst he
  exact ⟨_, rfl, _, _, _, [], _, [], hW', trodAll_mk1 (shut_bool Try.underlying4 _), (trodAll_cons_mk (Below.trod laidOut (by kernel_rfl) (of_decide_eq_true (by kernel_rfl)) k0 bel lt0) (trodAll_cons_mk (Below.trod laidOut (by kernel_rfl) (of_decide_eq_true (by kernel_rfl)) k1 bel lt1) trodAll_mk0)), rfl, Below.frame bel _, fun h => by cases h⟩

theorem over : Rows.fnIntersectInsideRow.holds Try.pinned (OpenSpec.ofChange Rows.fnIntersectInsideSpec) :=
  OpenClaim.holds_of_wide 12 Try.f12 rfl rfl rfl rfl rfl rfl rfl ⟨rfl, rfl, rfl, rfl, rfl⟩ rfl rfl rfl rfl rfl (by kernel_rfl) Try.func12 (by kernel_rfl)
    (of_decide_eq_true (by kernel_rfl)) (by unfold Func.isWrapper; first | (rw [if_pos (by decide +kernel)]; kernel_rfl) | (rw [if_neg (by decide +kernel)]; exact ⟨rfl, rfl⟩))
    (fun os started H enc _ => lifted os started H enc)

/-- The statement. -/
theorem proved : Rows.FnIntersectInsideSaid := over
#print axioms proved
end Go.Proofs.Ytlophbgeclojdaa.lawFnIntersectInside
