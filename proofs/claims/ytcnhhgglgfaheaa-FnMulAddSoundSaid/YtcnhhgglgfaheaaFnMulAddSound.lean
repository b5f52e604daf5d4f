/-
  For all limits l, m, k (any bounds), all words x, y, z and every int n: FnMulAddSound(l, m, k, x, y, z, n) returns true (that a product of two values of 8, 16, 32 or 64 bits and a sum with a third one meet the limit that is made of both). No condition.
-/
import Derived.Test.YtcnhhgglgfaheaaAddw
import Derived.Test.YtcnhhgglgfaheaaBound
import Derived.Test.YtcnhhgglgfaheaaMul
import Derived.Test.YtcnhhgglgfaheaaPlainGrow
import Derived.Test.YtcnhhgglgfaheaaAny3
import Derived.Deep.DeepCutAuto
import Derived.ProofKit
import Derived.OpenShut
import Derived.ChangeOld
import Derived.Lib.SmallJoins
namespace Go.Proofs.Ytcnhhgglgfaheaa.lawFnMulAddSound
open Go.ChangeShapes Go.WideShapes Go.ChangeAt Go.RowKit
set_option linter.unusedVariables false
set_option maxHeartbeats 8000000 in
theorem walk (a00 : Int) (a01 : Int) (a02 : Int) (a03 : Int) (x00 : I64 a00) (x01 : I64 a01) (x02 : U64 a02) (x03 : U64 a03) (a10 : Int) (a11 : Int) (a12 : Int) (a13 : Int) (x10 : I64 a10) (x11 : I64 a11) (x12 : U64 a12) (x13 : U64 a13) (a20 : Int) (a21 : Int) (a22 : Int) (a23 : Int) (x20 : I64 a20) (x21 : I64 a21) (x22 : U64 a22) (x23 : U64 a23) (a3 : Int) (x3 : U64 a3) (a4 : Int) (x4 : U64 a4) (a5 : Int) (x5 : U64 a5) (a6 : Int) (x6 : I64 a6) (w : World) :
    Calls Try.prog 7 #[.agg #[.int .i64 a00, .int .i64 a01, .int .u64 a02, .int .u64 a03], .agg #[.int .i64 a10, .int .i64 a11, .int .u64 a12, .int .u64 a13], .agg #[.int .i64 a20, .int .i64 a21, .int .u64 a22, .int .u64 a23], .int .u64 a3, .int .u64 a4, .int .u64 a5, .int .i64 a6] w fun e w' => e = .returned (.bool true) ∧ Up w w' := by
  go_enter Try.func7, Try.ntmps7
  go_wp2_with fail
  refine (c_Bits _ _).mono ?_
  rintro e wb ⟨b, hb, rfl, rfl⟩
  have hg : Lm.ok ⟨max (mulL b ⟨sg b a00, sg b a01, us b a02, us b a03⟩ ⟨sg b a10, sg b a11, us b a12, us b a13⟩).a (lst b), min (mulL b ⟨sg b a00, sg b a01, us b a02, us b a03⟩ ⟨sg b a10, sg b a11, us b a12, us b a13⟩).b (grt b), max (mulL b ⟨sg b a00, sg b a01, us b a02, us b a03⟩ ⟨sg b a10, sg b a11, us b a12, us b a13⟩).c 0, min (mulL b ⟨sg b a00, sg b a01, us b a02, us b a03⟩ ⟨sg b a10, sg b a11, us b a12, us b a13⟩).d (top b)⟩ := cutM_ok hb (mulL_ok hb (fit_ok hb) (fit_ok hb))
  have HG := Lib.hid hg
  clear hg
  have H := Lib.hid hb
  clear hb
  go_upto_region 2 with (fail)
  go_cut [16, 17, 18] (fun s0 s1 s2 wx => ∃ B0 B1 B2 : Nat, s0 = .pointer (some ⟨B0, 0, none⟩) ∧ s1 = .pointer (some ⟨B1, 0, none⟩) ∧ s2 = .pointer (some ⟨B2, 0, none⟩) ∧ Blk wx B0 (sg b a00) (sg b a01) (us b a02) (us b a03) ∧ Blk wx B1 (sg b a10) (sg b a11) (us b a12) (us b a13) ∧ Blk wx B2 (sg b a20) (sg b a21) (us b a22) (us b a23) ∧ Up w wx)
  case first =>
    have hS0 := three_boxes w 24 a00 a01 a02 a03 a10 a11 a12 a13 a20 a21 a22 a23
    have HS0 := Lib.hid hS0
    clear hS0
    refine wp_region_held_drew (S := fun w' => w'.cell? ⟨w.heap.size, 0, none⟩ = some (.int .i64 a00) ∧ w'.cell? ⟨w.heap.size, 1, none⟩ = some (.int .i64 a01) ∧ w'.cell? ⟨w.heap.size, 2, none⟩ = some (.int .u64 a02) ∧ w'.cell? ⟨w.heap.size, 3, none⟩ = some (.int .u64 a03) ∧ w'.cell? ⟨(w.heap.size + 1), 0, none⟩ = some (.int .i64 a10) ∧ w'.cell? ⟨(w.heap.size + 1), 1, none⟩ = some (.int .i64 a11) ∧ w'.cell? ⟨(w.heap.size + 1), 2, none⟩ = some (.int .u64 a12) ∧ w'.cell? ⟨(w.heap.size + 1), 3, none⟩ = some (.int .u64 a13) ∧ w'.cell? ⟨(w.heap.size + 1 + 1), 0, none⟩ = some (.int .i64 a20) ∧ w'.cell? ⟨(w.heap.size + 1 + 1), 1, none⟩ = some (.int .i64 a21) ∧ w'.cell? ⟨(w.heap.size + 1 + 1), 2, none⟩ = some (.int .u64 a22) ∧ w'.cell? ⟨(w.heap.size + 1 + 1), 3, none⟩ = some (.int .u64 a23)) (by kernel_rfl) ?_ (fun hHeld => ?_)
    · exact keep12 (Up.drew (Up.refl _)) HS0.out
    refine wpAnyH_take (i := 0) (oi := ⟨_, _, _, _, _, _⟩) (v := ?_) rfl (by kernel_rfl) (by kernel_rfl) (by kernel_rfl) (fun _ _ _ h => h) (Or.inl ⟨by rfl, ?_⟩) (by assumption) ?_
    rotate_left 1
    · (intro w hSw; (try dsimp only at hSw); go_simp; (try with_reducible rfl))
    try simp only [Act.put, List.setIfInBounds_toArray, List.set_cons_zero, List.set_cons_succ]
    refine wpAnyH_take (i := 1) (oi := ⟨_, _, _, _, _, _⟩) (v := ?_) rfl (by kernel_rfl) (by kernel_rfl) (by kernel_rfl) (fun _ _ _ h => h) (Or.inl ⟨by rfl, ?_⟩) (by assumption) ?_
    rotate_left 1
    · (intro w hSw; (try dsimp only at hSw); go_simp; (try with_reducible rfl))
    try simp only [Act.put, List.setIfInBounds_toArray, List.set_cons_zero, List.set_cons_succ]
    refine wpAnyH_take (i := 3) (oi := ⟨_, _, _, _, _, _⟩) (v := ?_) rfl (by kernel_rfl) (by kernel_rfl) (by kernel_rfl) (fun _ _ _ h => h) (Or.inl ⟨by rfl, ?_⟩) (by assumption) ?_
    rotate_left 1
    · (intro w hSw; (try dsimp only at hSw); go_simp; (try with_reducible rfl))
    try simp only [Act.put, List.setIfInBounds_toArray, List.set_cons_zero, List.set_cons_succ]
    refine wpAnyH_take (i := 4) (oi := ⟨_, _, _, _, _, _⟩) (v := ?_) rfl (by kernel_rfl) (by kernel_rfl) (by kernel_rfl) (fun _ _ _ h => h) (Or.inl ⟨by rfl, ?_⟩) (by assumption) ?_
    rotate_left 1
    · (intro w hSw; (try dsimp only at hSw); go_simp; (try with_reducible rfl))
    try simp only [Act.put, List.setIfInBounds_toArray, List.set_cons_zero, List.set_cons_succ]
    refine wpAnyH_take (i := 6) (oi := ⟨_, _, _, _, _, _⟩) (v := ?_) rfl (by kernel_rfl) (by kernel_rfl) (by kernel_rfl) (fun _ _ _ h => h) (Or.inl ⟨by rfl, ?_⟩) (by assumption) ?_
    rotate_left 1
    · (intro w hSw; (try dsimp only at hSw); go_simp; (try with_reducible rfl))
    try simp only [Act.put, List.setIfInBounds_toArray, List.set_cons_zero, List.set_cons_succ]
    refine wpAnyH_take (i := 7) (oi := ⟨_, _, _, _, _, _⟩) (v := ?_) rfl (by kernel_rfl) (by kernel_rfl) (by kernel_rfl) (fun _ _ _ h => h) (Or.inl ⟨by rfl, ?_⟩) (by assumption) ?_
    rotate_left 1
    · (intro w hSw; (try dsimp only at hSw); go_simp; (try with_reducible rfl))
    try simp only [Act.put, List.setIfInBounds_toArray, List.set_cons_zero, List.set_cons_succ]
    refine any3' 16 17 18 24 27 30 24 (.agg #[.int .i64 (sg b a00), .int .i64 (sg b a01), .int .u64 (us b a02), .int .u64 (us b a03)]) (.agg #[.int .i64 (sg b a10), .int .i64 (sg b a11), .int .u64 (us b a12), .int .u64 (us b a13)]) (.agg #[.int .i64 (sg b a20), .int .i64 (sg b a21), .int .u64 (us b a22), .int .u64 (us b a23)]) w (by kernel_rfl) (by kernel_rfl) (by kernel_rfl) (by rfl) hHeld (by (repeat (first | exact Up.refl _ | assumption | refine Up.setCell ?_ (by first | omega | (dsimp only; omega) | simp) _ | refine Up.alloc ?_ _ | refine Up.drew ?_ | refine Up.trans ?_ (by assumption)))) ?_ ?_ ?_ ?_ ?_ ?_ ?_
    · intro p0 p1 p2 q0 q1 q2 wz hSz
      simp only [put6, Act.put, List.setIfInBounds_toArray, List.set_cons_zero, List.set_cons_succ]
      refine wpOp_stepS (o := ⟨_, _, _, _, _, _⟩) rfl (fun K' hK => ?_)
      go_simp
      (go_at_call 16; refine (c_Fit _ _ _ _ _ _ H.out x02 x03).mono ?_; rintro e wh ⟨rfl, hup⟩)
      try go_wp2_with fail
      exact hK.out _ _ ⟨rfl, keep12 hup hSz, hup⟩
    · intro p0 p1 p2 q0 q1 q2 wz hSz
      simp only [put6, Act.put, List.setIfInBounds_toArray, List.set_cons_zero, List.set_cons_succ]
      refine wpOp_stepS (o := ⟨_, _, _, _, _, _⟩) rfl (fun K' hK => ?_)
      go_simp
      (go_at_call 16; refine (c_Fit _ _ _ _ _ _ H.out x12 x13).mono ?_; rintro e wh ⟨rfl, hup⟩)
      try go_wp2_with fail
      exact hK.out _ _ ⟨rfl, keep12 hup hSz, hup⟩
    · intro p0 p1 p2 q0 q1 q2 wz hSz
      simp only [put6, Act.put, List.setIfInBounds_toArray, List.set_cons_zero, List.set_cons_succ]
      refine wpOp_stepS (o := ⟨_, _, _, _, _, _⟩) rfl (fun K' hK => ?_)
      go_simp
      (go_at_call 16; refine (c_Fit _ _ _ _ _ _ H.out x22 x23).mono ?_; rintro e wh ⟨rfl, hup⟩)
      try go_wp2_with fail
      exact hK.out _ _ ⟨rfl, keep12 hup hSz, hup⟩
    · intro p0 p1 p2 q0 q1 q2 wz hSz
      simp only [put6, ptr, Act.put, List.setIfInBounds_toArray, List.set_cons_zero, List.set_cons_succ]
      refine wpOp_stepS (o := ⟨_, _, _, _, _, _⟩) rfl (fun K' hK => ?_)
      go_simp
      exact hK.out _ _ ⟨rfl, keep12 ((Up.refl _).alloc _) hSz, rfl⟩
    · intro p0 p1 p2 q0 q1 q2 wz hSz
      simp only [put6, ptr, Act.put, List.setIfInBounds_toArray, List.set_cons_zero, List.set_cons_succ]
      refine wpOp_stepS (o := ⟨_, _, _, _, _, _⟩) rfl (fun K' hK => ?_)
      go_simp
      exact hK.out _ _ ⟨rfl, keep12 ((Up.refl _).alloc _) hSz, rfl⟩
    · intro p0 p1 p2 q0 q1 q2 wz hSz
      simp only [put6, ptr, Act.put, List.setIfInBounds_toArray, List.set_cons_zero, List.set_cons_succ]
      refine wpOp_stepS (o := ⟨_, _, _, _, _, _⟩) rfl (fun K' hK => ?_)
      go_simp
      exact hK.out _ _ ⟨rfl, keep12 ((Up.refl _).alloc _) hSz, rfl⟩
    · intro w0 hS0 hW B0 B1 B2 wz hSz hu z0 z1 z2 n01 n02 n12
      clear hSz
      simp only [put6, ptr, Act.put, List.setIfInBounds_toArray, List.set_cons_zero, List.set_cons_succ]
      obtain ⟨ge, ⟨y0, y1, y2, y3⟩, fz⟩ := id z0
      have fz0 := fz 0
      have fz1 := fz 1
      have fz2 := fz 2
      have fz3 := fz 3
      clear fz
      refine wpAnyH_ready (rs := [12]) (by kernel_rfl) (by simp) ?_
      refine AllReadyH.cons (o := ⟨_, _, _, _, _, _⟩) rfl (fun K hK => ?_) AllReadyH.nil
      go_simp
      refine hK.out _ _ ?_ (fun hHeld => ?_)
      · exact keep12 (st4_up hu ge _ _ _ _) hS0
      clear hK K hHeld ge y0 y1 y2 y3 fz0 fz1 fz2 fz3
      refine then_st1 hu z0 z1 z2 n01 n02 (fun wz hu z0 z1 z2 => ?_)
      obtain ⟨ge, ⟨y0, y1, y2, y3⟩, fz⟩ := id z1
      have fz0 := fz 0
      have fz1 := fz 1
      have fz2 := fz 2
      have fz3 := fz 3
      clear fz
      refine wpAnyH_ready (rs := [13]) (by kernel_rfl) (by simp) ?_
      refine AllReadyH.cons (o := ⟨_, _, _, _, _, _⟩) rfl (fun K hK => ?_) AllReadyH.nil
      go_simp
      refine hK.out _ _ ?_ (fun hHeld => ?_)
      · exact keep12 (st4_up hu ge _ _ _ _) hS0
      clear hK K hHeld ge y0 y1 y2 y3 fz0 fz1 fz2 fz3
      refine then_st2 hu z0 z1 z2 n01.symm n12 (fun wz hu z0 z1 z2 => ?_)
      obtain ⟨ge, ⟨y0, y1, y2, y3⟩, fz⟩ := id z2
      have fz0 := fz 0
      have fz1 := fz 1
      have fz2 := fz 2
      have fz3 := fz 3
      clear fz
      refine wpAnyH_ready (rs := [14]) (by kernel_rfl) (by simp) ?_
      refine AllReadyH.cons (o := ⟨_, _, _, _, _, _⟩) rfl (fun K hK => ?_) AllReadyH.nil
      go_simp
      refine hK.out _ _ ?_ (fun hHeld => ?_)
      · exact keep12 (st4_up hu ge _ _ _ _) hS0
      clear hK K hHeld ge y0 y1 y2 y3 fz0 fz1 fz2 fz3
      refine then_st3 hu z0 z1 z2 n02.symm n12.symm (fun wz hu z0 z1 z2 => ?_)
      refine wpAnyH_done (by kernel_rfl) ?_ _
      go_wp2_with fail
      go_meet
      case rel => exact ⟨B0, B1, B2, rfl, rfl, rfl, z0, z1, z2, hW.trans hu⟩
  case rest =>
    obtain ⟨B0, B1, B2, rfl, rfl, rfl, k0, k1, k2, hu⟩ := hcut
    have z0 := k0.lt
    obtain ⟨k00, k01, k02, k03⟩ := k0
    have z1 := k1.lt
    obtain ⟨k10, k11, k12, k13⟩ := k1
    have z2 := k2.lt
    obtain ⟨k20, k21, k22, k23⟩ := k2
    have hall := Up.refl wc
    cases hm : mt ⟨sg b a00, sg b a01, us b a02, us b a03⟩ (sg b a3) (us b a3)
    · go_wp2_with (first | (go_at_call 19; refine (c_lmWorks _).mono ?_; rintro e wh ⟨rfl, hup⟩; have hall := Up.via hall hup (by (repeat (first | exact Up.refl _ | assumption | refine Up.setCell ?_ (by first | omega | (dsimp only; omega) | simp) _ | refine Up.alloc ?_ _ | refine Up.drew ?_ | refine Up.trans ?_ (by assumption)))); have hc := hall.cells; have hf := hall.frozens) | (go_at_call 17; refine (c_Meets _ _ _ _ _ _ _ H.out (by first | exact x3 | exact x4 | exact x5 | exact wrap_U64 _)).mono ?_; rintro e wh ⟨rfl, hup⟩; have hall := Up.via hall hup (by (repeat (first | exact Up.refl _ | assumption | refine Up.setCell ?_ (by first | omega | (dsimp only; omega) | simp) _ | refine Up.alloc ?_ _ | refine Up.drew ?_ | refine Up.trans ?_ (by assumption)))); have hc := hall.cells; have hf := hall.frozens))
      go_ret
      refine ⟨rfl, ?_⟩
      (repeat (first | exact Up.refl _ | assumption | refine Up.setCell ?_ (by first | omega | (dsimp only; omega) | simp) _ | refine Up.alloc ?_ _ | refine Up.drew ?_ | refine Up.trans ?_ (by assumption)))
    · cases hn : mt ⟨sg b a10, sg b a11, us b a12, us b a13⟩ (sg b a4) (us b a4)
      · go_wp2_with (first | (go_at_call 19; refine (c_lmWorks _).mono ?_; rintro e wh ⟨rfl, hup⟩; have hall := Up.via hall hup (by (repeat (first | exact Up.refl _ | assumption | refine Up.setCell ?_ (by first | omega | (dsimp only; omega) | simp) _ | refine Up.alloc ?_ _ | refine Up.drew ?_ | refine Up.trans ?_ (by assumption)))); have hc := hall.cells; have hf := hall.frozens) | (go_at_call 17; refine (c_Meets _ _ _ _ _ _ _ H.out (by first | exact x3 | exact x4 | exact x5 | exact wrap_U64 _)).mono ?_; rintro e wh ⟨rfl, hup⟩; have hall := Up.via hall hup (by (repeat (first | exact Up.refl _ | assumption | refine Up.setCell ?_ (by first | omega | (dsimp only; omega) | simp) _ | refine Up.alloc ?_ _ | refine Up.drew ?_ | refine Up.trans ?_ (by assumption)))); have hc := hall.cells; have hf := hall.frozens))
        go_ret
        refine ⟨rfl, ?_⟩
        (repeat (first | exact Up.refl _ | assumption | refine Up.setCell ?_ (by first | omega | (dsimp only; omega) | simp) _ | refine Up.alloc ?_ _ | refine Up.drew ?_ | refine Up.trans ?_ (by assumption)))
      · cases ho : mt ⟨sg b a20, sg b a21, us b a22, us b a23⟩ (sg b a5) (us b a5)
        · go_wp2_with (first | (go_at_call 19; refine (c_lmWorks _).mono ?_; rintro e wh ⟨rfl, hup⟩; have hall := Up.via hall hup (by (repeat (first | exact Up.refl _ | assumption | refine Up.setCell ?_ (by first | omega | (dsimp only; omega) | simp) _ | refine Up.alloc ?_ _ | refine Up.drew ?_ | refine Up.trans ?_ (by assumption)))); have hc := hall.cells; have hf := hall.frozens) | (go_at_call 17; refine (c_Meets _ _ _ _ _ _ _ H.out (by first | exact x3 | exact x4 | exact x5 | exact wrap_U64 _)).mono ?_; rintro e wh ⟨rfl, hup⟩; have hall := Up.via hall hup (by (repeat (first | exact Up.refl _ | assumption | refine Up.setCell ?_ (by first | omega | (dsimp only; omega) | simp) _ | refine Up.alloc ?_ _ | refine Up.drew ?_ | refine Up.trans ?_ (by assumption)))); have hc := hall.cells; have hf := hall.frozens))
          go_ret
          refine ⟨rfl, ?_⟩
          (repeat (first | exact Up.refl _ | assumption | refine Up.setCell ?_ (by first | omega | (dsimp only; omega) | simp) _ | refine Up.alloc ?_ _ | refine Up.drew ?_ | refine Up.trans ?_ (by assumption)))
        · have hs : mt ⟨(addL b ⟨max (mulL b ⟨sg b a00, sg b a01, us b a02, us b a03⟩ ⟨sg b a10, sg b a11, us b a12, us b a13⟩).a (lst b), min (mulL b ⟨sg b a00, sg b a01, us b a02, us b a03⟩ ⟨sg b a10, sg b a11, us b a12, us b a13⟩).b (grt b), max (mulL b ⟨sg b a00, sg b a01, us b a02, us b a03⟩ ⟨sg b a10, sg b a11, us b a12, us b a13⟩).c 0, min (mulL b ⟨sg b a00, sg b a01, us b a02, us b a03⟩ ⟨sg b a10, sg b a11, us b a12, us b a13⟩).d (top b)⟩ ⟨sg b a20, sg b a21, us b a22, us b a23⟩).a, (addL b ⟨max (mulL b ⟨sg b a00, sg b a01, us b a02, us b a03⟩ ⟨sg b a10, sg b a11, us b a12, us b a13⟩).a (lst b), min (mulL b ⟨sg b a00, sg b a01, us b a02, us b a03⟩ ⟨sg b a10, sg b a11, us b a12, us b a13⟩).b (grt b), max (mulL b ⟨sg b a00, sg b a01, us b a02, us b a03⟩ ⟨sg b a10, sg b a11, us b a12, us b a13⟩).c 0, min (mulL b ⟨sg b a00, sg b a01, us b a02, us b a03⟩ ⟨sg b a10, sg b a11, us b a12, us b a13⟩).d (top b)⟩ ⟨sg b a20, sg b a21, us b a22, us b a23⟩).b, (addL b ⟨max (mulL b ⟨sg b a00, sg b a01, us b a02, us b a03⟩ ⟨sg b a10, sg b a11, us b a12, us b a13⟩).a (lst b), min (mulL b ⟨sg b a00, sg b a01, us b a02, us b a03⟩ ⟨sg b a10, sg b a11, us b a12, us b a13⟩).b (grt b), max (mulL b ⟨sg b a00, sg b a01, us b a02, us b a03⟩ ⟨sg b a10, sg b a11, us b a12, us b a13⟩).c 0, min (mulL b ⟨sg b a00, sg b a01, us b a02, us b a03⟩ ⟨sg b a10, sg b a11, us b a12, us b a13⟩).d (top b)⟩ ⟨sg b a20, sg b a21, us b a22, us b a23⟩).c, (addL b ⟨max (mulL b ⟨sg b a00, sg b a01, us b a02, us b a03⟩ ⟨sg b a10, sg b a11, us b a12, us b a13⟩).a (lst b), min (mulL b ⟨sg b a00, sg b a01, us b a02, us b a03⟩ ⟨sg b a10, sg b a11, us b a12, us b a13⟩).b (grt b), max (mulL b ⟨sg b a00, sg b a01, us b a02, us b a03⟩ ⟨sg b a10, sg b a11, us b a12, us b a13⟩).c 0, min (mulL b ⟨sg b a00, sg b a01, us b a02, us b a03⟩ ⟨sg b a10, sg b a11, us b a12, us b a13⟩).d (top b)⟩ ⟨sg b a20, sg b a21, us b a22, us b a23⟩).d⟩ (sg b (IntKind.u64.wrap (IntKind.u64.wrap (a3 * a4) + a5))) (us b (IntKind.u64.wrap (IntKind.u64.wrap (a3 * a4) + a5))) = true := muladd_sound H.out (fit_U64 H.out) (fit_U64 H.out) hm hn ho
          go_wp2_with (first | (go_at_call 17; refine (c_Meets _ _ _ _ _ _ _ H.out (by first | exact x3 | exact x4 | exact x5 | exact wrap_U64 _)).mono ?_; rintro e wh ⟨rfl, hup⟩; have hall := Up.via hall hup (by (repeat (first | exact Up.refl _ | assumption | refine Up.setCell ?_ (by first | omega | (dsimp only; omega) | simp) _ | refine Up.alloc ?_ _ | refine Up.drew ?_ | refine Up.trans ?_ (by assumption)))); have hc := hall.cells; have hf := hall.frozens) | (go_at_call 20; refine (c_Mul _ _ _ _ _ _ _ _ _ _ H.out (sg_I64 H.out) (sg_I64 H.out) (us_U64 H.out) (us_U64 H.out) (sg_I64 H.out) (sg_I64 H.out) (us_U64 H.out) (us_U64 H.out)).mono ?_; rintro e wh ⟨rfl, hup⟩; have hall := Up.via hall hup (by (repeat (first | exact Up.refl _ | assumption | refine Up.setCell ?_ (by first | omega | (dsimp only; omega) | simp) _ | refine Up.alloc ?_ _ | refine Up.drew ?_ | refine Up.trans ?_ (by assumption)))); have hc := hall.cells; have hf := hall.frozens) | (go_at_call 22; refine (c_Every _ _ H.out).mono ?_; rintro e wh ⟨rfl, hup⟩; have hall := Up.via hall hup (by (repeat (first | exact Up.refl _ | assumption | refine Up.setCell ?_ (by first | omega | (dsimp only; omega) | simp) _ | refine Up.alloc ?_ _ | refine Up.drew ?_ | refine Up.trans ?_ (by assumption)))); have hc := hall.cells; have hf := hall.frozens) | (go_at_call 21; refine (c_Intersect _ _ _ _ _ _ _ _ _).mono ?_; rintro e wh ⟨rfl, hup⟩; have hall := Up.via hall hup (by (repeat (first | exact Up.refl _ | assumption | refine Up.setCell ?_ (by first | omega | (dsimp only; omega) | simp) _ | refine Up.alloc ?_ _ | refine Up.drew ?_ | refine Up.trans ?_ (by assumption)))); have hc := hall.cells; have hf := hall.frozens))
          refine (c_lmWorks _).mono ?_
          rintro e w9 ⟨rfl, hal2⟩
          have hall := Up.via hall hal2 (by (repeat (first | exact Up.refl _ | assumption | refine Up.setCell ?_ (by first | omega | (dsimp only; omega) | simp) _ | refine Up.alloc ?_ _ | refine Up.drew ?_ | refine Up.trans ?_ (by assumption))))
          have hc := hall.cells
          have hf := hall.frozens
          have hc2 := hal2.cells
          have hf2 := hal2.frozens
          go_wp2_with (first | (go_at_call 23; refine (c_Add _ _ _ _ _ _ _ _ _ _ H.out HG.out.1 HG.out.2.1 HG.out.2.2.1 HG.out.2.2.2 (sg_I64 H.out) (sg_I64 H.out) (us_U64 H.out) (us_U64 H.out)).mono ?_; rintro e wh ⟨rfl, hup⟩; have hall := Up.via hall hup (by (repeat (first | exact Up.refl _ | assumption | refine Up.setCell ?_ (by first | omega | (dsimp only; omega) | simp) _ | refine Up.alloc ?_ _ | refine Up.drew ?_ | refine Up.trans ?_ (by assumption)))); have hal2 := Up.via hal2 hup (by (repeat (first | exact Up.refl _ | assumption | refine Up.setCell ?_ (by first | omega | (dsimp only; omega) | simp) _ | refine Up.alloc ?_ _ | refine Up.drew ?_ | refine Up.trans ?_ (by assumption)))); have hc := hall.cells; have hf := hall.frozens; have hc2 := hal2.cells; have hf2 := hal2.frozens) | (go_at_call 17; refine (c_Meets _ _ _ _ _ _ _ H.out (wrap_U64 _)).mono ?_; rintro e wh ⟨rfl, hup⟩; have hall := Up.via hall hup (by (repeat (first | exact Up.refl _ | assumption | refine Up.setCell ?_ (by first | omega | (dsimp only; omega) | simp) _ | refine Up.alloc ?_ _ | refine Up.drew ?_ | refine Up.trans ?_ (by assumption)))); have hal2 := Up.via hal2 hup (by (repeat (first | exact Up.refl _ | assumption | refine Up.setCell ?_ (by first | omega | (dsimp only; omega) | simp) _ | refine Up.alloc ?_ _ | refine Up.drew ?_ | refine Up.trans ?_ (by assumption)))); have hc := hall.cells; have hf := hall.frozens; have hc2 := hal2.cells; have hf2 := hal2.frozens))
          go_ret
          refine ⟨rfl, ?_⟩
          (repeat (first | exact Up.refl _ | assumption | refine Up.setCell ?_ (by first | omega | (dsimp only; omega) | simp) _ | refine Up.alloc ?_ _ | refine Up.drew ?_ | refine Up.trans ?_ (by assumption)))

theorem own : ownKnob Try.prog.godebug = none := by kernel_rfl
theorem laidOut : laidOutB Try.prog = true := by kernel_rfl
theorem cellsL : Try.prog.cellsOf 24 = 4 := by kernel_rfl
set_option maxRecDepth 100000 in
theorem lifted (os : Os) (started : os.Started) (H : Type) (enc : TypeId × Value → H) :
    ReturnsInHanded {} Try.checked os 7 .any (Rows.fnMulAddSoundSpec.pre6 enc Try.prog Try.f7 Rows.fnMulAddSoundRow.domain false) (Rows.fnMulAddSoundSpec.post enc Try.prog Try.f7 false true false false) := by
  refine returnsInHanded_of_change (C := Try.checked) own started (by kernel_rfl) Try.func7
    (ChangeSpec.witness6 (enc := enc) (C := Try.checked) false ⟨#[], #[.agg #[.int .i64 0, .int .i64 0, .int .u64 0, .int .u64 0], .agg #[.int .i64 0, .int .i64 0, .int .u64 0, .int .u64 0], .agg #[.int .i64 0, .int .i64 0, .int .u64 0, .int .u64 0], .int .u64 0, .int .u64 0, .int .u64 0, .int .i64 0], []⟩ 8 (by kernel_rfl) (by kernel_rfl) (by kernel_rfl) (by kernel_rfl)) ?_
  intro W base args ds gs before hval0 hW hcnd _
  have hval : ∀ (j : Nat) t v, Try.f7.params[j]? = some t → args[j]? = some v → Value.okWide Try.prog W .any base t v := hval0
  have hW' := hW
  obtain ⟨p, q, hA0, hV, rfl, hfz, hnd⟩ := hW
  have hA : DataW.TrodAll enc Try.prog W 0 (fun _ => true) true Try.f7.params.toList args.toList ds p := hA0
  rw [Try.params7] at hA hval
  obtain ⟨v0, vs0, d0, ds0, p0, q0, hargs, rfl, rfl, h0, r0⟩ := trodAll_cons hA
  obtain ⟨v1, vs1, d1, ds1, p1, q1, rfl, rfl, rfl, h1, r1⟩ := trodAll_cons r0
  obtain ⟨v2, vs2, d2, ds2, p2, q2, rfl, rfl, rfl, h2, r2⟩ := trodAll_cons r1
  obtain ⟨v3, vs3, d3, ds3, p3, q3, rfl, rfl, rfl, h3, r3⟩ := trodAll_cons r2
  obtain ⟨v4, vs4, d4, ds4, p4, q4, rfl, rfl, rfl, h4, r4⟩ := trodAll_cons r3
  obtain ⟨v5, vs5, d5, ds5, p5, q5, rfl, rfl, rfl, h5, r5⟩ := trodAll_cons r4
  obtain ⟨v6, vs6, d6, ds6, p6, q6, rfl, rfl, rfl, h6, r6⟩ := trodAll_cons r5
  obtain ⟨rfl, rfl, rfl⟩ := trodAll_nil r6
  obtain rfl : args = #[v0, v1, v2, v3, v4, v5, v6] := by cases args; simp_all
  obtain ⟨rfl, rfl⟩ := trodVars_none hV
  have k0 := h0
  have lt0 : ∀ x ∈ p0, x.block < W.heap.size := by obtain ⟨m, hm⟩ := k0; exact DataW.trod_lt m _ _ _ hm
  obtain ⟨c00, c01, c02, c03, y00, y01, y02, y03, m0, rfl, _, _, hy00, hy01, hy02, hy03⟩ := Go.Joins.open_agg4 Try.underlying24 (by kernel_rfl) cellsL (hval 0 24 v0 rfl rfl) h0
  obtain ⟨a00, e00, _, z00⟩ := DataW.trod_int Try.underlying2 hy00
  have x00 := bounds_i64 z00
  obtain ⟨a01, e01, _, z01⟩ := DataW.trod_int Try.underlying2 hy01
  have x01 := bounds_i64 z01
  obtain ⟨a02, e02, _, z02⟩ := DataW.trod_int Try.underlying22 hy02
  have x02 := bounds_u64 z02
  obtain ⟨a03, e03, _, z03⟩ := DataW.trod_int Try.underlying22 hy03
  have x03 := bounds_u64 z03
  simp only [List.cons.injEq, and_true] at e00 e01 e02 e03
  subst e00 e01 e02 e03
  have k1 := h1
  have lt1 : ∀ x ∈ p1, x.block < W.heap.size := by obtain ⟨m, hm⟩ := k1; exact DataW.trod_lt m _ _ _ hm
  obtain ⟨c10, c11, c12, c13, y10, y11, y12, y13, m1, rfl, _, _, hy10, hy11, hy12, hy13⟩ := Go.Joins.open_agg4 Try.underlying24 (by kernel_rfl) cellsL (hval 1 24 v1 rfl rfl) h1
  obtain ⟨a10, e10, _, z10⟩ := DataW.trod_int Try.underlying2 hy10
  have x10 := bounds_i64 z10
  obtain ⟨a11, e11, _, z11⟩ := DataW.trod_int Try.underlying2 hy11
  have x11 := bounds_i64 z11
  obtain ⟨a12, e12, _, z12⟩ := DataW.trod_int Try.underlying22 hy12
  have x12 := bounds_u64 z12
  obtain ⟨a13, e13, _, z13⟩ := DataW.trod_int Try.underlying22 hy13
  have x13 := bounds_u64 z13
  simp only [List.cons.injEq, and_true] at e10 e11 e12 e13
  subst e10 e11 e12 e13
  have k2 := h2
  have lt2 : ∀ x ∈ p2, x.block < W.heap.size := by obtain ⟨m, hm⟩ := k2; exact DataW.trod_lt m _ _ _ hm
  obtain ⟨c20, c21, c22, c23, y20, y21, y22, y23, m2, rfl, _, _, hy20, hy21, hy22, hy23⟩ := Go.Joins.open_agg4 Try.underlying24 (by kernel_rfl) cellsL (hval 2 24 v2 rfl rfl) h2
  obtain ⟨a20, e20, _, z20⟩ := DataW.trod_int Try.underlying2 hy20
  have x20 := bounds_i64 z20
  obtain ⟨a21, e21, _, z21⟩ := DataW.trod_int Try.underlying2 hy21
  have x21 := bounds_i64 z21
  obtain ⟨a22, e22, _, z22⟩ := DataW.trod_int Try.underlying22 hy22
  have x22 := bounds_u64 z22
  obtain ⟨a23, e23, _, z23⟩ := DataW.trod_int Try.underlying22 hy23
  have x23 := bounds_u64 z23
  simp only [List.cons.injEq, and_true] at e20 e21 e22 e23
  subst e20 e21 e22 e23
  obtain ⟨a3, rfl, rfl, rfl, z3⟩ := open_int Try.underlying22 (hval 3 22 v3 rfl rfl) h3
  have x3 := bounds_u64 z3
  obtain ⟨a4, rfl, rfl, rfl, z4⟩ := open_int Try.underlying22 (hval 4 22 v4 rfl rfl) h4
  have x4 := bounds_u64 z4
  obtain ⟨a5, rfl, rfl, rfl, z5⟩ := open_int Try.underlying22 (hval 5 22 v5 rfl rfl) h5
  have x5 := bounds_u64 z5
  obtain ⟨a6, rfl, rfl, rfl, z6⟩ := open_int Try.underlying3 (hval 6 3 v6 rfl rfl) h6
  have x6 := bounds_i64 z6
  clear hA0 hval0
  refine (walk a00 a01 a02 a03 x00 x01 x02 x03 a10 a11 a12 a13 x10 x11 x12 x13 a20 a21 a22 a23 x20 x21 x22 x23 a3 x3 a4 x4 a5 x5 a6 x6 W).mono fun e W' ⟨he, bel⟩ => ?_
  subst he
  exact ⟨_, rfl, _, _, _, [], _, [], hW', trodAll_mk1 (shut_bool Try.underlying4 _), (trodAll_cons_mk (Below.trod laidOut (by kernel_rfl) (of_decide_eq_true (by kernel_rfl)) k0 bel lt0) (trodAll_cons_mk (Below.trod laidOut (by kernel_rfl) (of_decide_eq_true (by kernel_rfl)) k1 bel lt1) (trodAll_cons_mk (Below.trod laidOut (by kernel_rfl) (of_decide_eq_true (by kernel_rfl)) k2 bel lt2) (trodAll_cons_mk (shut_int Try.underlying22 z3) (trodAll_cons_mk (shut_int Try.underlying22 z4) (trodAll_cons_mk (shut_int Try.underlying22 z5) (trodAll_cons_mk (shut_int Try.underlying3 z6) trodAll_mk0))))))), rfl, Below.frame bel _, fun h => by cases h⟩

theorem over : Rows.fnMulAddSoundRow.holds Try.pinned (OpenSpec.ofChange Rows.fnMulAddSoundSpec) :=
  OpenClaim.holds_of_wide 7 Try.f7 rfl rfl rfl rfl rfl rfl rfl ⟨rfl, rfl, rfl, rfl, rfl⟩ rfl rfl rfl rfl rfl (by kernel_rfl) Try.func7 (by kernel_rfl)
    (of_decide_eq_true (by kernel_rfl)) (by unfold Func.isWrapper; first | (rw [if_pos (by decide +kernel)]; kernel_rfl) | (rw [if_neg (by decide +kernel)]; exact ⟨rfl, rfl⟩))
    (fun os started H enc _ => lifted os started H enc)

/-- The statement. -/
theorem proved : Rows.FnMulAddSoundSaid := over
#print axioms proved
end Go.Proofs.Ytcnhhgglgfaheaa.lawFnMulAddSound
