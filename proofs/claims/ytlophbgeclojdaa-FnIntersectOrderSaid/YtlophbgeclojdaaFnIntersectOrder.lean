/-
  For all limits l, m, k (any bounds): FnIntersectOrder(l, m, k) returns true (that intersections do not depend on the order of two or three limits, and that one with itself is the limit). No condition.
-/
import Derived.Test.YtlophbgeclojdaaAddw
import Derived.Test.YtlophbgeclojdaaBound
import Derived.Test.YtlophbgeclojdaaAux
import Derived.Deep.DeepCutAuto
import Derived.ProofKit
import Derived.OpenShut
import Derived.ChangeOld
import Derived.Lib.SmallJoins
namespace Go.Proofs.Ytlophbgeclojdaa.lawFnIntersectOrder
open Go.ChangeShapes Go.WideShapes Go.ChangeAt Go.RowKit
set_option linter.unusedVariables false
set_option maxHeartbeats 1000000 in
theorem walk (a00 : Int) (a01 : Int) (a02 : Int) (a03 : Int) (x00 : I64 a00) (x01 : I64 a01) (x02 : U64 a02) (x03 : U64 a03) (a10 : Int) (a11 : Int) (a12 : Int) (a13 : Int) (x10 : I64 a10) (x11 : I64 a11) (x12 : U64 a12) (x13 : U64 a13) (a20 : Int) (a21 : Int) (a22 : Int) (a23 : Int) (x20 : I64 a20) (x21 : I64 a21) (x22 : U64 a22) (x23 : U64 a23) (w : World) :
    Calls Try.prog 14 #[.agg #[.int .i64 a00, .int .i64 a01, .int .u64 a02, .int .u64 a03], .agg #[.int .i64 a10, .int .i64 a11, .int .u64 a12, .int .u64 a13], .agg #[.int .i64 a20, .int .i64 a21, .int .u64 a22, .int .u64 a23]] w fun e w' => e = .returned (.bool true) ∧ Up w w' := by
  have q1 : max (max a00 a10) a20 = max a00 (max a10 a20) := by omega
  have q2 : min (min a01 a11) a21 = min a01 (min a11 a21) := by omega
  have q3 : max (max a02 a12) a22 = max a02 (max a12 a22) := by omega
  have q4 : min (min a03 a13) a23 = min a03 (min a13 a23) := by omega
  have r1 : max a10 a00 = max a00 a10 := by omega
  have r2 : min a11 a01 = min a01 a11 := by omega
  have r3 : max a12 a02 = max a02 a12 := by omega
  have r4 : min a13 a03 = min a03 a13 := by omega
  have R := Lib.hid (And.intro (And.intro q1 (And.intro q2 (And.intro q3 q4))) (And.intro r1 (And.intro r2 (And.intro r3 r4))))
  clear q1 q2 q3 q4 r1 r2 r3 r4
  have bb := three_boxes w 24 a00 a01 a02 a03 a10 a11 a12 a13 a20 a21 a22 a23
  have BB := Lib.hid bb
  clear bb
  go_enter Try.func14, Try.ntmps14
  go_upto_region 1 with (fail)
  go_cut [7] (fun s wx => ∃ B : Nat, s = .pointer (some ⟨B, 0, none⟩) ∧ Blk wx B (max a00 (max a10 a20)) (min a01 (min a11 a21)) (max a02 (max a12 a22)) (min a03 (min a13 a23)) ∧ Blk wx w.heap.size a00 a01 a02 a03 ∧ Blk wx (w.heap.size + 1) a10 a11 a12 a13 ∧ Blk wx (w.heap.size + 1 + 1) a20 a21 a22 a23 ∧ Up w wx)
  case first =>
    refine wp_region_held_drew (S := (fun w' => w'.cell? ⟨w.heap.size, 0, none⟩ = some (.int .i64 a00) ∧ w'.cell? ⟨w.heap.size, 1, none⟩ = some (.int .i64 a01) ∧ w'.cell? ⟨w.heap.size, 2, none⟩ = some (.int .u64 a02) ∧ w'.cell? ⟨w.heap.size, 3, none⟩ = some (.int .u64 a03) ∧ w'.cell? ⟨(w.heap.size + 1), 0, none⟩ = some (.int .i64 a10) ∧ w'.cell? ⟨(w.heap.size + 1), 1, none⟩ = some (.int .i64 a11) ∧ w'.cell? ⟨(w.heap.size + 1), 2, none⟩ = some (.int .u64 a12) ∧ w'.cell? ⟨(w.heap.size + 1), 3, none⟩ = some (.int .u64 a13) ∧ w'.cell? ⟨(w.heap.size + 1 + 1), 0, none⟩ = some (.int .i64 a20) ∧ w'.cell? ⟨(w.heap.size + 1 + 1), 1, none⟩ = some (.int .i64 a21) ∧ w'.cell? ⟨(w.heap.size + 1 + 1), 2, none⟩ = some (.int .u64 a22) ∧ w'.cell? ⟨(w.heap.size + 1 + 1), 3, none⟩ = some (.int .u64 a23))) (by kernel_rfl) ?_ (fun hS0 => ?_)
    · exact BB.out
    refine wpAnyH_take (i := 0) (oi := ⟨_, _, _, _, _, _⟩) (v := ?_) rfl (by kernel_rfl) (by kernel_rfl) (by kernel_rfl) (fun _ _ _ h => h) (Or.inl ⟨by rfl, ?_⟩) (by assumption) ?_
    rotate_left 1
    · (intro w hSw; (try dsimp only at hSw); go_simp; (try with_reducible rfl))
    try simp only [Act.put, List.setIfInBounds_toArray, List.set_cons_zero, List.set_cons_succ]
    refine wpAnyH_take (i := 1) (oi := ⟨_, _, _, _, _, _⟩) (v := ?_) rfl (by kernel_rfl) (by kernel_rfl) (by kernel_rfl) (fun _ _ _ h => h) (Or.inl ⟨by rfl, ?_⟩) (by assumption) ?_
    rotate_left 1
    · (intro w hSw; (try dsimp only at hSw); go_simp; (try with_reducible rfl))
    try simp only [Act.put, List.setIfInBounds_toArray, List.set_cons_zero, List.set_cons_succ]
    refine wpAnyH_take (i := 3) (oi := ⟨_, _, _, _, _, _⟩) (v := ?_) rfl (by kernel_rfl) (by kernel_rfl) (by kernel_rfl) (fun _ _ _ h => h) (Or.inl ⟨by rfl, ?_⟩) (by assumption) ?_
    rotate_left 1
    · (intro w hSw; (try dsimp only at hSw); go_simp; (try with_reducible rfl))
    try simp only [Act.put, List.setIfInBounds_toArray, List.set_cons_zero, List.set_cons_succ]
    refine wpAnyH_ready (rs := [2, 5]) (by kernel_rfl) (by simp) ?_
    refine AllReadyH.cons (o := ⟨_, _, _, _, _, _⟩) rfl (fun K hK => ?_) ?_
    · go_simp
      refine (c_Intersect _ _ _ _ _ _ _ _ _).mono ?_
      rintro e wc1 ⟨rfl, hu1⟩
      try go_wp2_with fail
      refine hK.out _ _ ?_ (fun hS1 => ?_)
      · exact keep12 hu1 hS0
      clear hK K
      try simp only [Act.put, List.setIfInBounds_toArray, List.set_cons_zero, List.set_cons_succ]
      refine wpAnyH_ready (rs := [4, 5]) (by kernel_rfl) (by simp) ?_
      refine AllReadyH.cons (o := ⟨_, _, _, _, _, _⟩) rfl (fun K hK => ?_) ?_
      · go_simp
        refine (c_Intersect _ _ _ _ _ _ _ _ _).mono ?_
        rintro e wc2 ⟨rfl, hu2⟩
        try go_wp2_with fail
        refine hK.out _ _ ?_ (fun hS2 => ?_)
        · exact keep12 hu2 hS1
        clear hK K
        try simp only [Act.put, List.setIfInBounds_toArray, List.set_cons_zero, List.set_cons_succ]
        refine wpAnyH_ready (rs := [5]) (by kernel_rfl) (by simp) ?_
        refine AllReadyH.cons (o := ⟨_, _, _, _, _, _⟩) rfl (fun K hK => ?_) AllReadyH.nil
        go_simp
        refine hK.out _ _ ?_ (fun hA => ?_)
        · exact keep12 ((Up.refl _).alloc _) hS2
        clear hK K
        try simp only [Act.put, List.setIfInBounds_toArray, List.set_cons_zero, List.set_cons_succ]
        refine wpAnyH_ready (rs := [6]) (by kernel_rfl) (by simp) ?_
        refine AllReadyH.cons (o := ⟨_, _, _, _, _, _⟩) rfl (fun K hK => ?_) AllReadyH.nil
        go_simp
        refine hK.out _ _ ?_ (fun hE => ?_)
        · exact keep12 ((Up.refl _).alloc _) hS2
        clear hK K
        try simp only [Act.put, List.setIfInBounds_toArray, List.set_cons_zero, List.set_cons_succ]
        refine wpAnyH_done (by kernel_rfl) ?_ _
        go_wp2_with fail
        go_meet
        case rel => exact ⟨_, rfl, blk_new wc2 24 (max a00 (max a10 a20)) (min a01 (min a11 a21)) (max a02 (max a12 a22)) (min a03 (min a13 a23)), Blk.later (w := wc2) ⟨hS2.1, hS2.2.1, hS2.2.2.1, hS2.2.2.2.1⟩ ((Up.refl _).alloc _), Blk.later (w := wc2) ⟨hS2.2.2.2.2.1, hS2.2.2.2.2.2.1, hS2.2.2.2.2.2.2.1, hS2.2.2.2.2.2.2.2.1⟩ ((Up.refl _).alloc _), Blk.later (w := wc2) ⟨hS2.2.2.2.2.2.2.2.2.1, hS2.2.2.2.2.2.2.2.2.2.1, hS2.2.2.2.2.2.2.2.2.2.2.1, hS2.2.2.2.2.2.2.2.2.2.2.2⟩ ((Up.refl _).alloc _), by (repeat (first | exact Up.refl _ | assumption | refine Up.setCell ?_ (by first | omega | (dsimp only; omega) | simp) _ | refine Up.alloc ?_ _ | refine Up.drew ?_ | refine Up.trans ?_ (by assumption)))⟩
      · refine AllReadyH.cons (o := ⟨_, _, _, _, _, _⟩) rfl (fun K hK => ?_) AllReadyH.nil
        go_simp
        refine hK.out _ _ ?_ (fun hA => ?_)
        · exact keep12 ((Up.refl _).alloc _) hS1
        clear hK K
        try simp only [Act.put, List.setIfInBounds_toArray, List.set_cons_zero, List.set_cons_succ]
        have hz := blz_new wc1 24
        have zl : w.heap.size ≤ wc1.heap.size := Up.le (W := w) (w1 := wc1) (by (repeat (first | exact Up.refl _ | assumption | refine Up.setCell ?_ (by first | omega | (dsimp only; omega) | simp) _ | refine Up.alloc ?_ _ | refine Up.drew ?_ | refine Up.trans ?_ (by assumption))))
        refine wpAnyH_ready (rs := [4]) (by kernel_rfl) (by simp) ?_
        refine AllReadyH.cons (o := ⟨_, _, _, _, _, _⟩) rfl (fun K hK => ?_) AllReadyH.nil
        go_simp
        refine (c_Intersect _ _ _ _ _ _ _ _ _).mono ?_
        rintro e wc2 ⟨rfl, hu2⟩
        try go_wp2_with fail
        refine hK.out _ _ ?_ (fun hT2 => ?_)
        · exact keep12 hu2 hA
        clear hK K
        try simp only [Act.put, List.setIfInBounds_toArray, List.set_cons_zero, List.set_cons_succ]
        have hz := hz.later hu2
        obtain ⟨⟨zz0, zz1, zz2, zz3⟩, zf0, zf1, zf2, zf3⟩ := id hz
        refine wpAnyH_ready (rs := [6]) (by kernel_rfl) (by simp) ?_
        refine AllReadyH.cons (o := ⟨_, _, _, _, _, _⟩) rfl (fun K hK => ?_) AllReadyH.nil
        go_simp
        refine hK.out _ _ ?_ (fun hE => ?_)
        · exact keepset12 (Nat.ne_of_gt (World.block_lt_of_cell? wc1 ⟨w.heap.size, 0, none⟩ hS1.1)) (Nat.ne_of_gt (World.block_lt_of_cell? wc1 ⟨w.heap.size + 1, 0, none⟩ hS1.2.2.2.2.1)) (Nat.ne_of_gt (World.block_lt_of_cell? wc1 ⟨w.heap.size + 1 + 1, 0, none⟩ hS1.2.2.2.2.2.2.2.2.1)) hT2
        clear hK K
        try simp only [Act.put, List.setIfInBounds_toArray, List.set_cons_zero, List.set_cons_succ]
        refine wpAnyH_done (by kernel_rfl) ?_ _
        go_wp2_with fail
        go_meet
        case rel => exact ⟨_, rfl, blz_set hz, Blk.far (w := wc2) ⟨hT2.1, hT2.2.1, hT2.2.2.1, hT2.2.2.2.1⟩ (Nat.ne_of_gt (World.block_lt_of_cell? wc1 ⟨w.heap.size, 0, none⟩ hS1.1)), Blk.far (w := wc2) ⟨hT2.2.2.2.2.1, hT2.2.2.2.2.2.1, hT2.2.2.2.2.2.2.1, hT2.2.2.2.2.2.2.2.1⟩ (Nat.ne_of_gt (World.block_lt_of_cell? wc1 ⟨w.heap.size + 1, 0, none⟩ hS1.2.2.2.2.1)), Blk.far (w := wc2) ⟨hT2.2.2.2.2.2.2.2.2.1, hT2.2.2.2.2.2.2.2.2.2.1, hT2.2.2.2.2.2.2.2.2.2.2.1, hT2.2.2.2.2.2.2.2.2.2.2.2⟩ (Nat.ne_of_gt (World.block_lt_of_cell? wc1 ⟨w.heap.size + 1 + 1, 0, none⟩ hS1.2.2.2.2.2.2.2.2.1)), by (repeat (first | exact Up.refl _ | assumption | refine Up.setCell ?_ (by first | omega | (dsimp only; omega) | simp) _ | refine Up.alloc ?_ _ | refine Up.drew ?_ | refine Up.trans ?_ (by assumption)))⟩
    · refine AllReadyH.cons (o := ⟨_, _, _, _, _, _⟩) rfl (fun K hK => ?_) AllReadyH.nil
      go_simp
      refine hK.out _ _ ?_ (fun hA => ?_)
      · exact keep12 ((Up.refl _).alloc _) hS0
      clear hK K
      try simp only [Act.put, List.setIfInBounds_toArray, List.set_cons_zero, List.set_cons_succ]
      have hz := (blz_new' (((w.alloc (.cells #[.int .i64 a00, .int .i64 a01, .int .u64 a02, .int .u64 a03] 24)).alloc (.cells #[.int .i64 a10, .int .i64 a11, .int .u64 a12, .int .u64 a13] 24)).alloc (.cells #[.int .i64 a20, .int .i64 a21, .int .u64 a22, .int .u64 a23] 24)) 24 (c := w.heap.size + 1 + 1 + 1) (by simp)).later ((Up.refl _).drew)
      refine wpAnyH_ready (rs := [2]) (by kernel_rfl) (by simp) ?_
      refine AllReadyH.cons (o := ⟨_, _, _, _, _, _⟩) rfl (fun K hK => ?_) AllReadyH.nil
      go_simp
      refine (c_Intersect _ _ _ _ _ _ _ _ _).mono ?_
      rintro e wc1 ⟨rfl, hu1⟩
      try go_wp2_with fail
      refine hK.out _ _ ?_ (fun hT1 => ?_)
      · exact keep12 hu1 hA
      clear hK K
      try simp only [Act.put, List.setIfInBounds_toArray, List.set_cons_zero, List.set_cons_succ]
      have hz := hz.later hu1
      refine wpAnyH_ready (rs := [4]) (by kernel_rfl) (by simp) ?_
      refine AllReadyH.cons (o := ⟨_, _, _, _, _, _⟩) rfl (fun K hK => ?_) AllReadyH.nil
      go_simp
      refine (c_Intersect _ _ _ _ _ _ _ _ _).mono ?_
      rintro e wc2 ⟨rfl, hu2⟩
      try go_wp2_with fail
      refine hK.out _ _ ?_ (fun hT2 => ?_)
      · exact keep12 hu2 hT1
      clear hK K
      try simp only [Act.put, List.setIfInBounds_toArray, List.set_cons_zero, List.set_cons_succ]
      have hz := hz.later hu2
      obtain ⟨⟨zz0, zz1, zz2, zz3⟩, zf0, zf1, zf2, zf3⟩ := id hz
      refine wpAnyH_ready (rs := [6]) (by kernel_rfl) (by simp) ?_
      refine AllReadyH.cons (o := ⟨_, _, _, _, _, _⟩) rfl (fun K hK => ?_) AllReadyH.nil
      go_simp
      refine hK.out _ _ ?_ (fun hE => ?_)
      · exact keepset12 (show w.heap.size + 1 + 1 + 1 ≠ w.heap.size by omega) (show w.heap.size + 1 + 1 + 1 ≠ w.heap.size + 1 by omega) (show w.heap.size + 1 + 1 + 1 ≠ w.heap.size + 1 + 1 by omega) hT2
      clear hK K
      try simp only [Act.put, List.setIfInBounds_toArray, List.set_cons_zero, List.set_cons_succ]
      refine wpAnyH_done (by kernel_rfl) ?_ _
      go_wp2_with fail
      go_meet
      case rel => exact ⟨_, rfl, blz_set hz, Blk.far (w := wc2) ⟨hT2.1, hT2.2.1, hT2.2.2.1, hT2.2.2.2.1⟩ (show w.heap.size + 1 + 1 + 1 ≠ w.heap.size by omega), Blk.far (w := wc2) ⟨hT2.2.2.2.2.1, hT2.2.2.2.2.2.1, hT2.2.2.2.2.2.2.1, hT2.2.2.2.2.2.2.2.1⟩ (show w.heap.size + 1 + 1 + 1 ≠ w.heap.size + 1 by omega), Blk.far (w := wc2) ⟨hT2.2.2.2.2.2.2.2.2.1, hT2.2.2.2.2.2.2.2.2.2.1, hT2.2.2.2.2.2.2.2.2.2.2.1, hT2.2.2.2.2.2.2.2.2.2.2.2⟩ (show w.heap.size + 1 + 1 + 1 ≠ w.heap.size + 1 + 1 by omega), by (repeat (first | exact Up.refl _ | assumption | refine Up.setCell ?_ (by first | omega | (dsimp only; omega) | simp) _ | refine Up.alloc ?_ _ | refine Up.drew ?_ | refine Up.trans ?_ (by assumption)))⟩
  case rest =>
    obtain ⟨B, rfl, k0, k1, k2, k3, hu⟩ := hcut
    obtain ⟨k00, k01, k02, k03⟩ := k0
    obtain ⟨k10, k11, k12, k13⟩ := k1
    obtain ⟨k20, k21, k22, k23⟩ := k2
    obtain ⟨k30, k31, k32, k33⟩ := k3
    have hall := Up.refl wc
    go_wp2_with fail
    obtain ⟨⟨q1, q2, q3, q4⟩, r1, r2, r3, r4⟩ := R.out
    have m1 : max a00 a00 = a00 := by omega
    have m2 : min a01 a01 = a01 := by omega
    have m3 : max a02 a02 = a02 := by omega
    have m4 : min a03 a03 = a03 := by omega
    go_region_held3 (fun w' => w'.cell? ⟨B, 0, none⟩ = some (.int .i64 (max a00 (max a10 a20))) ∧ w'.cell? ⟨B, 1, none⟩ = some (.int .i64 (min a01 (min a11 a21))) ∧ w'.cell? ⟨B, 2, none⟩ = some (.int .u64 (max a02 (max a12 a22))) ∧ w'.cell? ⟨B, 3, none⟩ = some (.int .u64 (min a03 (min a13 a23))) ∧ w'.cell? ⟨w.heap.size, 0, none⟩ = some (.int .i64 a00) ∧ w'.cell? ⟨w.heap.size, 1, none⟩ = some (.int .i64 a01) ∧ w'.cell? ⟨w.heap.size, 2, none⟩ = some (.int .u64 a02) ∧ w'.cell? ⟨w.heap.size, 3, none⟩ = some (.int .u64 a03) ∧ w'.cell? ⟨(w.heap.size + 1), 0, none⟩ = some (.int .i64 a10) ∧ w'.cell? ⟨(w.heap.size + 1), 1, none⟩ = some (.int .i64 a11) ∧ w'.cell? ⟨(w.heap.size + 1), 2, none⟩ = some (.int .u64 a12) ∧ w'.cell? ⟨(w.heap.size + 1), 3, none⟩ = some (.int .u64 a13) ∧ w'.cell? ⟨(w.heap.size + 1 + 1), 0, none⟩ = some (.int .i64 a20) ∧ w'.cell? ⟨(w.heap.size + 1 + 1), 1, none⟩ = some (.int .i64 a21) ∧ w'.cell? ⟨(w.heap.size + 1 + 1), 2, none⟩ = some (.int .u64 a22) ∧ w'.cell? ⟨(w.heap.size + 1 + 1), 3, none⟩ = some (.int .u64 a23)) (first | (exact keep16 hup (by assumption)) | (exact keep16 (Up.drew hall) ⟨k00, k01, k02, k03, k10, k11, k12, k13, k20, k21, k22, k23, k30, k31, k32, k33⟩)) (first | (go_at_call 17; refine (c_lmWorks _).mono ?_; rintro e wh ⟨rfl, hup⟩) | (go_at_call 27; refine (c_Intersect _ _ _ _ _ _ _ _ _).mono ?_; rintro e wh ⟨rfl, hup⟩))
    go_wp2
    go_ret
    refine ⟨rfl, ?_⟩
    (repeat (first | exact Up.refl _ | assumption | refine Up.setCell ?_ (by first | omega | (dsimp only; omega) | simp) _ | refine Up.alloc ?_ _ | refine Up.drew ?_ | refine Up.trans ?_ (by assumption)))

theorem own : ownKnob Try.prog.godebug = none := by kernel_rfl
theorem laidOut : laidOutB Try.prog = true := by kernel_rfl
theorem cellsL : Try.prog.cellsOf 24 = 4 := by kernel_rfl
set_option maxRecDepth 100000 in
theorem lifted (os : Os) (started : os.Started) (H : Type) (enc : TypeId × Value → H) :
    ReturnsInHanded {} Try.checked os 14 .any (Rows.fnIntersectOrderSpec.pre6 enc Try.prog Try.f14 Rows.fnIntersectOrderRow.domain false) (Rows.fnIntersectOrderSpec.post enc Try.prog Try.f14 false true false false) := by
  refine returnsInHanded_of_change (C := Try.checked) own started (by kernel_rfl) Try.func14
    (ChangeSpec.witness6 (enc := enc) (C := Try.checked) false ⟨#[], #[.agg #[.int .i64 0, .int .i64 0, .int .u64 0, .int .u64 0], .agg #[.int .i64 0, .int .i64 0, .int .u64 0, .int .u64 0], .agg #[.int .i64 0, .int .i64 0, .int .u64 0, .int .u64 0]], []⟩ 8 (by kernel_rfl) (by kernel_rfl) (by kernel_rfl) (by kernel_rfl)) ?_
  intro W base args ds gs before hval0 hW hcnd _
  have hval : ∀ (j : Nat) t v, Try.f14.params[j]? = some t → args[j]? = some v → Value.okWide Try.prog W .any base t v := hval0
  have hW' := hW
  obtain ⟨p, q, hA0, hV, rfl, hfz, hnd⟩ := hW
  have hA : DataW.TrodAll enc Try.prog W 0 (fun _ => true) true Try.f14.params.toList args.toList ds p := hA0
  rw [Try.params14] at hA hval
  obtain ⟨v0, vs0, d0, ds0, p0, q0, hargs, rfl, rfl, h0, r0⟩ := trodAll_cons hA
  obtain ⟨v1, vs1, d1, ds1, p1, q1, rfl, rfl, rfl, h1, r1⟩ := trodAll_cons r0
  obtain ⟨v2, vs2, d2, ds2, p2, q2, rfl, rfl, rfl, h2, r2⟩ := trodAll_cons r1
  obtain ⟨rfl, rfl, rfl⟩ := trodAll_nil r2
  obtain rfl : args = #[v0, v1, v2] := by cases args; simp_all
  obtain ⟨rfl, rfl⟩ := trodVars_none hV
  have k0 := h0
  have lt0 : ∀ x ∈ p0, x.block < W.heap.size := by obtain ⟨m, hm⟩ := k0; exact DataW.trod_lt m _ _ _ hm
  obtain ⟨c00, c01, c02, c03, y00, y01, y02, y03, m0, rfl, _, _, hy00, hy01, hy02, hy03⟩ := Go.Joins.open_agg4 Try.underlying24 (by kernel_rfl) cellsL (hval 0 24 v0 rfl rfl) h0
  obtain ⟨a00, e00, _, z00⟩ := DataW.trod_int Try.underlying2 hy00
  have x00 := bounds_i64 z00
  obtain ⟨a01, e01, _, z01⟩ := DataW.trod_int Try.underlying2 hy01
  have x01 := bounds_i64 z01
  obtain ⟨a02, e02, _, z02⟩ := DataW.trod_int Try.underlying22 hy02
  have x02 := bounds_u64 z02
  obtain ⟨a03, e03, _, z03⟩ := DataW.trod_int Try.underlying22 hy03
  have x03 := bounds_u64 z03
  simp only [List.cons.injEq, and_true] at e00 e01 e02 e03
  subst e00 e01 e02 e03
  have k1 := h1
  have lt1 : ∀ x ∈ p1, x.block < W.heap.size := by obtain ⟨m, hm⟩ := k1; exact DataW.trod_lt m _ _ _ hm
  obtain ⟨c10, c11, c12, c13, y10, y11, y12, y13, m1, rfl, _, _, hy10, hy11, hy12, hy13⟩ := Go.Joins.open_agg4 Try.underlying24 (by kernel_rfl) cellsL (hval 1 24 v1 rfl rfl) h1
  obtain ⟨a10, e10, _, z10⟩ := DataW.trod_int Try.underlying2 hy10
  have x10 := bounds_i64 z10
  obtain ⟨a11, e11, _, z11⟩ := DataW.trod_int Try.underlying2 hy11
  have x11 := bounds_i64 z11
  obtain ⟨a12, e12, _, z12⟩ := DataW.trod_int Try.underlying22 hy12
  have x12 := bounds_u64 z12
  obtain ⟨a13, e13, _, z13⟩ := DataW.trod_int Try.underlying22 hy13
  have x13 := bounds_u64 z13
  simp only [List.cons.injEq, and_true] at e10 e11 e12 e13
  subst e10 e11 e12 e13
  have k2 := h2
  have lt2 : ∀ x ∈ p2, x.block < W.heap.size := by obtain ⟨m, hm⟩ := k2; exact DataW.trod_lt m _ _ _ hm
  obtain ⟨c20, c21, c22, c23, y20, y21, y22, y23, m2, rfl, _, _, hy20, hy21, hy22, hy23⟩ := Go.Joins.open_agg4 Try.underlying24 (by kernel_rfl) cellsL (hval 2 24 v2 rfl rfl) h2
  obtain ⟨a20, e20, _, z20⟩ := DataW.trod_int Try.underlying2 hy20
  have x20 := bounds_i64 z20
  obtain ⟨a21, e21, _, z21⟩ := DataW.trod_int Try.underlying2 hy21
  have x21 := bounds_i64 z21
  obtain ⟨a22, e22, _, z22⟩ := DataW.trod_int Try.underlying22 hy22
  have x22 := bounds_u64 z22
  obtain ⟨a23, e23, _, z23⟩ := DataW.trod_int Try.underlying22 hy23
  have x23 := bounds_u64 z23
  simp only [List.cons.injEq, and_true] at e20 e21 e22 e23
  subst e20 e21 e22 e23
  clear hA0 hval0
  refine (walk a00 a01 a02 a03 x00 x01 x02 x03 a10 a11 a12 a13 x10 x11 x12 x13 a20 a21 a22 a23 x20 x21 x22 x23 W).mono fun e W' ⟨he, bel⟩ => ?_
  subst he
  exact ⟨_, rfl, _, _, _, [], _, [], hW', trodAll_mk1 (shut_bool Try.underlying4 _), (trodAll_cons_mk (Below.trod laidOut (by kernel_rfl) (of_decide_eq_true (by kernel_rfl)) k0 bel lt0) (trodAll_cons_mk (Below.trod laidOut (by kernel_rfl) (of_decide_eq_true (by kernel_rfl)) k1 bel lt1) (trodAll_cons_mk (Below.trod laidOut (by kernel_rfl) (of_decide_eq_true (by kernel_rfl)) k2 bel lt2) trodAll_mk0))), rfl, Below.frame bel _, fun h => by cases h⟩

theorem over : Rows.fnIntersectOrderRow.holds Try.pinned (OpenSpec.ofChange Rows.fnIntersectOrderSpec) :=
  OpenClaim.holds_of_wide 14 Try.f14 rfl rfl rfl rfl rfl rfl rfl ⟨rfl, rfl, rfl, rfl, rfl⟩ rfl rfl rfl rfl rfl (by kernel_rfl) Try.func14 (by kernel_rfl)
    (of_decide_eq_true (by kernel_rfl)) (by unfold Func.isWrapper; first | (rw [if_pos (by decide +kernel)]; kernel_rfl) | (rw [if_neg (by decide +kernel)]; exact ⟨rfl, rfl⟩))
    (fun os started H enc _ => lifted os started H enc)

/-- The statement. -/
theorem proved : Rows.FnIntersectOrderSaid := over
#print axioms proved
end Go.Proofs.Ytlophbgeclojdaa.lawFnIntersectOrder
