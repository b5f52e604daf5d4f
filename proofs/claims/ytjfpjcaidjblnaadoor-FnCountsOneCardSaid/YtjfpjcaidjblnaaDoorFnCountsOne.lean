/-
  For every word x and every int n: FnCountsOne(x, n) returns true (that the counts of one value alone, of 8, 16, 32 or 64 bits, are told). The one condition is the row's own: the table of math/bits holds what its initialiser lays, and the card ties that to the program's text.
-/
import Derived.Test.YtjfpjcaidjblnaaDoorAddw
import Derived.Test.YtjfpjcaidjblnaaDoorPlainCz
import Derived.Test.YtjfpjcaidjblnaaDoorAny2
import Derived.Test.YtjfpjcaidjblnaaDoorDoor
import Derived.Test.YtjfpjcaidjblnaaDoorTie
import Derived.Test.YtjfpjcaidjblnaaDoorCards
import Derived.SevenTiedAt
import Derived.Deep.DeepCutAuto
import Derived.ProofKit
import Derived.OpenShut
import Derived.ChangeOld
import Derived.Lib.SmallJoins
namespace Go.Proofs.YtjfpjcaidjblnaaDoor.lawFnCountsOne
open Go.ChangeShapes Go.WideShapes Go.ChangeAt Go.RowKit
set_option linter.unusedVariables false
set_option maxHeartbeats 1000000 in
theorem walk (a0 : Int) (x0 : U64 a0) (a1 : Int) (x1 : I64 a1) (w : World) (hT : Tab w) :
    Calls Tryd.prog 5 #[.int .u64 a0, .int .i64 a1] w fun e w' => e = .returned (.bool true) ∧ Up w w' := by
  have HT := Lib.hid hT
  clear hT
  go_enter Tryd.func5, Tryd.ntmps5
  go_wp2_with fail
  refine (c_Bits _ _).mono ?_
  rintro e wb ⟨b, hb, rfl, rfl⟩
  have hl := len_bd (us_U64 (x := a0) hb)
  have ht := trail_bd hb x0
  have hp := pop_le 64 (us b a0).toNat
  have ho := fun w => c_Ones a0 b w hb x0
  rw [ones_is hb x0] at ho
  have cC := fun w h => c_Ctz (sg b a0) (sg b a0) (us b a0) (us b a0) b w hb (us_U64 hb) (us_U64 hb) h
  simp only [cz_one hb x0] at cC
  have cP := fun w => c_Popcount (sg b a0) (sg b a0) (us b a0) (us b a0) b w (us_U64 hb) (us_U64 hb)
  simp only [(pmn_one _ (us_U64 (x := a0) hb).lt).1, (pmn_one _ (us_U64 (x := a0) hb).lt).2] at cP
  have hM := len_sound (us_U64 (x := a0) hb) (us_U64 (x := a0) hb) (Int.le_refl _) (Int.le_refl _)
  have cM := fun w => c_Meets (lst 64) (grt 64) (Lib.bitLen (us b a0).toNat : Int) (Lib.bitLen (us b a0).toNat : Int) (Lib.bitLen (us b a0).toNat : Int) 64 w b64 (by unfold U64; omega)
  rw [sg64 (by unfold I64; omega), us64 (by unfold U64; omega), hM] at cM
  have q1 : IntKind.u64.wrap (Lib.bitLen (us b a0).toNat : Int) = (Lib.bitLen (us b a0).toNat : Int) := by rw [IntKind.wrap_u64]; omega
  have q2 : IntKind.u64.wrap (Lib.ctzFrom b.toNat a0.toNat : Int) = (Lib.ctzFrom b.toNat a0.toNat : Int) := by rw [IntKind.wrap_u64]; omega
  have q3 : IntKind.u64.wrap (Lib.popAux 64 (us b a0).toNat : Int) = (Lib.popAux 64 (us b a0).toNat : Int) := by rw [IntKind.wrap_u64]; omega
  have H := Lib.hid hb
  clear hb
  go_wp2_with fail
  refine (c_One _ _ _ H.out x0).mono ?_
  rintro e w1 ⟨rfl, h1⟩
  go_wp2_with fail
  refine (c_Bitlen _ _ _ _ _ _ (us_U64 H.out) (us_U64 H.out)).mono ?_
  rintro e w2 ⟨rfl, h2⟩
  have c2 := h2.cells
  have f2 := h2.frozens
  go_wp2_with fail
  refine (c_Length _ _ _ H.out x0).mono ?_
  rintro e wh ⟨rfl, rfl⟩
  go_wp2_with fail
  refine (cM _).mono ?_
  rintro e w3 ⟨rfl, g3⟩
  have h3 := h2.trans g3
  clear c2 f2 cM hM
  have k0 := h3.later (a := ⟨w1.heap.size, 0, none⟩) (v := .int .i64 (sg b a0)) (by simp [go_sem])
  have k1 := h3.later (a := ⟨w1.heap.size, 1, none⟩) (v := .int .i64 (sg b a0)) (by simp [go_sem])
  have k2 := h3.later (a := ⟨w1.heap.size, 2, none⟩) (v := .int .u64 (us b a0)) (by simp [go_sem])
  have k3 := h3.later (a := ⟨w1.heap.size, 3, none⟩) (v := .int .u64 (us b a0)) (by simp [go_sem])
  have hw : Up w w3 := by (repeat (first | exact Up.refl _ | assumption | refine Up.setCell ?_ (by first | omega | (dsimp only; omega) | simp) _ | refine Up.alloc ?_ _ | refine Up.drew ?_ | refine Up.trans ?_ (by assumption)))
  clear h1 h2 h3 g3
  go_upto_region 5 with (fail)
  go_cut [7, 8] (fun s0 s1 wx => ∃ B0 B1 : Nat, s0 = .pointer (some ⟨B0, 0, none⟩) ∧ s1 = .pointer (some ⟨B1, 0, none⟩) ∧ Blk wx B0 (Lib.ctzFrom b.toNat a0.toNat : Int) (Lib.ctzFrom b.toNat a0.toNat : Int) (Lib.ctzFrom b.toNat a0.toNat : Int) (Lib.ctzFrom b.toNat a0.toNat : Int) ∧ Blk wx B1 (lst 64) (grt 64) (Lib.popAux 64 (us b a0).toNat : Int) (Lib.popAux 64 (us b a0).toNat : Int) ∧ Up w wx)
  case first =>
    refine wp_region_held_drew (S := fun w' => w'.cell? ⟨w1.heap.size, 0, none⟩ = some (.int .i64 (sg b a0)) ∧ w'.cell? ⟨w1.heap.size, 1, none⟩ = some (.int .i64 (sg b a0)) ∧ w'.cell? ⟨w1.heap.size, 2, none⟩ = some (.int .u64 (us b a0)) ∧ w'.cell? ⟨w1.heap.size, 3, none⟩ = some (.int .u64 (us b a0))) (by kernel_rfl) ?_ (fun hHeld => ?_)
    · exact keep4 (Up.drew (Up.refl _)) ⟨k0, k1, k2, k3⟩
    refine wpAnyH_take (i := 0) (oi := ⟨_, _, _, _, _, _⟩) (v := ?_) rfl (by kernel_rfl) (by kernel_rfl) (by kernel_rfl) (fun _ _ _ h => h) (Or.inl ⟨by rfl, ?_⟩) (by assumption) ?_
    rotate_left 1
    · (intro w hSw; (try dsimp only at hSw); go_simp; (try with_reducible rfl))
    try simp only [Act.put, List.setIfInBounds_toArray, List.set_cons_zero, List.set_cons_succ]
    refine wpAnyH_take (i := 1) (oi := ⟨_, _, _, _, _, _⟩) (v := ?_) rfl (by kernel_rfl) (by kernel_rfl) (by kernel_rfl) (fun _ _ _ h => h) (Or.inl ⟨by rfl, ?_⟩) (by assumption) ?_
    rotate_left 1
    · (intro w hSw; (try dsimp only at hSw); go_simp; (try with_reducible rfl))
    try simp only [Act.put, List.setIfInBounds_toArray, List.set_cons_zero, List.set_cons_succ]
    refine wpAnyH_take (i := 3) (oi := ⟨_, _, _, _, _, _⟩) (v := ?_) rfl (by kernel_rfl) (by kernel_rfl) (by kernel_rfl) (fun _ _ _ h => h) (Or.inl ⟨by rfl, ?_⟩) (by assumption) ?_
    rotate_left 1
    · (intro w hSw; (try dsimp only at hSw); go_simp; (try with_reducible rfl))
    try simp only [Act.put, List.setIfInBounds_toArray, List.set_cons_zero, List.set_cons_succ]
    refine wpAnyH_take (i := 4) (oi := ⟨_, _, _, _, _, _⟩) (v := ?_) rfl (by kernel_rfl) (by kernel_rfl) (by kernel_rfl) (fun _ _ _ h => h) (Or.inl ⟨by rfl, ?_⟩) (by assumption) ?_
    rotate_left 1
    · (intro w hSw; (try dsimp only at hSw); go_simp; (try with_reducible rfl))
    try simp only [Act.put, List.setIfInBounds_toArray, List.set_cons_zero, List.set_cons_succ]
    refine any2' 7 8 25 28 24 (.agg #[.int .i64 (Lib.ctzFrom b.toNat a0.toNat : Int), .int .i64 (Lib.ctzFrom b.toNat a0.toNat : Int), .int .u64 (Lib.ctzFrom b.toNat a0.toNat : Int), .int .u64 (Lib.ctzFrom b.toNat a0.toNat : Int)]) (.agg #[.int .i64 (lst 64), .int .i64 (grt 64), .int .u64 (Lib.popAux 64 (us b a0).toNat : Int), .int .u64 (Lib.popAux 64 (us b a0).toNat : Int)]) w (by kernel_rfl) (by kernel_rfl) (by kernel_rfl) (by rfl) hHeld (by (repeat (first | exact Up.refl _ | assumption | refine Up.setCell ?_ (by first | omega | (dsimp only; omega) | simp) _ | refine Up.alloc ?_ _ | refine Up.drew ?_ | refine Up.trans ?_ (by assumption)))) ?_ ?_ ?_ ?_ ?_
    · intro p0 p1 q0 q1 wz hSz hU
      simp only [put4, Act.put, List.setIfInBounds_toArray, List.set_cons_zero, List.set_cons_succ]
      refine wpOp_stepS (o := ⟨_, _, _, _, _, _⟩) rfl (fun K' hK => ?_)
      go_simp
      (go_at_call 15; refine (cC _ (HT.out.later hU)).mono ?_; rintro e wh ⟨rfl, hup⟩)
      try go_wp2_with fail
      exact hK.out _ _ ⟨rfl, keep4 hup hSz, hup⟩
    · intro p0 p1 q0 q1 wz hSz hU
      simp only [put4, Act.put, List.setIfInBounds_toArray, List.set_cons_zero, List.set_cons_succ]
      refine wpOp_stepS (o := ⟨_, _, _, _, _, _⟩) rfl (fun K' hK => ?_)
      go_simp
      (go_at_call 14; refine (cP _).mono ?_; rintro e wh ⟨rfl, hup⟩)
      try go_wp2_with fail
      exact hK.out _ _ ⟨rfl, keep4 hup hSz, hup⟩
    · intro p0 p1 q0 q1 wz hSz
      simp only [put4, ptr, Act.put, List.setIfInBounds_toArray, List.set_cons_zero, List.set_cons_succ]
      refine wpOp_stepS (o := ⟨_, _, _, _, _, _⟩) rfl (fun K' hK => ?_)
      go_simp
      exact hK.out _ _ ⟨rfl, keep4 ((Up.refl _).alloc _) hSz, rfl⟩
    · intro p0 p1 q0 q1 wz hSz
      simp only [put4, ptr, Act.put, List.setIfInBounds_toArray, List.set_cons_zero, List.set_cons_succ]
      refine wpOp_stepS (o := ⟨_, _, _, _, _, _⟩) rfl (fun K' hK => ?_)
      go_simp
      exact hK.out _ _ ⟨rfl, keep4 ((Up.refl _).alloc _) hSz, rfl⟩
    · intro w0 hS0 hW B0 B1 wz hSz hu z0 z1 n01
      clear hSz
      simp only [put4, ptr, Act.put, List.setIfInBounds_toArray, List.set_cons_zero, List.set_cons_succ]
      obtain ⟨ge, ⟨y0, y1, y2, y3⟩, fz⟩ := id z0
      have fz0 := fz 0
      have fz1 := fz 1
      have fz2 := fz 2
      have fz3 := fz 3
      clear fz
      refine wpAnyH_ready (rs := [8]) (by kernel_rfl) (by simp) ?_
      refine AllReadyH.cons (o := ⟨_, _, _, _, _, _⟩) rfl (fun K hK => ?_) AllReadyH.nil
      go_simp
      refine hK.out _ _ ?_ (fun hHeld => ?_)
      · exact keep4 (st4_up hu ge _ _ _ _) hS0
      clear hK K hHeld ge y0 y1 y2 y3 fz0 fz1 fz2 fz3
      refine then_st1 hu z0 z1 n01 (fun wz hu z0 z1 => ?_)
      obtain ⟨ge, ⟨y0, y1, y2, y3⟩, fz⟩ := id z1
      have fz0 := fz 0
      have fz1 := fz 1
      have fz2 := fz 2
      have fz3 := fz 3
      clear fz
      refine wpAnyH_ready (rs := [9]) (by kernel_rfl) (by simp) ?_
      refine AllReadyH.cons (o := ⟨_, _, _, _, _, _⟩) rfl (fun K hK => ?_) AllReadyH.nil
      go_simp
      refine hK.out _ _ ?_ (fun hHeld => ?_)
      · exact keep4 (st4_up hu ge _ _ _ _) hS0
      clear hK K hHeld ge y0 y1 y2 y3 fz0 fz1 fz2 fz3
      refine then_st2 hu z0 z1 n01.symm (fun wz hu z0 z1 => ?_)
      refine wpAnyH_done (by kernel_rfl) ?_ _
      go_wp2_with fail
      go_meet
      case rel => exact ⟨B0, B1, rfl, rfl, z0, z1, hW.trans hu⟩
  case rest =>
    obtain ⟨B0, B1, rfl, rfl, b0, b1, hu⟩ := hcut
    obtain ⟨k00, k01, k02, k03⟩ := b0
    obtain ⟨k10, k11, k12, k13⟩ := b1
    clear cC cP k0 k1 k2 k3 hw
    go_wp2_with fail
    refine wp_region_held_drew (S := (fun w' => w'.cell? ⟨B0, 2, none⟩ = some (.int .u64 (Lib.ctzFrom b.toNat a0.toNat : Int)) ∧ w'.cell? ⟨B0, 3, none⟩ = some (.int .u64 (Lib.ctzFrom b.toNat a0.toNat : Int)) ∧ w'.cell? ⟨B1, 2, none⟩ = some (.int .u64 (Lib.popAux 64 (us b a0).toNat : Int)) ∧ w'.cell? ⟨B1, 3, none⟩ = some (.int .u64 (Lib.popAux 64 (us b a0).toNat : Int)))) (by kernel_rfl) ?_ (fun hHeld => ?_)
    · first | assumption | (exact keepA (Up.drew (Up.refl _)) ⟨k02, k03, k12, k13⟩)
    refine wpAnyH_take (i := 0) (oi := ⟨_, _, _, _, _, _⟩) (v := ?_) rfl (by kernel_rfl) (by kernel_rfl) (by kernel_rfl) (fun _ _ _ h => h) (Or.inl ⟨by rfl, ?_⟩) (by assumption) ?_
    rotate_left 1
    · (intro w hSw; (try dsimp only at hSw); go_simp; (try with_reducible rfl))
    try simp only [Act.put, List.setIfInBounds_toArray, List.set_cons_zero, List.set_cons_succ]
    refine wpAnyH_take (i := 1) (oi := ⟨_, _, _, _, _, _⟩) (v := ?_) rfl (by kernel_rfl) (by kernel_rfl) (by kernel_rfl) (fun _ _ _ h => h) (Or.inl ⟨by rfl, ?_⟩) (by assumption) ?_
    rotate_left 1
    · (intro w hSw; (try dsimp only at hSw); go_simp; (try with_reducible rfl))
    try simp only [Act.put, List.setIfInBounds_toArray, List.set_cons_zero, List.set_cons_succ]
    refine wpAnyH_take (i := 2) (oi := ⟨_, _, _, _, _, _⟩) (v := ?_) rfl (by kernel_rfl) (by kernel_rfl) (by kernel_rfl) (fun _ _ _ h => h) (Or.inl ⟨by rfl, ?_⟩) (by assumption) ?_
    rotate_left 1
    · (intro w hSw; (try dsimp only at hSw); go_simp; (try with_reducible rfl))
    try simp only [Act.put, List.setIfInBounds_toArray, List.set_cons_zero, List.set_cons_succ]
    refine wpAnyH_take (i := 3) (oi := ⟨_, _, _, _, _, _⟩) (v := ?_) rfl (by kernel_rfl) (by kernel_rfl) (by kernel_rfl) (fun _ _ _ h => h) (Or.inl ⟨by rfl, ?_⟩) (by assumption) ?_
    rotate_left 1
    · (intro w hSw; (try dsimp only at hSw); go_simp; (try with_reducible rfl))
    try simp only [Act.put, List.setIfInBounds_toArray, List.set_cons_zero, List.set_cons_succ]
    refine wpAnyH_take (i := 4) (oi := ⟨_, _, _, _, _, _⟩) (v := ?_) rfl (by kernel_rfl) (by kernel_rfl) (by kernel_rfl) (fun _ _ _ h => h) (Or.inl ⟨by rfl, ?_⟩) (by assumption) ?_
    rotate_left 1
    · (intro w hSw; (try dsimp only at hSw); go_simp; (try with_reducible rfl))
    try simp only [Act.put, List.setIfInBounds_toArray, List.set_cons_zero, List.set_cons_succ]
    refine wpAnyH_take (i := 5) (oi := ⟨_, _, _, _, _, _⟩) (v := ?_) rfl (by kernel_rfl) (by kernel_rfl) (by kernel_rfl) (fun _ _ _ h => h) (Or.inl ⟨by rfl, ?_⟩) (by assumption) ?_
    rotate_left 1
    · (intro w hSw; (try dsimp only at hSw); go_simp; (try with_reducible rfl))
    try simp only [Act.put, List.setIfInBounds_toArray, List.set_cons_zero, List.set_cons_succ]
    refine wpAnyH_take (i := 6) (oi := ⟨_, _, _, _, _, _⟩) (v := ?_) rfl (by kernel_rfl) (by kernel_rfl) (by kernel_rfl) (fun _ _ _ h => h) (Or.inl ⟨by rfl, ?_⟩) (by assumption) ?_
    rotate_left 1
    · (intro w hSw; (try dsimp only at hSw); go_simp; (try with_reducible rfl))
    try simp only [Act.put, List.setIfInBounds_toArray, List.set_cons_zero, List.set_cons_succ]
    refine wpAnyH_take (i := 7) (oi := ⟨_, _, _, _, _, _⟩) (v := ?_) rfl (by kernel_rfl) (by kernel_rfl) (by kernel_rfl) (fun _ _ _ h => h) (Or.inl ⟨by rfl, ?_⟩) (by assumption) ?_
    rotate_left 1
    · (intro w hSw; (try dsimp only at hSw); go_simp; (try with_reducible rfl))
    try simp only [Act.put, List.setIfInBounds_toArray, List.set_cons_zero, List.set_cons_succ]
    refine wpAnyH_take (i := 8) (oi := ⟨_, _, _, _, _, _⟩) (v := ?_) rfl (by kernel_rfl) (by kernel_rfl) (by kernel_rfl) (fun _ _ _ h => h) (Or.inl ⟨by rfl, ?_⟩) (by assumption) ?_
    rotate_left 1
    · (intro w hSw; (try dsimp only at hSw); go_simp; (try with_reducible rfl))
    try simp only [Act.put, List.setIfInBounds_toArray, List.set_cons_zero, List.set_cons_succ]
    refine wpAnyH_take (i := 9) (oi := ⟨_, _, _, _, _, _⟩) (v := ?_) rfl (by kernel_rfl) (by kernel_rfl) (by kernel_rfl) (fun _ _ _ h => h) (Or.inl ⟨by rfl, ?_⟩) (by assumption) ?_
    rotate_left 1
    · (intro w hSw; (try dsimp only at hSw); go_simp; (try with_reducible rfl))
    try simp only [Act.put, List.setIfInBounds_toArray, List.set_cons_zero, List.set_cons_succ]
    refine wpAnyH_take (i := 10) (oi := ⟨_, _, _, _, _, _⟩) (v := ?_) rfl (by kernel_rfl) (by kernel_rfl) (by kernel_rfl) (fun _ _ _ h => h) (Or.inl ⟨by rfl, ?_⟩) (by assumption) ?_
    rotate_left 1
    · (intro w hSw; (try dsimp only at hSw); go_simp; (try with_reducible rfl))
    try simp only [Act.put, List.setIfInBounds_toArray, List.set_cons_zero, List.set_cons_succ]
    refine wpAnyH_take (i := 11) (oi := ⟨_, _, _, _, _, _⟩) (v := ?_) rfl (by kernel_rfl) (by kernel_rfl) (by kernel_rfl) (fun _ _ _ h => h) (Or.inl ⟨by rfl, ?_⟩) (by assumption) ?_
    rotate_left 1
    · (intro w hSw; (try dsimp only at hSw); go_simp; (try with_reducible rfl))
    try simp only [Act.put, List.setIfInBounds_toArray, List.set_cons_zero, List.set_cons_succ]
    refine wpAnyH_take (i := 12) (oi := ⟨_, _, _, _, _, _⟩) (v := ?_) rfl (by kernel_rfl) (by kernel_rfl) (by kernel_rfl) (fun _ _ _ h => h) (Or.inl ⟨by rfl, ?_⟩) (by assumption) ?_
    rotate_left 1
    · (intro w hSw; (try dsimp only at hSw); go_simp; (try with_reducible rfl))
    try simp only [Act.put, List.setIfInBounds_toArray, List.set_cons_zero, List.set_cons_succ]
    refine wpAnyH_take (i := 13) (oi := ⟨_, _, _, _, _, _⟩) (v := ?_) rfl (by kernel_rfl) (by kernel_rfl) (by kernel_rfl) (fun _ _ _ h => h) (Or.inl ⟨by rfl, ?_⟩) (by assumption) ?_
    rotate_left 1
    · (intro w hSw; (try dsimp only at hSw); go_simp; (try with_reducible rfl))
    try simp only [Act.put, List.setIfInBounds_toArray, List.set_cons_zero, List.set_cons_succ]
    refine wpAnyH_take (i := 14) (oi := ⟨_, _, _, _, _, _⟩) (v := ?_) rfl (by kernel_rfl) (by kernel_rfl) (by kernel_rfl) (fun _ _ _ h => h) (Or.inl ⟨by rfl, ?_⟩) (by assumption) ?_
    rotate_left 1
    · (intro w hSw; (try dsimp only at hSw); go_simp; (try with_reducible rfl))
    try simp only [Act.put, List.setIfInBounds_toArray, List.set_cons_zero, List.set_cons_succ]
    refine wpAnyH_take (i := 15) (oi := ⟨_, _, _, _, _, _⟩) (v := ?_) rfl (by kernel_rfl) (by kernel_rfl) (by kernel_rfl) (fun _ _ _ h => h) (Or.inl ⟨by rfl, ?_⟩) (by assumption) ?_
    rotate_left 1
    · (intro w hSw; (try dsimp only at hSw); go_simp; (try with_reducible rfl))
    try simp only [Act.put, List.setIfInBounds_toArray, List.set_cons_zero, List.set_cons_succ]
    refine wpAnyH_take (i := 16) (oi := ⟨_, _, _, _, _, _⟩) (v := ?_) rfl (by kernel_rfl) (by kernel_rfl) (by kernel_rfl) (fun _ _ _ h => h) (Or.inl ⟨by rfl, ?_⟩) (by assumption) ?_
    rotate_left 1
    · (intro w hSw; (try dsimp only at hSw); go_simp; (try with_reducible rfl))
    try simp only [Act.put, List.setIfInBounds_toArray, List.set_cons_zero, List.set_cons_succ]
    refine wpAnyH_ready (rs := [17]) (by kernel_rfl) (by simp) ?_
    refine AllReadyH.cons (o := ⟨_, _, _, _, _, _⟩) rfl (fun K hK => ?_) AllReadyH.nil
    go_simp
    (first | (go_at_call 18; refine (c_Trailing _ _ _ H.out x0).mono ?_; rintro e wh ⟨rfl, rfl⟩) | (go_at_call 19; refine (ho _).mono ?_; rintro e wh ⟨rfl, rfl⟩))
    try go_wp2_with fail
    refine hK.out _ _ ?_ (fun hHeld => ?_)
    · first | assumption | (exact keepA (Up.drew (Up.refl _)) ⟨k02, k03, k12, k13⟩)
    clear hK K
    try simp only [Act.put, List.setIfInBounds_toArray, List.set_cons_zero, List.set_cons_succ]
    refine wpAnyH_take (i := 18) (oi := ⟨_, _, _, _, _, _⟩) (v := ?_) rfl (by kernel_rfl) (by kernel_rfl) (by kernel_rfl) (fun _ _ _ h => h) (Or.inl ⟨by rfl, ?_⟩) (by assumption) ?_
    rotate_left 1
    · (intro w hSw; (try dsimp only at hSw); go_simp; (try with_reducible rfl))
    try simp only [Act.put, List.setIfInBounds_toArray, List.set_cons_zero, List.set_cons_succ]
    refine wpAnyH_take (i := 19) (oi := ⟨_, _, _, _, _, _⟩) (v := ?_) rfl (by kernel_rfl) (by kernel_rfl) (by kernel_rfl) (fun _ _ _ h => h) (Or.inl ⟨by rfl, ?_⟩) (by assumption) ?_
    rotate_left 1
    · (intro w hSw; (try dsimp only at hSw); go_simp; (try with_reducible rfl))
    try simp only [Act.put, List.setIfInBounds_toArray, List.set_cons_zero, List.set_cons_succ]
    refine wpAnyH_take (i := 20) (oi := ⟨_, _, _, _, _, _⟩) (v := ?_) rfl (by kernel_rfl) (by kernel_rfl) (by kernel_rfl) (fun _ _ _ h => h) (Or.inl ⟨by rfl, ?_⟩) (by assumption) ?_
    rotate_left 1
    · (intro w hSw; (try dsimp only at hSw); go_simp; (try with_reducible rfl))
    try simp only [Act.put, List.setIfInBounds_toArray, List.set_cons_zero, List.set_cons_succ]
    refine wpAnyH_take (i := 21) (oi := ⟨_, _, _, _, _, _⟩) (v := ?_) rfl (by kernel_rfl) (by kernel_rfl) (by kernel_rfl) (fun _ _ _ h => h) (Or.inl ⟨by rfl, ?_⟩) (by assumption) ?_
    rotate_left 1
    · (intro w hSw; (try dsimp only at hSw); go_simp; (try with_reducible rfl))
    try simp only [Act.put, List.setIfInBounds_toArray, List.set_cons_zero, List.set_cons_succ]
    refine wpAnyH_take (i := 22) (oi := ⟨_, _, _, _, _, _⟩) (v := ?_) rfl (by kernel_rfl) (by kernel_rfl) (by kernel_rfl) (fun _ _ _ h => h) (Or.inl ⟨by rfl, ?_⟩) (by assumption) ?_
    rotate_left 1
    · (intro w hSw; (try dsimp only at hSw); go_simp; (try with_reducible rfl))
    try simp only [Act.put, List.setIfInBounds_toArray, List.set_cons_zero, List.set_cons_succ]
    refine wpAnyH_take (i := 23) (oi := ⟨_, _, _, _, _, _⟩) (v := ?_) rfl (by kernel_rfl) (by kernel_rfl) (by kernel_rfl) (fun _ _ _ h => h) (Or.inl ⟨by rfl, ?_⟩) (by assumption) ?_
    rotate_left 1
    · (intro w hSw; (try dsimp only at hSw); go_simp; (try with_reducible rfl))
    try simp only [Act.put, List.setIfInBounds_toArray, List.set_cons_zero, List.set_cons_succ]
    refine wpAnyH_take (i := 24) (oi := ⟨_, _, _, _, _, _⟩) (v := ?_) rfl (by kernel_rfl) (by kernel_rfl) (by kernel_rfl) (fun _ _ _ h => h) (Or.inl ⟨by rfl, ?_⟩) (by assumption) ?_
    rotate_left 1
    · (intro w hSw; (try dsimp only at hSw); go_simp; (try with_reducible rfl))
    try simp only [Act.put, List.setIfInBounds_toArray, List.set_cons_zero, List.set_cons_succ]
    refine wpAnyH_take (i := 25) (oi := ⟨_, _, _, _, _, _⟩) (v := ?_) rfl (by kernel_rfl) (by kernel_rfl) (by kernel_rfl) (fun _ _ _ h => h) (Or.inl ⟨by rfl, ?_⟩) (by assumption) ?_
    rotate_left 1
    · (intro w hSw; (try dsimp only at hSw); go_simp; (try with_reducible rfl))
    try simp only [Act.put, List.setIfInBounds_toArray, List.set_cons_zero, List.set_cons_succ]
    refine wpAnyH_ready (rs := [26]) (by kernel_rfl) (by simp) ?_
    refine AllReadyH.cons (o := ⟨_, _, _, _, _, _⟩) rfl (fun K hK => ?_) AllReadyH.nil
    go_simp
    (first | (go_at_call 18; refine (c_Trailing _ _ _ H.out x0).mono ?_; rintro e wh ⟨rfl, rfl⟩) | (go_at_call 19; refine (ho _).mono ?_; rintro e wh ⟨rfl, rfl⟩))
    try go_wp2_with fail
    refine hK.out _ _ ?_ (fun hHeld => ?_)
    · first | assumption | (exact keepA (Up.drew (Up.refl _)) ⟨k02, k03, k12, k13⟩)
    clear hK K
    try simp only [Act.put, List.setIfInBounds_toArray, List.set_cons_zero, List.set_cons_succ]
    refine wpAnyH_take (i := 27) (oi := ⟨_, _, _, _, _, _⟩) (v := ?_) rfl (by kernel_rfl) (by kernel_rfl) (by kernel_rfl) (fun _ _ _ h => h) (Or.inl ⟨by rfl, ?_⟩) (by assumption) ?_
    rotate_left 1
    · (intro w hSw; (try dsimp only at hSw); go_simp; (try with_reducible rfl))
    try simp only [Act.put, List.setIfInBounds_toArray, List.set_cons_zero, List.set_cons_succ]
    refine wpAnyH_take (i := 28) (oi := ⟨_, _, _, _, _, _⟩) (v := ?_) rfl (by kernel_rfl) (by kernel_rfl) (by kernel_rfl) (fun _ _ _ h => h) (Or.inl ⟨by rfl, ?_⟩) (by assumption) ?_
    rotate_left 1
    · (intro w hSw; (try dsimp only at hSw); go_simp; (try with_reducible rfl))
    try simp only [Act.put, List.setIfInBounds_toArray, List.set_cons_zero, List.set_cons_succ]
    refine wpAnyH_take (i := 29) (oi := ⟨_, _, _, _, _, _⟩) (v := ?_) rfl (by kernel_rfl) (by kernel_rfl) (by kernel_rfl) (fun _ _ _ h => h) (Or.inl ⟨by rfl, ?_⟩) (by assumption) ?_
    rotate_left 1
    · (intro w hSw; (try dsimp only at hSw); go_simp; (try with_reducible rfl))
    try simp only [Act.put, List.setIfInBounds_toArray, List.set_cons_zero, List.set_cons_succ]
    refine wpAnyH_take (i := 30) (oi := ⟨_, _, _, _, _, _⟩) (v := ?_) rfl (by kernel_rfl) (by kernel_rfl) (by kernel_rfl) (fun _ _ _ h => h) (Or.inl ⟨by rfl, ?_⟩) (by assumption) ?_
    rotate_left 1
    · (intro w hSw; (try dsimp only at hSw); go_simp; (try with_reducible rfl))
    try simp only [Act.put, List.setIfInBounds_toArray, List.set_cons_zero, List.set_cons_succ]
    refine wpAnyH_done (by kernel_rfl) ?_ _
    go_wp2_with fail
    go_ret
    refine ⟨rfl, ?_⟩
    (repeat (first | exact Up.refl _ | assumption | refine Up.setCell ?_ (by first | omega | (dsimp only; omega) | simp) _ | refine Up.alloc ?_ _ | refine Up.drew ?_ | refine Up.trans ?_ (by assumption)))

theorem own : ownKnob Tryd.prog.godebug = none := by kernel_rfl
theorem laidOut : laidOutB Tryd.prog = true := by kernel_rfl
set_option maxRecDepth 100000 in
theorem lifted (os : Os) (started : os.Started) (H : Type) (enc : TypeId × Value → H) :
    ReturnsInHanded {} Tryd.checked os 5 .any (fun w args => (Rows.fnCountsOneSpec.pre enc Tryd.prog Tryd.f5 [] false w args ∧ laidMetH Tryd.prog laid1 w) ∧ sizedMet enc Tryd.prog Tryd.f5 (OpenSpec.ofChange Rows.fnCountsOneSpec) false w args) (Rows.fnCountsOneSpec.post enc Tryd.prog Tryd.f5 false true false false) := by
  refine returnsInHanded_of_change_and (C := Tryd.checked) (X := fun w _ => laidMetH Tryd.prog laid1 w) (fun _ _ _ hh h => h.of_heap hh) own started (by kernel_rfl) Tryd.func5
    (ChangeSpec.witness_shaped (enc := enc) (C := Tryd.checked) (os := os) (X := fun w _ => laidMetH Tryd.prog laid1 w) false (World.doorLaid Tryd.prog 14 os) #[.int .u64 0, .int .i64 0] 8 rfl (World.shaped_of_RefB (by kernel_rfl) (by kernel_rfl)) (by kernel_rfl) (by kernel_rfl) (by kernel_rfl) (door_met os _)) ?_
  intro W base args ds gs before hval0 hW _ _ hL _
  have hval : ∀ (j : Nat) t v, Tryd.f5.params[j]? = some t → args[j]? = some v → Value.okWide Tryd.prog W .any base t v := hval0
  have hW' := hW
  obtain ⟨p, q, hA0, hV, rfl, hfz, hnd⟩ := hW
  have hA : DataW.TrodAll enc Tryd.prog W 0 (fun _ => true) true Tryd.f5.params.toList args.toList ds p := hA0
  rw [Tryd.params5] at hA hval
  obtain ⟨v0, vs0, d0, ds0, p0, q0, hargs, rfl, rfl, h0, r0⟩ := trodAll_cons hA
  obtain ⟨v1, vs1, d1, ds1, p1, q1, rfl, rfl, rfl, h1, r1⟩ := trodAll_cons r0
  obtain ⟨rfl, rfl, rfl⟩ := trodAll_nil r1
  obtain rfl : args = #[v0, v1] := by cases args; simp_all
  obtain ⟨rfl, rfl⟩ := trodVars_none hV
  obtain ⟨a0, rfl, rfl, rfl, z0⟩ := open_int Tryd.underlying22 (hval 0 22 v0 rfl rfl) h0
  have x0 := bounds_u64 z0
  obtain ⟨a1, rfl, rfl, rfl, z1⟩ := open_int Tryd.underlying3 (hval 1 3 v1 rfl rfl) h1
  have x1 := bounds_i64 z1
  clear hA0 hval0
  refine (walk a0 x0 a1 x1 W (tab_of_laid hL)).mono fun e W' ⟨he, bel⟩ => ?_
  subst he
  exact ⟨_, rfl, _, _, _, [], _, [], hW', trodAll_mk1 (shut_bool Tryd.underlying4 _), (trodAll_cons_mk (shut_int Tryd.underlying22 z0) (trodAll_cons_mk (shut_int Tryd.underlying3 z1) trodAll_mk0)), rfl, Below.frame bel _, fun h => by cases h⟩

theorem over : Rows.fnCountsOneRow.holds Tryd.pinned (OpenSpec.ofChange Rows.fnCountsOneSpec) :=
  OpenClaim.holds_of_wide 5 Tryd.f5 rfl rfl rfl rfl rfl rfl rfl ⟨rfl, rfl, rfl, rfl, rfl⟩ rfl rfl rfl rfl rfl (by kernel_rfl) Tryd.func5 (by kernel_rfl)
    (of_decide_eq_true (by kernel_rfl)) (by unfold Func.isWrapper; first | (rw [if_pos (by decide +kernel)]; kernel_rfl) | (rw [if_neg (by decide +kernel)]; exact ⟨rfl, rfl⟩))
    (fun os started H enc _ => lifted os started H enc)

/-- The tied card. -/
theorem proved : Rows.FnCountsOneCardSaid :=
  Claim7.holds_tied_plain_at .later [] [.data] true (true, "965885b3a7e7dfe514cd92ce2e6e9c3c62a8898097ad111303c8ee8f90e29255") false
    over (fun _ h => by cases h) (by kernel_rfl) (fun _ h => by cases h) fnCountsOne_row_tie rfl ⟨rfl, rfl⟩ (by kernel_rfl) rfl
    (fun f fn hf hfn => by
      obtain rfl : f = 5 := Option.some.inj ((show Tryd.prog.funcNamed "loop.example/pub-g01457/laws.FnCountsOne" = some 5 by kernel_rfl).symm.trans hf) |>.symm
      obtain rfl : fn = Tryd.f5 := (Option.some.inj (Tryd.func5.symm.trans hfn)).symm
      exact ⟨by kernel_rfl, fun j t ht => by
        rw [Tryd.params5] at ht
        have hm : t ∈ [22, 3] := by simpa using Array.mem_of_getElem? ht
        have hall : ([22, 3].all fun u => !Tryd.prog.wantsStandIn u) = true := by kernel_rfl
        exact (show Tryd.prog.wantsStandIn t = false by simpa using List.all_eq_true.1 hall t hm)⟩)
    (by kernel_rfl)
#print axioms proved
end Go.Proofs.YtjfpjcaidjblnaaDoor.lawFnCountsOne
