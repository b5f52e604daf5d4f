/-
  For every limit l (any four bounds), every word x and every int n: FnCountsAgree(l, x, n) returns true (that the limits of the length, of the number of ones and of the zeros at the low end leave room for what is true of a value that is not 0, for limits of 8, 16, 32 or 64 bits). The one condition is the row's own: the table of math/bits holds what its initialiser lays, and the card ties that to the program's text.
-/
import Derived.Test.YtjfpjcaidjblnaaDoorAddw
import Derived.Test.YtjfpjcaidjblnaaDoorPlainCz
import Derived.Test.YtjfpjcaidjblnaaDoorDoor
import Derived.Test.YtjfpjcaidjblnaaDoorTie
import Derived.Test.YtjfpjcaidjblnaaDoorCards
import Derived.SevenTiedAt
import Derived.ProofKit
import Derived.OpenShut
import Derived.ChangeOld
import Derived.Lib.SmallJoins
namespace Go.Proofs.YtjfpjcaidjblnaaDoor.lawFnCountsAgree
open Go.ChangeShapes Go.WideShapes Go.ChangeAt Go.RowKit
set_option linter.unusedVariables false
set_option maxHeartbeats 1000000 in
theorem walk (a00 : Int) (a01 : Int) (a02 : Int) (a03 : Int) (x00 : I64 a00) (x01 : I64 a01) (x02 : U64 a02) (x03 : U64 a03) (a1 : Int) (x1 : U64 a1) (a2 : Int) (x2 : I64 a2) (w : World) (hT : Tab w) :
    Calls Tryd.prog 3 #[.agg #[.int .i64 a00, .int .i64 a01, .int .u64 a02, .int .u64 a03], .int .u64 a1, .int .i64 a2] w fun e w' => e = .returned (.bool true) ∧ Up w w' := by
  have HT := Lib.hid hT
  have hfd2 := fld2
  have hfd3 := fld3
  clear hT
  go_enter Tryd.func3, Tryd.ntmps3
  go_wp2_with fail
  refine (c_Bits _ _).mono ?_
  rintro e wb ⟨b, hb, rfl, rfl⟩
  have ub := us_bd (x := a1) hb
  have H := Lib.hid hb
  clear hb
  go_wp2_with fail
  refine (c_Fit _ _ _ _ _ _ H.out x02 x03).mono ?_
  rintro e w1 ⟨rfl, h1⟩
  cases hm : mt ⟨sg b a00, sg b a01, us b a02, us b a03⟩ (sg b a1) (us b a1)
  · clear ub
    go_wp2_with (first | (go_at_call 10; refine (c_Meets _ _ _ _ _ _ _ H.out x1).mono ?_; rintro e wh ⟨rfl, hall⟩; have hc := hall.cells; have hf := hall.frozens) | (go_at_call 12; refine (c_lmWorks _).mono ?_; rintro e wh ⟨rfl, hup⟩; have hall := Up.via hall hup (by (repeat (first | exact Up.refl _ | assumption | refine Up.setCell ?_ (by first | omega | (dsimp only; omega) | simp) _ | refine Up.alloc ?_ _ | refine Up.drew ?_ | refine Up.trans ?_ (by assumption)))); have hc := hall.cells; have hf := hall.frozens))
    go_ret
    refine ⟨rfl, ?_⟩
    (repeat (first | exact Up.refl _ | assumption | refine Up.setCell ?_ (by first | omega | (dsimp only; omega) | simp) _ | refine Up.alloc ?_ _ | refine Up.drew ?_ | refine Up.trans ?_ (by assumption)))
  · cases hz : (us b a1 == 0)
    · have hu : 0 < us b a1 := by rw [beq_eq_false_iff_ne] at hz; omega
      have j1 : decide (pmn (us b a02).toNat (us b a03).toNat ≤ Lib.bitLen (us b a03).toNat) = true := decide_eq_true (Int.ofNat_le.1 <| pop_agree (us_U64 H.out) (us_U64 H.out) (mt_iff.1 hm).2.2.1 (mt_iff.1 hm).2.2.2)
      have j2 : decide ((cz b (us b a02) (us b a03)).c < (Lib.bitLen (us b a03).toNat : Int)) = true := decide_eq_true (cz_agree H.out (us_U64 H.out) (us_U64 H.out) (mt_iff.1 hm).2.2.1 (mt_iff.1 hm).2.2.2 hu)
      clear ub hu
      go_wp2_with fail
      refine (c_Meets _ _ _ _ _ _ _ H.out x1).mono ?_
      rintro e w2 ⟨rfl, h2⟩
      have c2 := h2.cells
      have f2 := h2.frozens
      go_wp2_with fail
      refine (c_Unsigned _ _ _ H.out x1).mono ?_
      rintro e wh ⟨rfl, rfl⟩
      go_wp2_with fail
      refine (c_Bitlen _ _ _ _ _ _ (us_U64 H.out) (us_U64 H.out)).mono ?_
      rintro e w3 ⟨rfl, g3⟩
      have h3 := h2.trans g3
      have c3 := h3.cells
      have f3 := h3.frozens
      clear c2 f2
      have k0 := h3.later (a := ⟨w1.heap.size, 0, none⟩) (v := .int .i64 (sg b a00)) (by simp [go_sem])
      have k1 := h3.later (a := ⟨w1.heap.size, 1, none⟩) (v := .int .i64 (sg b a01)) (by simp [go_sem])
      have k2 := h3.later (a := ⟨w1.heap.size, 2, none⟩) (v := .int .u64 (us b a02)) (by simp [go_sem])
      have k3 := h3.later (a := ⟨w1.heap.size, 3, none⟩) (v := .int .u64 (us b a03)) (by simp [go_sem])
      go_wp2_with fail
      refine wp_region_held_drew (S := (fun w' => w'.cell? ⟨w1.heap.size, 0, none⟩ = some (.int .i64 (sg b a00)) ∧ w'.cell? ⟨w1.heap.size, 1, none⟩ = some (.int .i64 (sg b a01)) ∧ w'.cell? ⟨w1.heap.size, 2, none⟩ = some (.int .u64 (us b a02)) ∧ w'.cell? ⟨w1.heap.size, 3, none⟩ = some (.int .u64 (us b a03)) ∧ w'.cell? ⟨w3.heap.size, 3, none⟩ = some (.int .u64 (Lib.bitLen (us b a03).toNat)))) (by kernel_rfl) ?_ (fun hHeld => ?_)
      · first | assumption | (exact keep5 hup (by assumption)) | (exact ⟨(((Up.refl _).alloc _).drew).later k0, (((Up.refl _).alloc _).drew).later k1, (((Up.refl _).alloc _).drew).later k2, (((Up.refl _).alloc _).drew).later k3, by simp [go_sem]⟩)
      refine wpAnyH_ready (rs := [0]) (by kernel_rfl) (by simp) ?_
      refine AllReadyH.cons (o := ⟨_, _, _, _, _, _⟩) rfl (fun K hK => ?_) AllReadyH.nil
      go_simp
      (first | (go_at_call 12; refine (c_lmWorks _).mono ?_; rintro e wh ⟨rfl, hup⟩) | (go_at_call 14; refine (c_Popcount _ _ _ _ _ _ (us_U64 H.out) (us_U64 H.out)).mono ?_; rintro e wh ⟨rfl, hup⟩) | (go_at_call 15; refine (c_Ctz _ _ _ _ _ _ H.out (us_U64 H.out) (us_U64 H.out) (HT.out.later (by (repeat (first | exact Up.refl _ | assumption | refine Up.setCell ?_ (by first | omega | (dsimp only; omega) | simp) _ | refine Up.alloc ?_ _ | refine Up.drew ?_ | refine Up.trans ?_ (by assumption)))))).mono ?_; rintro e wh ⟨rfl, hup⟩))
      try go_wp2_with fail
      refine hK.out _ _ ?_ (fun hHeld => ?_)
      · first | assumption | (exact keep5 hup (by assumption)) | (exact ⟨(((Up.refl _).alloc _).drew).later k0, (((Up.refl _).alloc _).drew).later k1, (((Up.refl _).alloc _).drew).later k2, (((Up.refl _).alloc _).drew).later k3, by simp [go_sem]⟩)
      clear hK K
      try simp only [Act.put, List.setIfInBounds_toArray, List.set_cons_zero, List.set_cons_succ]
      refine wpAnyH_take (i := 1) (oi := ⟨_, _, _, _, _, _⟩) (v := ?_) rfl (by kernel_rfl) (by kernel_rfl) (by kernel_rfl) (fun _ _ _ h => h) (Or.inl ⟨by rfl, ?_⟩) (by assumption) ?_
      rotate_left 1
      · (intro w hSw; (try dsimp only at hSw); go_simp; (try with_reducible rfl))
      try simp only [Act.put, List.setIfInBounds_toArray, List.set_cons_zero, List.set_cons_succ]
      refine wpAnyH_take (i := 2) (oi := ⟨_, _, _, _, _, _⟩) (v := ?_) rfl (by kernel_rfl) (by kernel_rfl) (by kernel_rfl) (fun _ _ _ h => h) (Or.inl ⟨by rfl, ?_⟩) (by assumption) ?_
      rotate_left 1
      · (intro w hSw; (try dsimp only at hSw); go_simp; (try with_reducible rfl))
      try simp only [Act.put, List.setIfInBounds_toArray, List.set_cons_zero, List.set_cons_succ]
      refine wpAnyH_take (i := 3) (oi := ⟨_, _, _, _, _, _⟩) (v := ?_) rfl (by kernel_rfl) (by kernel_rfl) (by kernel_rfl) (fun _ _ _ h => h) (Or.inl ⟨by rfl, ?_⟩) (by assumption) ?_
      rotate_left 1
      · (intro w hSw; (try dsimp only at hSw); go_simp; (try with_reducible rfl))
      try simp only [Act.put, List.setIfInBounds_toArray, List.set_cons_zero, List.set_cons_succ]
      refine wpAnyH_take (i := 6) (oi := ⟨_, _, _, _, _, _⟩) (v := ?_) rfl (by kernel_rfl) (by kernel_rfl) (by kernel_rfl) (fun _ _ _ h => h) (Or.inl ⟨by rfl, ?_⟩) (by assumption) ?_
      rotate_left 1
      · (intro w hSw; (try dsimp only at hSw); go_simp; (try with_reducible rfl))
      try simp only [Act.put, List.setIfInBounds_toArray, List.set_cons_zero, List.set_cons_succ]
      refine wpAnyH_take (i := 7) (oi := ⟨_, _, _, _, _, _⟩) (v := ?_) rfl (by kernel_rfl) (by kernel_rfl) (by kernel_rfl) (fun _ _ _ h => h) (Or.inl ⟨by rfl, ?_⟩) (by assumption) ?_
      rotate_left 1
      · (intro w hSw; (try dsimp only at hSw); go_simp; (try with_reducible rfl))
      try simp only [Act.put, List.setIfInBounds_toArray, List.set_cons_zero, List.set_cons_succ]
      refine wpAnyH_ready (rs := [4]) (by kernel_rfl) (by simp) ?_
      refine AllReadyH.cons (o := ⟨_, _, _, _, _, _⟩) rfl (fun K hK => ?_) AllReadyH.nil
      go_simp
      (first | (go_at_call 12; refine (c_lmWorks _).mono ?_; rintro e wh ⟨rfl, hup⟩) | (go_at_call 14; refine (c_Popcount _ _ _ _ _ _ (us_U64 H.out) (us_U64 H.out)).mono ?_; rintro e wh ⟨rfl, hup⟩) | (go_at_call 15; refine (c_Ctz _ _ _ _ _ _ H.out (us_U64 H.out) (us_U64 H.out) (HT.out.later (by (repeat (first | exact Up.refl _ | assumption | refine Up.setCell ?_ (by first | omega | (dsimp only; omega) | simp) _ | refine Up.alloc ?_ _ | refine Up.drew ?_ | refine Up.trans ?_ (by assumption)))))).mono ?_; rintro e wh ⟨rfl, hup⟩))
      try go_wp2_with fail
      refine hK.out _ _ ?_ (fun hHeld => ?_)
      · first | assumption | (exact keep5 hup (by assumption)) | (exact ⟨(((Up.refl _).alloc _).drew).later k0, (((Up.refl _).alloc _).drew).later k1, (((Up.refl _).alloc _).drew).later k2, (((Up.refl _).alloc _).drew).later k3, by simp [go_sem]⟩)
      clear hK K
      try simp only [Act.put, List.setIfInBounds_toArray, List.set_cons_zero, List.set_cons_succ]
      refine wpAnyH_take (i := 5) (oi := ⟨_, _, _, _, _, _⟩) (v := ?_) rfl (by kernel_rfl) (by kernel_rfl) (by kernel_rfl) (fun _ _ _ h => h) (Or.inl ⟨by rfl, ?_⟩) (by assumption) ?_
      rotate_left 1
      · (intro w hSw; (try dsimp only at hSw); go_simp; (try with_reducible rfl))
      try simp only [Act.put, List.setIfInBounds_toArray, List.set_cons_zero, List.set_cons_succ]
      refine wpAnyH_take (i := 8) (oi := ⟨_, _, _, _, _, _⟩) (v := ?_) rfl (by kernel_rfl) (by kernel_rfl) (by kernel_rfl) (fun _ _ _ h => h) (Or.inl ⟨by rfl, ?_⟩) (by assumption) ?_
      rotate_left 1
      · (intro w hSw; (try dsimp only at hSw); go_simp; (try with_reducible rfl))
      try simp only [Act.put, List.setIfInBounds_toArray, List.set_cons_zero, List.set_cons_succ]
      refine wpAnyH_take (i := 9) (oi := ⟨_, _, _, _, _, _⟩) (v := ?_) rfl (by kernel_rfl) (by kernel_rfl) (by kernel_rfl) (fun _ _ _ h => h) (Or.inl ⟨by rfl, ?_⟩) (by assumption) ?_
      rotate_left 1
      · (intro w hSw; (try dsimp only at hSw); go_simp; (try with_reducible rfl))
      try simp only [Act.put, List.setIfInBounds_toArray, List.set_cons_zero, List.set_cons_succ]
      refine wpAnyH_take (i := 10) (oi := ⟨_, _, _, _, _, _⟩) (v := ?_) rfl (by kernel_rfl) (by kernel_rfl) (by kernel_rfl) (fun _ _ _ h => h) (Or.inl ⟨by rfl, ?_⟩) (by assumption) ?_
      rotate_left 1
      · (intro w hSw; (try dsimp only at hSw); go_simp; (try with_reducible rfl))
      try simp only [Act.put, List.setIfInBounds_toArray, List.set_cons_zero, List.set_cons_succ]
      refine wpAnyH_take (i := 11) (oi := ⟨_, _, _, _, _, _⟩) (v := ?_) rfl (by kernel_rfl) (by kernel_rfl) (by kernel_rfl) (fun _ _ _ h => h) (Or.inl ⟨by rfl, ?_⟩) (by assumption) ?_
      rotate_left 1
      · (intro w hSw; (try dsimp only at hSw); go_simp; (try with_reducible rfl))
      try simp only [Act.put, List.setIfInBounds_toArray, List.set_cons_zero, List.set_cons_succ]
      refine wpAnyH_take (i := 12) (oi := ⟨_, _, _, _, _, _⟩) (v := ?_) rfl (by kernel_rfl) (by kernel_rfl) (by kernel_rfl) (fun _ _ _ h => h) (Or.inl ⟨by rfl, ?_⟩) (by assumption) ?_
      rotate_left 1
      · (intro w hSw; (try dsimp only at hSw); go_simp; (try with_reducible rfl))
      try simp only [Act.put, List.setIfInBounds_toArray, List.set_cons_zero, List.set_cons_succ]
      refine wpAnyH_take (i := 15) (oi := ⟨_, _, _, _, _, _⟩) (v := ?_) rfl (by kernel_rfl) (by kernel_rfl) (by kernel_rfl) (fun _ _ _ h => h) (Or.inl ⟨by rfl, ?_⟩) (by assumption) ?_
      rotate_left 1
      · (intro w hSw; (try dsimp only at hSw); go_simp; (try with_reducible rfl))
      try simp only [Act.put, List.setIfInBounds_toArray, List.set_cons_zero, List.set_cons_succ]
      refine wpAnyH_take (i := 16) (oi := ⟨_, _, _, _, _, _⟩) (v := ?_) rfl (by kernel_rfl) (by kernel_rfl) (by kernel_rfl) (fun _ _ _ h => h) (Or.inl ⟨by rfl, ?_⟩) (by assumption) ?_
      rotate_left 1
      · (intro w hSw; (try dsimp only at hSw); go_simp; (try with_reducible rfl))
      try simp only [Act.put, List.setIfInBounds_toArray, List.set_cons_zero, List.set_cons_succ]
      refine wpAnyH_ready (rs := [13]) (by kernel_rfl) (by simp) ?_
      refine AllReadyH.cons (o := ⟨_, _, _, _, _, _⟩) rfl (fun K hK => ?_) AllReadyH.nil
      go_simp
      (first | (go_at_call 12; refine (c_lmWorks _).mono ?_; rintro e wh ⟨rfl, hup⟩) | (go_at_call 14; refine (c_Popcount _ _ _ _ _ _ (us_U64 H.out) (us_U64 H.out)).mono ?_; rintro e wh ⟨rfl, hup⟩) | (go_at_call 15; refine (c_Ctz _ _ _ _ _ _ H.out (us_U64 H.out) (us_U64 H.out) (HT.out.later (by (repeat (first | exact Up.refl _ | assumption | refine Up.setCell ?_ (by first | omega | (dsimp only; omega) | simp) _ | refine Up.alloc ?_ _ | refine Up.drew ?_ | refine Up.trans ?_ (by assumption)))))).mono ?_; rintro e wh ⟨rfl, hup⟩))
      try go_wp2_with fail
      refine hK.out _ _ ?_ (fun hHeld => ?_)
      · first | assumption | (exact keep5 hup (by assumption)) | (exact ⟨(((Up.refl _).alloc _).drew).later k0, (((Up.refl _).alloc _).drew).later k1, (((Up.refl _).alloc _).drew).later k2, (((Up.refl _).alloc _).drew).later k3, by simp [go_sem]⟩)
      clear hK K
      try simp only [Act.put, List.setIfInBounds_toArray, List.set_cons_zero, List.set_cons_succ]
      refine wpAnyH_take (i := 14) (oi := ⟨_, _, _, _, _, _⟩) (v := ?_) rfl (by kernel_rfl) (by kernel_rfl) (by kernel_rfl) (fun _ _ _ h => h) (Or.inl ⟨by rfl, ?_⟩) (by assumption) ?_
      rotate_left 1
      · (intro w hSw; (try dsimp only at hSw); go_simp; (try with_reducible rfl))
      try simp only [Act.put, List.setIfInBounds_toArray, List.set_cons_zero, List.set_cons_succ]
      refine wpAnyH_take (i := 17) (oi := ⟨_, _, _, _, _, _⟩) (v := ?_) rfl (by kernel_rfl) (by kernel_rfl) (by kernel_rfl) (fun _ _ _ h => h) (Or.inl ⟨by rfl, ?_⟩) (by assumption) ?_
      rotate_left 1
      · (intro w hSw; (try dsimp only at hSw); go_simp; (try with_reducible rfl))
      try simp only [Act.put, List.setIfInBounds_toArray, List.set_cons_zero, List.set_cons_succ]
      refine wpAnyH_take (i := 18) (oi := ⟨_, _, _, _, _, _⟩) (v := ?_) rfl (by kernel_rfl) (by kernel_rfl) (by kernel_rfl) (fun _ _ _ h => h) (Or.inl ⟨by rfl, ?_⟩) (by assumption) ?_
      rotate_left 1
      · (intro w hSw; (try dsimp only at hSw); go_simp; (try with_reducible rfl))
      try simp only [Act.put, List.setIfInBounds_toArray, List.set_cons_zero, List.set_cons_succ]
      refine wpAnyH_take (i := 19) (oi := ⟨_, _, _, _, _, _⟩) (v := ?_) rfl (by kernel_rfl) (by kernel_rfl) (by kernel_rfl) (fun _ _ _ h => h) (Or.inl ⟨by rfl, ?_⟩) (by assumption) ?_
      rotate_left 1
      · (intro w hSw; (try dsimp only at hSw); go_simp; (try with_reducible rfl))
      try simp only [Act.put, List.setIfInBounds_toArray, List.set_cons_zero, List.set_cons_succ]
      refine wpAnyH_done (by kernel_rfl) ?_ _
      go_wp2_with fail
      go_ret
      refine ⟨rfl, ?_⟩
      (repeat (first | exact Up.refl _ | assumption | refine Up.setCell ?_ (by first | omega | (dsimp only; omega) | simp) _ | refine Up.alloc ?_ _ | refine Up.drew ?_ | refine Up.trans ?_ (by assumption)))
    · clear ub
      go_wp2_with (first | (go_at_call 10; refine (c_Meets _ _ _ _ _ _ _ H.out x1).mono ?_; rintro e wh ⟨rfl, hall⟩; have hc := hall.cells; have hf := hall.frozens) | (go_at_call 12; refine (c_lmWorks _).mono ?_; rintro e wh ⟨rfl, hup⟩; have hall := Up.via hall hup (by (repeat (first | exact Up.refl _ | assumption | refine Up.setCell ?_ (by first | omega | (dsimp only; omega) | simp) _ | refine Up.alloc ?_ _ | refine Up.drew ?_ | refine Up.trans ?_ (by assumption)))); have hc := hall.cells; have hf := hall.frozens) | (go_at_call 11; refine (c_Unsigned _ _ _ H.out x1).mono ?_; rintro e wh ⟨rfl, rfl⟩))
      go_ret
      refine ⟨rfl, ?_⟩
      (repeat (first | exact Up.refl _ | assumption | refine Up.setCell ?_ (by first | omega | (dsimp only; omega) | simp) _ | refine Up.alloc ?_ _ | refine Up.drew ?_ | refine Up.trans ?_ (by assumption)))

theorem own : ownKnob Tryd.prog.godebug = none := by kernel_rfl
theorem laidOut : laidOutB Tryd.prog = true := by kernel_rfl
theorem cellsL : Tryd.prog.cellsOf 24 = 4 := by kernel_rfl
set_option maxRecDepth 100000 in
theorem lifted (os : Os) (started : os.Started) (H : Type) (enc : TypeId × Value → H) :
    ReturnsInHanded {} Tryd.checked os 3 .any (fun w args => (Rows.fnCountsAgreeSpec.pre enc Tryd.prog Tryd.f3 [] false w args ∧ laidMetH Tryd.prog laid1 w) ∧ sizedMet enc Tryd.prog Tryd.f3 (OpenSpec.ofChange Rows.fnCountsAgreeSpec) false w args) (Rows.fnCountsAgreeSpec.post enc Tryd.prog Tryd.f3 false true false false) := by
  refine returnsInHanded_of_change_and (C := Tryd.checked) (X := fun w _ => laidMetH Tryd.prog laid1 w) (fun _ _ _ hh h => h.of_heap hh) own started (by kernel_rfl) Tryd.func3
    (ChangeSpec.witness_shaped (enc := enc) (C := Tryd.checked) (os := os) (X := fun w _ => laidMetH Tryd.prog laid1 w) false (World.doorLaid Tryd.prog 14 os) #[.agg #[.int .i64 0, .int .i64 0, .int .u64 0, .int .u64 0], .int .u64 0, .int .i64 0] 8 rfl (World.shaped_of_RefB (by kernel_rfl) (by kernel_rfl)) (by kernel_rfl) (by kernel_rfl) (by kernel_rfl) (door_met os _)) ?_
  intro W base args ds gs before hval0 hW _ _ hL _
  have hval : ∀ (j : Nat) t v, Tryd.f3.params[j]? = some t → args[j]? = some v → Value.okWide Tryd.prog W .any base t v := hval0
  have hW' := hW
  obtain ⟨p, q, hA0, hV, rfl, hfz, hnd⟩ := hW
  have hA : DataW.TrodAll enc Tryd.prog W 0 (fun _ => true) true Tryd.f3.params.toList args.toList ds p := hA0
  rw [Tryd.params3] at hA hval
  obtain ⟨v0, vs0, d0, ds0, p0, q0, hargs, rfl, rfl, h0, r0⟩ := trodAll_cons hA
  obtain ⟨v1, vs1, d1, ds1, p1, q1, rfl, rfl, rfl, h1, r1⟩ := trodAll_cons r0
  obtain ⟨v2, vs2, d2, ds2, p2, q2, rfl, rfl, rfl, h2, r2⟩ := trodAll_cons r1
  obtain ⟨rfl, rfl, rfl⟩ := trodAll_nil r2
  obtain rfl : args = #[v0, v1, v2] := by cases args; simp_all
  obtain ⟨rfl, rfl⟩ := trodVars_none hV
  have k0 := h0
  have lt0 : ∀ x ∈ p0, x.block < W.heap.size := by obtain ⟨m, hm⟩ := k0; exact DataW.trod_lt m _ _ _ hm
  obtain ⟨c00, c01, c02, c03, y00, y01, y02, y03, m0, rfl, _, _, hy00, hy01, hy02, hy03⟩ := Go.Joins.open_agg4 Tryd.underlying24 (by kernel_rfl) cellsL (hval 0 24 v0 rfl rfl) h0
  obtain ⟨a00, e00, _, z00⟩ := DataW.trod_int Tryd.underlying2 hy00
  have x00 := bounds_i64 z00
  obtain ⟨a01, e01, _, z01⟩ := DataW.trod_int Tryd.underlying2 hy01
  have x01 := bounds_i64 z01
  obtain ⟨a02, e02, _, z02⟩ := DataW.trod_int Tryd.underlying22 hy02
  have x02 := bounds_u64 z02
  obtain ⟨a03, e03, _, z03⟩ := DataW.trod_int Tryd.underlying22 hy03
  have x03 := bounds_u64 z03
  simp only [List.cons.injEq, and_true] at e00 e01 e02 e03
  subst e00 e01 e02 e03
  obtain ⟨a1, rfl, rfl, rfl, z1⟩ := open_int Tryd.underlying22 (hval 1 22 v1 rfl rfl) h1
  have x1 := bounds_u64 z1
  obtain ⟨a2, rfl, rfl, rfl, z2⟩ := open_int Tryd.underlying3 (hval 2 3 v2 rfl rfl) h2
  have x2 := bounds_i64 z2
  clear hA0 hval0
  refine (walk a00 a01 a02 a03 x00 x01 x02 x03 a1 x1 a2 x2 W (tab_of_laid hL)).mono fun e W' ⟨he, bel⟩ => ?_
  subst he
  exact ⟨_, rfl, _, _, _, [], _, [], hW', trodAll_mk1 (shut_bool Tryd.underlying4 _), (trodAll_cons_mk (Below.trod laidOut (by kernel_rfl) (of_decide_eq_true (by kernel_rfl)) k0 bel lt0) (trodAll_cons_mk (shut_int Tryd.underlying22 z1) (trodAll_cons_mk (shut_int Tryd.underlying3 z2) trodAll_mk0))), rfl, Below.frame bel _, fun h => by cases h⟩

theorem over : Rows.fnCountsAgreeRow.holds Tryd.pinned (OpenSpec.ofChange Rows.fnCountsAgreeSpec) :=
  OpenClaim.holds_of_wide 3 Tryd.f3 rfl rfl rfl rfl rfl rfl rfl ⟨rfl, rfl, rfl, rfl, rfl⟩ rfl rfl rfl rfl rfl (by kernel_rfl) Tryd.func3 (by kernel_rfl)
    (of_decide_eq_true (by kernel_rfl)) (by unfold Func.isWrapper; first | (rw [if_pos (by decide +kernel)]; kernel_rfl) | (rw [if_neg (by decide +kernel)]; exact ⟨rfl, rfl⟩))
    (fun os started H enc _ => lifted os started H enc)

/-- The tied card. -/
theorem proved : Rows.FnCountsAgreeCardSaid :=
  Claim7.holds_tied_plain_at .later [] [.data] true (true, "965885b3a7e7dfe514cd92ce2e6e9c3c62a8898097ad111303c8ee8f90e29255") false
    over (fun _ h => by cases h) (by kernel_rfl) (fun _ h => by cases h) fnCountsAgree_row_tie rfl ⟨rfl, rfl⟩ (by kernel_rfl) rfl
    (fun f fn hf hfn => by
      obtain rfl : f = 3 := Option.some.inj ((show Tryd.prog.funcNamed "loop.example/pub-g01457/laws.FnCountsAgree" = some 3 by kernel_rfl).symm.trans hf) |>.symm
      obtain rfl : fn = Tryd.f3 := (Option.some.inj (Tryd.func3.symm.trans hfn)).symm
      exact ⟨by kernel_rfl, fun j t ht => by
        rw [Tryd.params3] at ht
        have hm : t ∈ [24, 22, 3] := by simpa using Array.mem_of_getElem? ht
        have hall : ([24, 22, 3].all fun u => !Tryd.prog.wantsStandIn u) = true := by kernel_rfl
        exact (show Tryd.prog.wantsStandIn t = false by simpa using List.all_eq_true.1 hall t hm)⟩)
    (by kernel_rfl)
#print axioms proved
end Go.Proofs.YtjfpjcaidjblnaaDoor.lawFnCountsAgree
