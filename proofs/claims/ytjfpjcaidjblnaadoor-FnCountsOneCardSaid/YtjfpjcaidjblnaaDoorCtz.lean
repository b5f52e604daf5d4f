/-
  The zeros at the low end of the values of a limit: contracts.
-/
import Derived.Test.YtjfpjcaidjblnaaDoorPlainFix
import Derived.Test.YtjfpjcaidjblnaaDoorPlainCtz
import Derived.Test.YtjfpjcaidjblnaaDoorTz
import Derived.Test.YtjfpjcaidjblnaaDoorPop
namespace Go.Proofs.YtjfpjcaidjblnaaDoor
open Go.RowKit
set_option linter.unusedVariables false
/-- What Ctz of a limit is. -/
def cz (b r t : Int) : Lm :=
  if vr r t = 0 then ⟨min (Lib.ctz 64 r.toNat : Int) b, min (Lib.ctz 64 r.toNat : Int) b, min (Lib.ctz 64 r.toNat : Int) b, min (Lib.ctz 64 r.toNat : Int) b⟩
  else if r % 2 ^ vr r t = 0 then ⟨lst 64, grt 64, 0, min (Lib.ctz 64 (r / 2 ^ vr r t * 2 ^ vr r t).toNat : Int) b⟩ else ⟨lst 64, grt 64, 0, (vr r t : Int) - 1⟩
theorem ctz_le64 (y : Nat) (h : y < 2 ^ 64) : Lib.ctz 64 y ≤ 64 := by
  by_cases h0 : y = 0
  · subst h0; exact Nat.le_refl _
  · have := (ctz_spec h0 h).1
    omega
set_option maxHeartbeats 2000000 in
theorem c_lctz (p q r t b : Int) (w : World) (hb : B4 b) (hr : U64 r) (ht : U64 t) (hT : Tab w) :
    Calls Tryd.prog 34 #[.agg #[.int .i64 p, .int .i64 q, .int .u64 r, .int .u64 t], .int .u64 b] w fun e w' => e = .returned (.agg #[.int .i64 (cz b r t).a, .int .i64 (cz b r t).b, .int .u64 (cz b r t).c, .int .u64 (cz b r t).d]) ∧ Up w w' := by
  obtain ⟨b1, b2⟩ := hb.bd
  clear hb
  have hv := vr_le hr ht
  have c1 := fun w => c_fixed p q r t w hr ht
  unfold cz
  generalize vr r t = v at *
  have o1 := fun w h => c_TZ64 (r / 2 ^ v * 2 ^ v) w (high_U64 hr) h
  have m1 := low_is hr hv
  have z1 : (64 : Int) - (64 - (v : Int)) = (v : Int) := by omega
  have HT := Lib.hid hT
  clear hT
  by_cases h0 : v = 0
  · subst h0
    simp only [Int.pow_zero, Int.ediv_one, Int.mul_one, Int.natCast_zero, Int.sub_zero] at c1 o1
    have n1 := ctz_le64 r.toNat hr.lt
    generalize Lib.ctz 64 r.toNat = c at *
    clear hr ht m1 z1 hv
    go_enter Tryd.func34, Tryd.ntmps34
    go_wp2_with fail
    refine (c1 _).mono ?_
    rintro e w1 ⟨rfl, h1⟩
    clear c1
    have c1 := h1.cells
    have f1 := h1.frozens
    go_wp2_with fail
    refine (o1 _ (HT.out.later (by (repeat (first | exact Up.refl _ | assumption | refine Up.setCell ?_ (by first | omega | (dsimp only; omega) | simp) _ | refine Up.alloc ?_ _ | refine Up.drew ?_ | refine Up.trans ?_ (by assumption)))))).mono ?_
    rintro e wh ⟨rfl, rfl⟩
    clear o1
    go_wp2_with fail
    refine bodyPost_ret (v := .agg #[.int .i64 (min (c : Int) b), .int .i64 (min (c : Int) b), .int .u64 (min (c : Int) b), .int .u64 (min (c : Int) b)]) ?_ rfl ⟨rfl, ?_⟩
    · simp [results, Tryd.results34, go_sem, c1]
    · (repeat (first | exact Up.refl _ | assumption | refine Up.setCell ?_ (by first | omega | (dsimp only; omega) | simp) _ | refine Up.alloc ?_ _ | refine Up.drew ?_ | refine Up.trans ?_ (by assumption)))
  · rw [if_neg h0]
    have hF : (r / 2 ^ v * 2 ^ v).toNat < 2 ^ 64 := (high_U64 hr).lt
    have n1 := ctz_le64 _ hF
    have h64 : ((64 : Int) - (v : Int) == 64) = false := by rw [beq_eq_false_iff_ne]; omega
    by_cases hl : r % 2 ^ v = 0
    · rw [if_pos hl]
      have hl1 : (r % 2 ^ v == 0) = true := by rw [beq_iff_eq]; exact hl
      generalize Lib.ctz 64 (r / 2 ^ v * 2 ^ v).toNat = c at *
      clear hr ht hl hF
      go_enter Tryd.func34, Tryd.ntmps34
      go_wp2_with fail
      refine (c1 _).mono ?_
      rintro e w1 ⟨rfl, h1⟩
      clear c1
      have c1 := h1.cells
      have f1 := h1.frozens
      go_wp2_with fail
      refine (c_noLimitU _).mono ?_
      rintro e w2 ⟨rfl, g2⟩
      have h2 := h1.trans g2
      have c2 := h2.cells
      have f2 := h2.frozens
      clear c1 f1
      go_wp2_with fail
      refine (o1 _ (HT.out.later (by (repeat (first | exact Up.refl _ | assumption | refine Up.setCell ?_ (by first | omega | (dsimp only; omega) | simp) _ | refine Up.alloc ?_ _ | refine Up.drew ?_ | refine Up.trans ?_ (by assumption)))))).mono ?_
      rintro e wh ⟨rfl, rfl⟩
      clear o1
      go_wp2_with fail
      refine (c_lunsignedMax _ _ _ _ _ _).mono ?_
      rintro e w3 ⟨rfl, g3⟩
      have h3 := h2.trans g3
      have c3 := h3.cells
      have f3 := h3.frozens
      clear c2 f2
      go_wp2_with fail
      refine bodyPost_ret (v := .agg #[.int .i64 (lst 64), .int .i64 (grt 64), .int .u64 0, .int .u64 (min (c : Int) b)]) ?_ rfl ⟨rfl, ?_⟩
      · rw [lst64, grt64]
        have q1 : min (18446744073709551615 : Int) (min (c : Int) b) = min (c : Int) b := by omega
        clear m1 hl1
        simp [results, Tryd.results34, go_sem, c3, q1]
      · (repeat (first | exact Up.refl _ | assumption | refine Up.setCell ?_ (by first | omega | (dsimp only; omega) | simp) _ | refine Up.alloc ?_ _ | refine Up.drew ?_ | refine Up.trans ?_ (by assumption)))
    · rw [if_neg hl]
      have hl1 : (r % 2 ^ v == 0) = false := by rw [beq_eq_false_iff_ne]; exact hl
      clear hr ht hl hF o1 n1
      go_enter Tryd.func34, Tryd.ntmps34
      go_wp2_with fail
      refine (c1 _).mono ?_
      rintro e w1 ⟨rfl, h1⟩
      clear c1
      have c1 := h1.cells
      have f1 := h1.frozens
      go_wp2_with fail
      refine (c_noLimitU _).mono ?_
      rintro e w2 ⟨rfl, g2⟩
      have h2 := h1.trans g2
      have c2 := h2.cells
      have f2 := h2.frozens
      clear c1 f1
      go_wp2_with fail
      refine (c_lunsignedMax _ _ _ _ _ _).mono ?_
      rintro e w3 ⟨rfl, g3⟩
      have h3 := h2.trans g3
      have c3 := h3.cells
      have f3 := h3.frozens
      clear c2 f2
      go_wp2_with fail
      refine bodyPost_ret (v := .agg #[.int .i64 (lst 64), .int .i64 (grt 64), .int .u64 0, .int .u64 ((v : Int) - 1)]) ?_ rfl ⟨rfl, ?_⟩
      · rw [lst64, grt64]
        have q1 : min (18446744073709551615 : Int) ((v : Int) - 1) = (v : Int) - 1 := by omega
        clear m1 hl1
        simp [results, Tryd.results34, go_sem, c3, q1]
      · (repeat (first | exact Up.refl _ | assumption | refine Up.setCell ?_ (by first | omega | (dsimp only; omega) | simp) _ | refine Up.alloc ?_ _ | refine Up.drew ?_ | refine Up.trans ?_ (by assumption)))
theorem c_LCtz (p q r t b : Int) (w : World) (hb : B4 b) (hr : U64 r) (ht : U64 t) (hT : Tab w) :
    Calls Tryd.prog 27 #[.agg #[.int .i64 p, .int .i64 q, .int .u64 r, .int .u64 t], .int .u64 b] w fun e w' => e = .returned (.agg #[.int .i64 (cz b r t).a, .int .i64 (cz b r t).b, .int .u64 (cz b r t).c, .int .u64 (cz b r t).d]) ∧ Up w w' := by
  have HB := Lib.hid hb
  have HR := Lib.hid hr
  have HX := Lib.hid ht
  have HT := Lib.hid hT
  clear hr ht hb hT
  go_enter Tryd.func27, Tryd.ntmps27
  go_wp2_with (first | (go_at_call 30; refine (c_Lin _ _ _ _ _).mono ?_; rintro e w1 ⟨rfl, h1⟩; have c1 := h1.cells; have f1 := h1.frozens) | (go_at_call 34; refine (c_lctz _ _ _ _ _ _ HB.out HR.out HX.out (HT.out.later (by (repeat (first | exact Up.refl _ | assumption | refine Up.setCell ?_ (by first | omega | (dsimp only; omega) | simp) _ | refine Up.alloc ?_ _ | refine Up.drew ?_ | refine Up.trans ?_ (by assumption)))))).mono ?_; rintro e w2 ⟨rfl, g2⟩; have h2 := Up.via h1 g2 (by (repeat (first | exact Up.refl _ | assumption | refine Up.setCell ?_ (by first | omega | (dsimp only; omega) | simp) _ | refine Up.alloc ?_ _ | refine Up.drew ?_ | refine Up.trans ?_ (by assumption)))); have c2 := h2.cells; have f2 := h2.frozens) | (go_at_call 32; refine (c_lout _ _ _ _ _).mono ?_; rintro e w3 ⟨rfl, g3⟩; have h3 := Up.via h2 g3 (by (repeat (first | exact Up.refl _ | assumption | refine Up.setCell ?_ (by first | omega | (dsimp only; omega) | simp) _ | refine Up.alloc ?_ _ | refine Up.drew ?_ | refine Up.trans ?_ (by assumption)))); have c3 := h3.cells; have f3 := h3.frozens))
  refine bodyPost_ret (v := .agg #[.int .i64 (cz b r t).a, .int .i64 (cz b r t).b, .int .u64 (cz b r t).c, .int .u64 (cz b r t).d]) ?_ rfl ⟨rfl, ?_⟩
  · simp [results, Tryd.results27, go_sem, c3]
  · (repeat (first | exact Up.refl _ | assumption | refine Up.setCell ?_ (by first | omega | (dsimp only; omega) | simp) _ | refine Up.alloc ?_ _ | refine Up.drew ?_ | refine Up.trans ?_ (by assumption)))
theorem c_Ctz (p q r t b : Int) (w : World) (hb : B4 b) (hr : U64 r) (ht : U64 t) (hT : Tab w) :
    Calls Tryd.prog 15 #[.agg #[.int .i64 p, .int .i64 q, .int .u64 r, .int .u64 t], .int .u64 b] w fun e w' => e = .returned (.agg #[.int .i64 (cz b r t).a, .int .i64 (cz b r t).b, .int .u64 (cz b r t).c, .int .u64 (cz b r t).d]) ∧ Up w w' := by
  have HB := Lib.hid hb
  have HR := Lib.hid hr
  have HX := Lib.hid ht
  have HT := Lib.hid hT
  clear hr ht hb hT
  go_enter Tryd.func15, Tryd.ntmps15
  go_wp2_with (first | (go_at_call 24; refine (c_in _ _ _ _ _).mono ?_; rintro e w1 ⟨rfl, h1⟩; have c1 := h1.cells; have f1 := h1.frozens) | (go_at_call 27; refine (c_LCtz _ _ _ _ _ _ HB.out HR.out HX.out (HT.out.later (by (repeat (first | exact Up.refl _ | assumption | refine Up.setCell ?_ (by first | omega | (dsimp only; omega) | simp) _ | refine Up.alloc ?_ _ | refine Up.drew ?_ | refine Up.trans ?_ (by assumption)))))).mono ?_; rintro e w2 ⟨rfl, g2⟩; have h2 := Up.via h1 g2 (by (repeat (first | exact Up.refl _ | assumption | refine Up.setCell ?_ (by first | omega | (dsimp only; omega) | simp) _ | refine Up.alloc ?_ _ | refine Up.drew ?_ | refine Up.trans ?_ (by assumption)))); have c2 := h2.cells; have f2 := h2.frozens) | (go_at_call 23; refine (c_out _ _ _ _ _).mono ?_; rintro e w3 ⟨rfl, g3⟩; have h3 := Up.via h2 g3 (by (repeat (first | exact Up.refl _ | assumption | refine Up.setCell ?_ (by first | omega | (dsimp only; omega) | simp) _ | refine Up.alloc ?_ _ | refine Up.drew ?_ | refine Up.trans ?_ (by assumption)))); have c3 := h3.cells; have f3 := h3.frozens))
  refine bodyPost_ret (v := .agg #[.int .i64 (cz b r t).a, .int .i64 (cz b r t).b, .int .u64 (cz b r t).c, .int .u64 (cz b r t).d]) ?_ rfl ⟨rfl, ?_⟩
  · simp [results, Tryd.results15, go_sem, c3]
  · (repeat (first | exact Up.refl _ | assumption | refine Up.setCell ?_ (by first | omega | (dsimp only; omega) | simp) _ | refine Up.alloc ?_ _ | refine Up.drew ?_ | refine Up.trans ?_ (by assumption)))
end Go.Proofs.YtjfpjcaidjblnaaDoor
