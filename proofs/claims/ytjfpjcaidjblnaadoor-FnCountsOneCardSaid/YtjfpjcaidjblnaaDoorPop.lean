/-
  Numbers of ones of a limit: contracts.
-/
import Derived.Test.YtjfpjcaidjblnaaDoorCnt
import Derived.Test.YtjfpjcaidjblnaaDoorPlainFix
namespace Go.Proofs.YtjfpjcaidjblnaaDoor
open Go.RowKit
set_option linter.unusedVariables false
theorem low_is {r : Int} {v : Nat} (hr : U64 r) (hv : v ≤ 64) : bits .and .u64 r (IntKind.u64.wrap (IntKind.u64.wrap (2 ^ v) - 1)) = r % 2 ^ v := by
  obtain ⟨r0, r1⟩ := hr
  have hle : 2 ^ v ≤ 2 ^ 64 := Nat.pow_le_pow_right (by decide) hv
  have hp := two_pos v
  have a := bits_and_u64_nat r.toNat (2 ^ v - 1) (by omega) (by omega)
  rw [Int.toNat_of_nonneg r0] at a
  rw [mask_v hv, a, Nat.and_two_pow_sub_one_eq_mod, Int.natCast_emod, Int.toNat_of_nonneg r0]
  norm_cast
theorem low_U64 {r : Int} {v : Nat} (hr : U64 r) : U64 (r % 2 ^ v) := by
  obtain ⟨r0, r1⟩ := hr
  have hp : (0 : Int) < 2 ^ v := Int.pow_pos (by decide)
  have a := Int.emod_nonneg r (Int.ne_of_gt hp)
  have b : r % 2 ^ v ≤ r := by
    rw [Int.emod_def]
    have := Int.mul_nonneg (Int.le_of_lt hp) (Int.ediv_nonneg r0 (Int.le_of_lt hp))
    omega
  exact ⟨a, by omega⟩
theorem high_U64 {r : Int} {v : Nat} (hr : U64 r) : U64 (r / 2 ^ v * 2 ^ v) := by
  obtain ⟨r0, r1⟩ := hr
  have hp : (0 : Int) < 2 ^ v := Int.pow_pos (by decide)
  have a := Int.mul_nonneg (Int.ediv_nonneg r0 (Int.le_of_lt hp)) (Int.le_of_lt hp)
  have b := Int.ediv_mul_le r (Int.ne_of_gt hp)
  exact ⟨a, by omega⟩
theorem low_full {t : Int} {v : Nat} (hne : Lib.popAux 64 (t % 2 ^ v).toNat ≠ v) : 1 ≤ v := by
  apply Nat.pos_of_ne_zero
  rintro rfl
  apply hne
  rw [Int.pow_zero, Int.emod_one]
  rfl
theorem pmn_is {r t : Int} (hr : U64 r) : (pmn r.toNat t.toNat : Int) = (Lib.popAux 64 (r / 2 ^ vr r t * 2 ^ vr r t).toNat : Int) + if r % 2 ^ vr r t = 0 then 0 else 1 := by
  unfold pmn
  rw [hi_nat hr.1, mod_nat hr.1, Int.toNat_natCast, vr_vn]
  generalize r.toNat % 2 ^ vn r.toNat t.toNat = z
  by_cases hz : z = 0
  · rw [if_pos hz, if_pos (by omega)]; omega
  · rw [if_neg hz, if_neg (by omega)]; omega
theorem pmx_is {r t : Int} (hr : U64 r) (ht : U64 t) : (pmx r.toNat t.toNat : Int) = (Lib.popAux 64 (r / 2 ^ vr r t * 2 ^ vr r t).toNat : Int) + vr r t - if Lib.popAux 64 (t % 2 ^ vr r t).toNat = vr r t then 0 else 1 := by
  have hz := low_full (t := t) (v := vr r t)
  unfold pmx
  rw [hi_nat hr.1, mod_nat ht.1, Int.toNat_natCast, Int.toNat_natCast, vr_vn]
  rw [mod_nat ht.1, Int.toNat_natCast, vr_vn] at hz
  by_cases h : Lib.popAux 64 (t.toNat % 2 ^ vn r.toNat t.toNat) = vn r.toNat t.toNat
  · rw [if_pos h, if_pos h]; omega
  · have := hz h
    rw [if_neg h, if_neg h]; omega
set_option maxHeartbeats 2000000 in
theorem c_lpopcount (p q r t b : Int) (w : World) (hr : U64 r) (ht : U64 t) :
    Calls Tryd.prog 33 #[.agg #[.int .i64 p, .int .i64 q, .int .u64 r, .int .u64 t], .int .u64 b] w fun e w' => e = .returned (.agg #[.int .i64 (lst 64), .int .i64 (grt 64), .int .u64 (pmn r.toNat t.toNat : Int), .int .u64 (pmx r.toNat t.toNat : Int)]) ∧ Up w w' := by
  rw [pmn_is hr, pmx_is hr ht]
  have hv := vr_le hr ht
  have c1 := fun w => c_fixed p q r t w hr ht
  have hz := low_full (t := t) (v := vr r t)
  generalize vr r t = v at *
  have o1 := fun w => c_OnesCount64 _ w (high_U64 (v := v) hr)
  have o2 := fun w => c_OnesCount64 _ w (low_U64 (v := v) ht)
  have n1 := pop_le 64 (r / 2 ^ v * 2 ^ v).toNat
  have n2 := pop_le 64 (t % 2 ^ v).toNat
  have m1 := low_is hr hv
  have m2 := low_is ht hv
  generalize Lib.popAux 64 (r / 2 ^ v * 2 ^ v).toNat = c at *
  generalize Lib.popAux 64 (t % 2 ^ v).toNat = d at *
  clear hr ht
  have z1 : (64 : Int) - (64 - (v : Int)) = (v : Int) := by omega
  by_cases hd : d = v
  all_goals by_cases hl : r % 2 ^ v = 0
  · rw [if_pos hd, if_pos hl]
    clear hz
    have hd1 : ((d : Int) == (v : Int)) = true := by rw [beq_iff_eq]; omega
    have hl1 : (r % 2 ^ v == 0) = true := by rw [beq_iff_eq]; exact hl
    clear hd hl
    go_enter Tryd.func33, Tryd.ntmps33
    go_wp2_with fail
    refine (c1 _).mono ?_
    rintro e w1 ⟨rfl, h1⟩
    clear c1
    have c1 := h1.cells
    have f1 := h1.frozens
    go_wp2_with fail
    refine (o1 _).mono ?_
    rintro e wh ⟨rfl, rfl⟩
    go_wp2_with fail
    refine (o2 _).mono ?_
    rintro e wh ⟨rfl, rfl⟩
    clear o1 o2
    go_wp2_with fail
    refine (c_noLimitU _).mono ?_
    rintro e w2 ⟨rfl, g2⟩
    have h2 := h1.trans g2
    have c2 := h2.cells
    have f2 := h2.frozens
    clear c1 f1
    go_wp2_with fail
    refine (c_lunsignedMinMax _ _ _ _ _ _ _).mono ?_
    rintro e w3 ⟨rfl, g3⟩
    have h3 := h2.trans g3
    have c3 := h3.cells
    have f3 := h3.frozens
    clear c2 f2
    go_wp2_with fail
    refine bodyPost_ret (v := .agg #[.int .i64 (lst 64), .int .i64 (grt 64), .int .u64 ((c : Int) + 0), .int .u64 ((c : Int) + (v : Int) - 0)]) ?_ rfl ⟨rfl, ?_⟩
    · rw [lst64, grt64]
      clear m1 m2 hl1 hd1
      simp [results, Tryd.results33, go_sem, c3]
      omega
    · (repeat (first | exact Up.refl _ | assumption | refine Up.setCell ?_ (by first | omega | (dsimp only; omega) | simp) _ | refine Up.alloc ?_ _ | refine Up.drew ?_ | refine Up.trans ?_ (by assumption)))
  · rw [if_pos hd, if_neg hl]
    clear hz
    have hd1 : ((d : Int) == (v : Int)) = true := by rw [beq_iff_eq]; omega
    have hl1 : (r % 2 ^ v == 0) = false := by rw [beq_eq_false_iff_ne]; exact hl
    clear hd hl
    go_enter Tryd.func33, Tryd.ntmps33
    go_wp2_with fail
    refine (c1 _).mono ?_
    rintro e w1 ⟨rfl, h1⟩
    clear c1
    have c1 := h1.cells
    have f1 := h1.frozens
    go_wp2_with fail
    refine (o1 _).mono ?_
    rintro e wh ⟨rfl, rfl⟩
    go_wp2_with fail
    refine (o2 _).mono ?_
    rintro e wh ⟨rfl, rfl⟩
    clear o1 o2
    go_wp2_with fail
    refine (c_noLimitU _).mono ?_
    rintro e w2 ⟨rfl, g2⟩
    have h2 := h1.trans g2
    have c2 := h2.cells
    have f2 := h2.frozens
    clear c1 f1
    go_wp2_with fail
    refine (c_lunsignedMinMax _ _ _ _ _ _ _).mono ?_
    rintro e w3 ⟨rfl, g3⟩
    have h3 := h2.trans g3
    have c3 := h3.cells
    have f3 := h3.frozens
    clear c2 f2
    go_wp2_with fail
    refine bodyPost_ret (v := .agg #[.int .i64 (lst 64), .int .i64 (grt 64), .int .u64 ((c : Int) + 1), .int .u64 ((c : Int) + (v : Int) - 0)]) ?_ rfl ⟨rfl, ?_⟩
    · rw [lst64, grt64]
      clear m1 m2 hl1 hd1
      simp [results, Tryd.results33, go_sem, c3]
      omega
    · (repeat (first | exact Up.refl _ | assumption | refine Up.setCell ?_ (by first | omega | (dsimp only; omega) | simp) _ | refine Up.alloc ?_ _ | refine Up.drew ?_ | refine Up.trans ?_ (by assumption)))
  · rw [if_neg hd, if_pos hl]
    have hz1 := hz hd
    clear hz
    have hd1 : ((d : Int) == (v : Int)) = false := by rw [beq_eq_false_iff_ne]; omega
    have hl1 : (r % 2 ^ v == 0) = true := by rw [beq_iff_eq]; exact hl
    clear hd hl
    go_enter Tryd.func33, Tryd.ntmps33
    go_wp2_with fail
    refine (c1 _).mono ?_
    rintro e w1 ⟨rfl, h1⟩
    clear c1
    have c1 := h1.cells
    have f1 := h1.frozens
    go_wp2_with fail
    refine (o1 _).mono ?_
    rintro e wh ⟨rfl, rfl⟩
    go_wp2_with fail
    refine (o2 _).mono ?_
    rintro e wh ⟨rfl, rfl⟩
    clear o1 o2
    go_wp2_with fail
    refine (c_noLimitU _).mono ?_
    rintro e w2 ⟨rfl, g2⟩
    have h2 := h1.trans g2
    have c2 := h2.cells
    have f2 := h2.frozens
    clear c1 f1
    go_wp2_with fail
    refine (c_lunsignedMinMax _ _ _ _ _ _ _).mono ?_
    rintro e w3 ⟨rfl, g3⟩
    have h3 := h2.trans g3
    have c3 := h3.cells
    have f3 := h3.frozens
    clear c2 f2
    go_wp2_with fail
    refine bodyPost_ret (v := .agg #[.int .i64 (lst 64), .int .i64 (grt 64), .int .u64 ((c : Int) + 0), .int .u64 ((c : Int) + (v : Int) - 1)]) ?_ rfl ⟨rfl, ?_⟩
    · rw [lst64, grt64]
      clear m1 m2 hl1 hd1
      simp [results, Tryd.results33, go_sem, c3]
      omega
    · (repeat (first | exact Up.refl _ | assumption | refine Up.setCell ?_ (by first | omega | (dsimp only; omega) | simp) _ | refine Up.alloc ?_ _ | refine Up.drew ?_ | refine Up.trans ?_ (by assumption)))
  · rw [if_neg hd, if_neg hl]
    have hz1 := hz hd
    clear hz
    have hd1 : ((d : Int) == (v : Int)) = false := by rw [beq_eq_false_iff_ne]; omega
    have hl1 : (r % 2 ^ v == 0) = false := by rw [beq_eq_false_iff_ne]; exact hl
    clear hd hl
    go_enter Tryd.func33, Tryd.ntmps33
    go_wp2_with fail
    refine (c1 _).mono ?_
    rintro e w1 ⟨rfl, h1⟩
    clear c1
    have c1 := h1.cells
    have f1 := h1.frozens
    go_wp2_with fail
    refine (o1 _).mono ?_
    rintro e wh ⟨rfl, rfl⟩
    go_wp2_with fail
    refine (o2 _).mono ?_
    rintro e wh ⟨rfl, rfl⟩
    clear o1 o2
    go_wp2_with fail
    refine (c_noLimitU _).mono ?_
    rintro e w2 ⟨rfl, g2⟩
    have h2 := h1.trans g2
    have c2 := h2.cells
    have f2 := h2.frozens
    clear c1 f1
    go_wp2_with fail
    refine (c_lunsignedMinMax _ _ _ _ _ _ _).mono ?_
    rintro e w3 ⟨rfl, g3⟩
    have h3 := h2.trans g3
    have c3 := h3.cells
    have f3 := h3.frozens
    clear c2 f2
    go_wp2_with fail
    refine bodyPost_ret (v := .agg #[.int .i64 (lst 64), .int .i64 (grt 64), .int .u64 ((c : Int) + 1), .int .u64 ((c : Int) + (v : Int) - 1)]) ?_ rfl ⟨rfl, ?_⟩
    · rw [lst64, grt64]
      clear m1 m2 hl1 hd1
      simp [results, Tryd.results33, go_sem, c3]
      omega
    · (repeat (first | exact Up.refl _ | assumption | refine Up.setCell ?_ (by first | omega | (dsimp only; omega) | simp) _ | refine Up.alloc ?_ _ | refine Up.drew ?_ | refine Up.trans ?_ (by assumption)))
theorem c_LPopcount (p q r t b : Int) (w : World) (hr : U64 r) (ht : U64 t) :
    Calls Tryd.prog 26 #[.agg #[.int .i64 p, .int .i64 q, .int .u64 r, .int .u64 t], .int .u64 b] w fun e w' => e = .returned (.agg #[.int .i64 (lst 64), .int .i64 (grt 64), .int .u64 (pmn r.toNat t.toNat : Int), .int .u64 (pmx r.toNat t.toNat : Int)]) ∧ Up w w' := by
  have HR := Lib.hid hr
  have HT := Lib.hid ht
  clear hr ht
  go_enter Tryd.func26, Tryd.ntmps26
  go_wp2_with (first | (go_at_call 30; refine (c_Lin _ _ _ _ _).mono ?_; rintro e w1 ⟨rfl, h1⟩; have c1 := h1.cells; have f1 := h1.frozens) | (go_at_call 33; refine (c_lpopcount _ _ _ _ _ _ HR.out HT.out).mono ?_; rintro e w2 ⟨rfl, g2⟩; have h2 := Up.via h1 g2 (by (repeat (first | exact Up.refl _ | assumption | refine Up.setCell ?_ (by first | omega | (dsimp only; omega) | simp) _ | refine Up.alloc ?_ _ | refine Up.drew ?_ | refine Up.trans ?_ (by assumption)))); have c2 := h2.cells; have f2 := h2.frozens) | (go_at_call 32; refine (c_lout _ _ _ _ _).mono ?_; rintro e w3 ⟨rfl, g3⟩; have h3 := Up.via h2 g3 (by (repeat (first | exact Up.refl _ | assumption | refine Up.setCell ?_ (by first | omega | (dsimp only; omega) | simp) _ | refine Up.alloc ?_ _ | refine Up.drew ?_ | refine Up.trans ?_ (by assumption)))); have c3 := h3.cells; have f3 := h3.frozens))
  refine bodyPost_ret (v := .agg #[.int .i64 (lst 64), .int .i64 (grt 64), .int .u64 (pmn r.toNat t.toNat : Int), .int .u64 (pmx r.toNat t.toNat : Int)]) ?_ rfl ⟨rfl, ?_⟩
  · simp [results, Tryd.results26, go_sem, c3]
  · (repeat (first | exact Up.refl _ | assumption | refine Up.setCell ?_ (by first | omega | (dsimp only; omega) | simp) _ | refine Up.alloc ?_ _ | refine Up.drew ?_ | refine Up.trans ?_ (by assumption)))
theorem c_Popcount (p q r t b : Int) (w : World) (hr : U64 r) (ht : U64 t) :
    Calls Tryd.prog 14 #[.agg #[.int .i64 p, .int .i64 q, .int .u64 r, .int .u64 t], .int .u64 b] w fun e w' => e = .returned (.agg #[.int .i64 (lst 64), .int .i64 (grt 64), .int .u64 (pmn r.toNat t.toNat : Int), .int .u64 (pmx r.toNat t.toNat : Int)]) ∧ Up w w' := by
  have HR := Lib.hid hr
  have HT := Lib.hid ht
  clear hr ht
  go_enter Tryd.func14, Tryd.ntmps14
  go_wp2_with (first | (go_at_call 24; refine (c_in _ _ _ _ _).mono ?_; rintro e w1 ⟨rfl, h1⟩; have c1 := h1.cells; have f1 := h1.frozens) | (go_at_call 26; refine (c_LPopcount _ _ _ _ _ _ HR.out HT.out).mono ?_; rintro e w2 ⟨rfl, g2⟩; have h2 := Up.via h1 g2 (by (repeat (first | exact Up.refl _ | assumption | refine Up.setCell ?_ (by first | omega | (dsimp only; omega) | simp) _ | refine Up.alloc ?_ _ | refine Up.drew ?_ | refine Up.trans ?_ (by assumption)))); have c2 := h2.cells; have f2 := h2.frozens) | (go_at_call 23; refine (c_out _ _ _ _ _).mono ?_; rintro e w3 ⟨rfl, g3⟩; have h3 := Up.via h2 g3 (by (repeat (first | exact Up.refl _ | assumption | refine Up.setCell ?_ (by first | omega | (dsimp only; omega) | simp) _ | refine Up.alloc ?_ _ | refine Up.drew ?_ | refine Up.trans ?_ (by assumption)))); have c3 := h3.cells; have f3 := h3.frozens))
  refine bodyPost_ret (v := .agg #[.int .i64 (lst 64), .int .i64 (grt 64), .int .u64 (pmn r.toNat t.toNat : Int), .int .u64 (pmx r.toNat t.toNat : Int)]) ?_ rfl ⟨rfl, ?_⟩
  · simp [results, Tryd.results14, go_sem, c3]
  · (repeat (first | exact Up.refl _ | assumption | refine Up.setCell ?_ (by first | omega | (dsimp only; omega) | simp) _ | refine Up.alloc ?_ _ | refine Up.drew ?_ | refine Up.trans ?_ (by assumption)))
end Go.Proofs.YtjfpjcaidjblnaaDoor
