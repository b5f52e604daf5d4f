/-
  What the small functions of the package return: conversions, fitting, the limit of all values, what is told of a limit. Contracts, one a function.
-/
import Derived.Test.YtfgcfllboagfmaaBase
namespace Go.Proofs.Ytfgcfllboagfmaa
open Go.RowKit
set_option linter.unusedVariables false

theorem c_in (p q r t : Int) (w : World) :
    Calls Try.prog 36 #[.agg #[.int .i64 p, .int .i64 q, .int .u64 r, .int .u64 t]] w
      fun e w' => e = .returned (.agg #[.int .i64 p, .int .i64 q, .int .u64 r, .int .u64 t]) ∧ Up w w' := by
  go_enter Try.func36, Try.ntmps36
  go_wp2
  exact bodyPost_ret (v := .agg #[.int .i64 p, .int .i64 q, .int .u64 r, .int .u64 t]) (by simp [results, Try.results36, go_sem]) rfl ⟨rfl, ((Up.refl _).alloc _).alloc _⟩
theorem c_out (p q r t : Int) (w : World) :
    Calls Try.prog 49 #[.agg #[.int .i64 p, .int .i64 q, .int .u64 r, .int .u64 t]] w
      fun e w' => e = .returned (.agg #[.int .i64 p, .int .i64 q, .int .u64 r, .int .u64 t]) ∧ Up w w' := by
  go_enter Try.func49, Try.ntmps49
  go_wp2
  exact bodyPost_ret (v := .agg #[.int .i64 p, .int .i64 q, .int .u64 r, .int .u64 t]) (by simp [results, Try.results49, go_sem]) rfl ⟨rfl, ((Up.refl _).alloc _).alloc _⟩
theorem c_Lin (p q r t : Int) (w : World) :
    Calls Try.prog 53 #[.agg #[.int .i64 p, .int .i64 q, .int .u64 r, .int .u64 t]] w
      fun e w' => e = .returned (.agg #[.int .i64 p, .int .i64 q, .int .u64 r, .int .u64 t]) ∧ Up w w' := by
  go_enter Try.func53, Try.ntmps53
  go_wp2
  exact bodyPost_ret (v := .agg #[.int .i64 p, .int .i64 q, .int .u64 r, .int .u64 t]) (by simp [results, Try.results53, go_sem]) rfl ⟨rfl, ((Up.refl _).alloc _).alloc _⟩
theorem c_lout (p q r t : Int) (w : World) :
    Calls Try.prog 64 #[.agg #[.int .i64 p, .int .i64 q, .int .u64 r, .int .u64 t]] w
      fun e w' => e = .returned (.agg #[.int .i64 p, .int .i64 q, .int .u64 r, .int .u64 t]) ∧ Up w w' := by
  go_enter Try.func64, Try.ntmps64
  go_wp2
  exact bodyPost_ret (v := .agg #[.int .i64 p, .int .i64 q, .int .u64 r, .int .u64 t]) (by simp [results, Try.results64, go_sem]) rfl ⟨rfl, ((Up.refl _).alloc _).alloc _⟩

theorem c_noLimitFor (b : Int) (w : World) (hb : B4 b) :
    Calls Try.prog 70 #[.int .u64 b] w
      fun e w' => e = .returned (.agg #[.int .i64 (lst b), .int .i64 (grt b), .int .u64 0, .int .u64 (top b)]) ∧ Up w w' := by
  rcases hb with rfl | rfl | rfl | rfl
  · go_enter Try.func70, Try.ntmps70
    go_wp2
    exact bodyPost_ret (v := .agg #[.int .i64 (-128), .int .i64 127, .int .u64 0, .int .u64 255]) (by simp [results, Try.results70, go_sem]) rfl ⟨rfl, (Up.refl _).alloc _⟩
  · go_enter Try.func70, Try.ntmps70
    go_wp2
    exact bodyPost_ret (v := .agg #[.int .i64 (-32768), .int .i64 32767, .int .u64 0, .int .u64 65535]) (by simp [results, Try.results70, go_sem]) rfl ⟨rfl, (Up.refl _).alloc _⟩
  · go_enter Try.func70, Try.ntmps70
    go_wp2
    exact bodyPost_ret (v := .agg #[.int .i64 (-2147483648), .int .i64 2147483647, .int .u64 0, .int .u64 4294967295]) (by simp [results, Try.results70, go_sem]) rfl ⟨rfl, (Up.refl _).alloc _⟩
  · go_enter Try.func70, Try.ntmps70
    go_wp2
    exact bodyPost_ret (v := .agg #[.int .i64 (-9223372036854775808), .int .i64 9223372036854775807, .int .u64 0, .int .u64 18446744073709551615]) (by simp [results, Try.results70, go_sem, wrap_64_top, wrap_64_min, wrap_64_max]) rfl ⟨rfl, (Up.refl _).alloc _⟩
theorem c_convS (x b : Int) (w : World) (hb : B4 b) (hx : U64 x) :
    Calls Try.prog 61 #[.int .u64 x, .int .u64 b] w fun e w' => e = .returned (.int .i64 (sg b x)) ∧ w = w' := by
  obtain ⟨h1, h2⟩ := hx
  rcases hb with rfl | rfl | rfl | rfl
  · go_enter Try.func61, Try.ntmps61
    go_wp2
    all_goals
      go_ret
      exact ⟨ret_int (by rw [i8_sg, w64_id (sg_I64 (by unfold B4; decide))]), rfl⟩
  · go_enter Try.func61, Try.ntmps61
    go_wp2
    all_goals
      go_ret
      exact ⟨ret_int (by rw [i16_sg, w64_id (sg_I64 (by unfold B4; decide))]), rfl⟩
  · go_enter Try.func61, Try.ntmps61
    go_wp2
    all_goals
      go_ret
      exact ⟨ret_int (by rw [w32_sg, w64_id (sg_I64 (by unfold B4; decide))]), rfl⟩
  · go_enter Try.func61, Try.ntmps61
    go_wp2
    all_goals
      go_ret
      exact ⟨ret_int (w64_sg _), rfl⟩
theorem c_convU (x b : Int) (w : World) (hb : B4 b) (hx : I64 x) :
    Calls Try.prog 69 #[.int .i64 x, .int .u64 b] w fun e w' => e = .returned (.int .u64 (us 64 (sg b x))) ∧ w = w' := by
  obtain ⟨h1, h2⟩ := hx
  rcases hb with rfl | rfl | rfl | rfl
  · go_enter Try.func69, Try.ntmps69
    go_wp2
    all_goals
      go_ret
      exact ⟨ret_int (by rw [i8_sg, u64_us]), rfl⟩
  · go_enter Try.func69, Try.ntmps69
    go_wp2
    all_goals
      go_ret
      exact ⟨ret_int (by rw [i16_sg, u64_us]), rfl⟩
  · go_enter Try.func69, Try.ntmps69
    go_wp2
    all_goals
      go_ret
      exact ⟨ret_int (by rw [w32_sg, u64_us]), rfl⟩
  · go_enter Try.func69, Try.ntmps69
    go_wp2
    all_goals
      go_ret
      exact ⟨ret_int (by rw [u64_us, sg64 ⟨h1, h2⟩]), rfl⟩
theorem c_fits (x b : Int) (w : World) (hb : B4 b) (hx : I64 x) :
    Calls Try.prog 60 #[.int .i64 x, .int .u64 b] w fun e w' => e = .returned (.bool (fitB b x)) ∧ w = w' := by
  obtain ⟨h1, h2⟩ := hx
  rcases hb with rfl | rfl | rfl | rfl
  · go_enter Try.func60, Try.ntmps60
    go_wp2
    all_goals
      go_ret
      exact ⟨ret_bool (fitB_is (by rw [lst8, grt8]; simp; try omega)), rfl⟩
  · go_enter Try.func60, Try.ntmps60
    go_wp2
    all_goals
      go_ret
      exact ⟨ret_bool (fitB_is (by rw [lst16, grt16]; simp; try omega)), rfl⟩
  · go_enter Try.func60, Try.ntmps60
    go_wp2
    all_goals
      go_ret
      exact ⟨ret_bool (fitB_is (by rw [lst32, grt32]; simp; try omega)), rfl⟩
  · go_enter Try.func60, Try.ntmps60
    go_wp2
    all_goals
      go_ret
      exact ⟨ret_bool (fitB_is (by rw [lst64, grt64]; simp; try omega)), rfl⟩
theorem c_fitsU (x b : Int) (w : World) (hb : B4 b) (hx : U64 x) :
    Calls Try.prog 67 #[.int .u64 x, .int .u64 b] w fun e w' => e = .returned (.bool (fitU b x)) ∧ w = w' := by
  obtain ⟨h1, h2⟩ := hx
  rcases hb with rfl | rfl | rfl | rfl
  · go_enter Try.func67, Try.ntmps67
    go_wp2
    all_goals
      go_ret
      exact ⟨ret_bool (fitU_is (by rw [top8]; simp; try omega)), rfl⟩
  · go_enter Try.func67, Try.ntmps67
    go_wp2
    all_goals
      go_ret
      exact ⟨ret_bool (fitU_is (by rw [top16]; simp; try omega)), rfl⟩
  · go_enter Try.func67, Try.ntmps67
    go_wp2
    all_goals
      go_ret
      exact ⟨ret_bool (fitU_is (by rw [top32]; simp; try omega)), rfl⟩
  · go_enter Try.func67, Try.ntmps67
    go_wp2
    all_goals
      go_ret
      exact ⟨ret_bool (fitU_is (by rw [top64]; simp; try omega)), rfl⟩
theorem c_sToSigned (x b : Int) (w : World) (hb : B4 b) (hx : U64 x) :
    Calls Try.prog 47 #[.int .u64 x, .int .u64 b] w fun e w' => e = .returned (.int .i64 (sg b x)) ∧ w = w' := by
  have H := Lib.hid hb
  clear hb
  go_enter Try.func47, Try.ntmps47
  go_wp2_with ((go_at_call 61; refine (c_convS _ _ _ H.out hx).mono ?_; rintro e w1 ⟨rfl, rfl⟩))
  go_ret
  exact ⟨rfl, rfl⟩
theorem c_ToSigned (x b : Int) (w : World) (hb : B4 b) (hx : U64 x) :
    Calls Try.prog 29 #[.int .u64 x, .int .u64 b] w fun e w' => e = .returned (.int .i64 (sg b x)) ∧ w = w' := by
  have H := Lib.hid hb
  clear hb
  go_enter Try.func29, Try.ntmps29
  go_wp2_with ((go_at_call 47; refine (c_sToSigned _ _ _ H.out hx).mono ?_; rintro e w1 ⟨rfl, rfl⟩))
  go_ret
  exact ⟨rfl, rfl⟩
theorem c_zzFits (x b : Int) (w : World) (hb : B4 b) (hx : I64 x) :
    Calls Try.prog 46 #[.int .i64 x, .int .u64 b] w fun e w' => e = .returned (.bool (fitB b x)) ∧ w = w' := by
  have H := Lib.hid hb
  clear hb
  go_enter Try.func46, Try.ntmps46
  go_wp2_with ((go_at_call 60; refine (c_fits _ _ _ H.out hx).mono ?_; rintro e w1 ⟨rfl, rfl⟩))
  go_ret
  exact ⟨rfl, rfl⟩
theorem c_FitsInBits (x b : Int) (w : World) (hb : B4 b) (hx : I64 x) :
    Calls Try.prog 28 #[.int .i64 x, .int .u64 b] w fun e w' => e = .returned (.bool (fitB b x)) ∧ w = w' := by
  have H := Lib.hid hb
  clear hb
  go_enter Try.func28, Try.ntmps28
  go_wp2_with ((go_at_call 46; refine (c_zzFits _ _ _ H.out hx).mono ?_; rintro e w1 ⟨rfl, rfl⟩))
  go_ret
  exact ⟨rfl, rfl⟩
/-- What is told of a limit. -/
def nzB (p q r t : Int) : Bool := decide (0 < p ∨ 0 < r ∨ q < 0)
def nnB (p q r t : Int) : Bool := decide (0 ≤ p)
def unB (p q r t : Int) : Bool := decide (q < p ∨ t < r)
theorem nzB_is {p q r t : Int} {v : Bool} (h : v = true ↔ 0 < p ∨ 0 < r ∨ q < 0) : v = nzB p q r t := by rw [Bool.eq_iff_iff, h]; simp [nzB]
theorem nnB_is {p q r t : Int} {v : Bool} (h : v = true ↔ 0 ≤ p) : v = nnB p q r t := by rw [Bool.eq_iff_iff, h]; simp [nnB]
theorem unB_is {p q r t : Int} {v : Bool} (h : v = true ↔ q < p ∨ t < r) : v = unB p q r t := by rw [Bool.eq_iff_iff, h]; simp [unB]
theorem c_lnonzero (p q r t : Int) (w : World) :
    Calls Try.prog 56 #[.agg #[.int .i64 p, .int .i64 q, .int .u64 r, .int .u64 t]] w fun e w' => e = .returned (.bool (nzB p q r t)) ∧ Up w w' := by
  go_enter Try.func56, Try.ntmps56
  go_wp2
  all_goals
    go_ret
    exact ⟨ret_bool (nzB_is (by simp; try omega)), (Up.refl _).alloc _⟩
theorem c_LNonzero (p q r t : Int) (w : World) :
    Calls Try.prog 39 #[.agg #[.int .i64 p, .int .i64 q, .int .u64 r, .int .u64 t]] w fun e w' => e = .returned (.bool (nzB p q r t)) ∧ Up w w' := by
  go_enter Try.func39, Try.ntmps39
  go_wp2_with (first | (go_at_call 53; refine (c_Lin _ _ _ _ _).mono ?_; rintro e w1 ⟨rfl, h1⟩; have c1 := h1.cells; have f1 := h1.frozens) | (go_at_call 56; refine (c_lnonzero _ _ _ _ _).mono ?_; rintro e w2 ⟨rfl, g2⟩; have h2 := Up.via h1 g2 (by (repeat (first | exact Up.refl _ | assumption | refine Up.setCell ?_ (by simp) _ | refine Up.alloc ?_ _ | refine Up.drew ?_ | refine Up.trans ?_ (by assumption)))); have c2 := h2.cells; have f2 := h2.frozens))
  go_ret
  refine ⟨rfl, ?_⟩
  (repeat (first | exact Up.refl _ | assumption | refine Up.setCell ?_ (by simp) _ | refine Up.alloc ?_ _ | refine Up.drew ?_ | refine Up.trans ?_ (by assumption)))
theorem c_Nonzero (p q r t : Int) (w : World) :
    Calls Try.prog 20 #[.agg #[.int .i64 p, .int .i64 q, .int .u64 r, .int .u64 t]] w fun e w' => e = .returned (.bool (nzB p q r t)) ∧ Up w w' := by
  go_enter Try.func20, Try.ntmps20
  go_wp2_with (first | (go_at_call 36; refine (c_in _ _ _ _ _).mono ?_; rintro e w1 ⟨rfl, h1⟩; have c1 := h1.cells; have f1 := h1.frozens) | (go_at_call 39; refine (c_LNonzero _ _ _ _ _).mono ?_; rintro e w2 ⟨rfl, g2⟩; have h2 := Up.via h1 g2 (by (repeat (first | exact Up.refl _ | assumption | refine Up.setCell ?_ (by simp) _ | refine Up.alloc ?_ _ | refine Up.drew ?_ | refine Up.trans ?_ (by assumption)))); have c2 := h2.cells; have f2 := h2.frozens))
  go_ret
  refine ⟨rfl, ?_⟩
  (repeat (first | exact Up.refl _ | assumption | refine Up.setCell ?_ (by simp) _ | refine Up.alloc ?_ _ | refine Up.drew ?_ | refine Up.trans ?_ (by assumption)))


theorem c_noLimitX (w : World) :
    Calls Try.prog 70 #[.int .u64 64] w
      fun e w' => e = .returned (.agg #[.int .i64 (-9223372036854775808), .int .i64 9223372036854775807, .int .u64 0, .int .u64 18446744073709551615]) ∧
        w.alloc (.cells #[.int .i64 (-9223372036854775808), .int .i64 9223372036854775807, .int .u64 0, .int .u64 18446744073709551615] 56) = w' := by
  go_enter Try.func70, Try.ntmps70
  go_wp2
  exact bodyPost_ret (v := .agg #[.int .i64 (-9223372036854775808), .int .i64 9223372036854775807, .int .u64 0, .int .u64 18446744073709551615]) (by simp [results, Try.results70, go_sem, wrap_64_top, wrap_64_min, wrap_64_max]) rfl ⟨rfl, by rw [wrap_64_top, wrap_64_min, wrap_64_max]⟩

/-- The limit of all words; the world is told exactly. -/
theorem c_noLimit (w : World) :
    Calls Try.prog 68 #[] w
      fun e w' => e = .returned (.agg #[.int .i64 (-9223372036854775808), .int .i64 9223372036854775807, .int .u64 0, .int .u64 18446744073709551615]) ∧
        (w.alloc (.cells #[.int .i64 (-9223372036854775808), .int .i64 9223372036854775807, .int .u64 0, .int .u64 18446744073709551615] 56)).alloc (.cells #[.int .i64 (-9223372036854775808), .int .i64 9223372036854775807, .int .u64 0, .int .u64 18446744073709551615] 56) = w' := by
  go_enter Try.func68, Try.ntmps68
  go_wp2_with ((go_at_call 70; refine (c_noLimitX _).mono ?_; rintro e w1 ⟨rfl, rfl⟩))
  exact bodyPost_ret (v := .agg #[.int .i64 (-9223372036854775808), .int .i64 9223372036854775807, .int .u64 0, .int .u64 18446744073709551615]) (by simp [results, Try.results68, go_sem]) rfl ⟨rfl, by simp [go_sem]⟩

theorem c_lmaybeZero (p q r t : Int) (w : World) :
    Calls Try.prog 55 #[.agg #[.int .i64 p, .int .i64 q, .int .u64 r, .int .u64 t]] w fun e w' => e = .returned (.bool !nzB p q r t) ∧ Up w w' := by
  go_enter Try.func55, Try.ntmps55
  go_wp2_with ((go_at_call 56; refine (c_lnonzero _ _ _ _ _).mono ?_; rintro e w1 ⟨rfl, h1⟩; have c1 := h1.cells; have f1 := h1.frozens))
  go_ret
  refine ⟨rfl, ?_⟩
  (repeat (first | exact Up.refl _ | assumption | refine Up.setCell ?_ (by simp) _ | refine Up.alloc ?_ _ | refine Up.drew ?_ | refine Up.trans ?_ (by assumption)))
theorem c_LMaybeZero (p q r t : Int) (w : World) :
    Calls Try.prog 38 #[.agg #[.int .i64 p, .int .i64 q, .int .u64 r, .int .u64 t]] w fun e w' => e = .returned (.bool !nzB p q r t) ∧ Up w w' := by
  go_enter Try.func38, Try.ntmps38
  go_wp2_with (first | (go_at_call 53; refine (c_Lin _ _ _ _ _).mono ?_; rintro e w1 ⟨rfl, h1⟩; have c1 := h1.cells; have f1 := h1.frozens) | (go_at_call 55; refine (c_lmaybeZero _ _ _ _ _).mono ?_; rintro e w2 ⟨rfl, g2⟩; have h2 := Up.via h1 g2 (by (repeat (first | exact Up.refl _ | assumption | refine Up.setCell ?_ (by simp) _ | refine Up.alloc ?_ _ | refine Up.drew ?_ | refine Up.trans ?_ (by assumption)))); have c2 := h2.cells; have f2 := h2.frozens))
  go_ret
  refine ⟨rfl, ?_⟩
  (repeat (first | exact Up.refl _ | assumption | refine Up.setCell ?_ (by simp) _ | refine Up.alloc ?_ _ | refine Up.drew ?_ | refine Up.trans ?_ (by assumption)))
theorem c_MaybeZero (p q r t : Int) (w : World) :
    Calls Try.prog 19 #[.agg #[.int .i64 p, .int .i64 q, .int .u64 r, .int .u64 t]] w fun e w' => e = .returned (.bool !nzB p q r t) ∧ Up w w' := by
  go_enter Try.func19, Try.ntmps19
  go_wp2_with (first | (go_at_call 36; refine (c_in _ _ _ _ _).mono ?_; rintro e w1 ⟨rfl, h1⟩; have c1 := h1.cells; have f1 := h1.frozens) | (go_at_call 38; refine (c_LMaybeZero _ _ _ _ _).mono ?_; rintro e w2 ⟨rfl, g2⟩; have h2 := Up.via h1 g2 (by (repeat (first | exact Up.refl _ | assumption | refine Up.setCell ?_ (by simp) _ | refine Up.alloc ?_ _ | refine Up.drew ?_ | refine Up.trans ?_ (by assumption)))); have c2 := h2.cells; have f2 := h2.frozens))
  go_ret
  refine ⟨rfl, ?_⟩
  (repeat (first | exact Up.refl _ | assumption | refine Up.setCell ?_ (by simp) _ | refine Up.alloc ?_ _ | refine Up.drew ?_ | refine Up.trans ?_ (by assumption)))
/-- The one value of a limit, and whether it is told. -/
def cvV (p q r t : Int) : Int := if p = q then p else if r = t then sg 64 r else 0
def cvB (p q r t : Int) : Bool := decide (p = q ∨ r = t)
theorem c_lconst (p q r t : Int) (w : World) :
    Calls Try.prog 54 #[.agg #[.int .i64 p, .int .i64 q, .int .u64 r, .int .u64 t]] w fun e w' => e = .returned (.tuple #[.int .i64 (cvV p q r t), .bool (cvB p q r t)]) ∧ Up w w' := by
  by_cases h1 : p = q
  · have e1 : cvV p q r t = p := by simp [cvV, h1]
    have e2 : cvB p q r t = true := by simp [cvB, h1]
    have hb : (p == q) = true := by simp [h1]
    have E1 := Lib.hid e1
    have E2 := Lib.hid e2
    clear h1 e1 e2
    go_enter Try.func54, Try.ntmps54
    go_wp2
    go_ret2
    refine ⟨by rw [E1.out, E2.out]; rfl, ?_⟩
    (repeat (first | exact Up.refl _ | assumption | refine Up.setCell ?_ (by simp) _ | refine Up.alloc ?_ _ | refine Up.drew ?_ | refine Up.trans ?_ (by assumption)))
  · by_cases h2 : r = t
    · have e1 : cvV p q r t = wrap64 r := by rw [w64_sg]; simp [cvV, h1, h2]
      have e2 : cvB p q r t = true := by simp [cvB, h2]
      have hb : (p == q) = false := by simp [h1]
      have hc : (r == t) = true := by simp [h2]
      have E1 := Lib.hid e1
      have E2 := Lib.hid e2
      clear h1 h2 e1 e2
      go_enter Try.func54, Try.ntmps54
      go_wp2
      go_ret2
      refine ⟨by rw [E1.out, E2.out]; rfl, ?_⟩
      (repeat (first | exact Up.refl _ | assumption | refine Up.setCell ?_ (by simp) _ | refine Up.alloc ?_ _ | refine Up.drew ?_ | refine Up.trans ?_ (by assumption)))
    · have e1 : cvV p q r t = 0 := by simp [cvV, h1, h2]
      have e2 : cvB p q r t = false := by simp [cvB, h1, h2]
      have hb : (p == q) = false := by simp [h1]
      have hc : (r == t) = false := by simp [h2]
      have E1 := Lib.hid e1
      have E2 := Lib.hid e2
      clear h1 h2 e1 e2
      go_enter Try.func54, Try.ntmps54
      go_wp2
      go_ret2
      refine ⟨by rw [E1.out, E2.out]; rfl, ?_⟩
      (repeat (first | exact Up.refl _ | assumption | refine Up.setCell ?_ (by simp) _ | refine Up.alloc ?_ _ | refine Up.drew ?_ | refine Up.trans ?_ (by assumption)))
theorem c_LConst (p q r t : Int) (w : World) :
    Calls Try.prog 37 #[.agg #[.int .i64 p, .int .i64 q, .int .u64 r, .int .u64 t]] w fun e w' => e = .returned (.tuple #[.int .i64 (cvV p q r t), .bool (cvB p q r t)]) ∧ Up w w' := by
  go_enter Try.func37, Try.ntmps37
  go_wp2_with (first | (go_at_call 53; refine (c_Lin _ _ _ _ _).mono ?_; rintro e w1 ⟨rfl, h1⟩; have c1 := h1.cells; have f1 := h1.frozens) | (go_at_call 54; refine (c_lconst _ _ _ _ _).mono ?_; rintro e w2 ⟨rfl, g2⟩; have h2 := Up.via h1 g2 (by (repeat (first | exact Up.refl _ | assumption | refine Up.setCell ?_ (by simp) _ | refine Up.alloc ?_ _ | refine Up.drew ?_ | refine Up.trans ?_ (by assumption)))); have c2 := h2.cells; have f2 := h2.frozens))
  go_ret2
  refine ⟨rfl, ?_⟩
  (repeat (first | exact Up.refl _ | assumption | refine Up.setCell ?_ (by simp) _ | refine Up.alloc ?_ _ | refine Up.drew ?_ | refine Up.trans ?_ (by assumption)))
theorem c_Const (p q r t : Int) (w : World) :
    Calls Try.prog 17 #[.agg #[.int .i64 p, .int .i64 q, .int .u64 r, .int .u64 t]] w fun e w' => e = .returned (.tuple #[.int .i64 (cvV p q r t), .bool (cvB p q r t)]) ∧ Up w w' := by
  go_enter Try.func17, Try.ntmps17
  go_wp2_with (first | (go_at_call 36; refine (c_in _ _ _ _ _).mono ?_; rintro e w1 ⟨rfl, h1⟩; have c1 := h1.cells; have f1 := h1.frozens) | (go_at_call 37; refine (c_LConst _ _ _ _ _).mono ?_; rintro e w2 ⟨rfl, g2⟩; have h2 := Up.via h1 g2 (by (repeat (first | exact Up.refl _ | assumption | refine Up.setCell ?_ (by simp) _ | refine Up.alloc ?_ _ | refine Up.drew ?_ | refine Up.trans ?_ (by assumption)))); have c2 := h2.cells; have f2 := h2.frozens))
  go_ret2
  refine ⟨rfl, ?_⟩
  (repeat (first | exact Up.refl _ | assumption | refine Up.setCell ?_ (by simp) _ | refine Up.alloc ?_ _ | refine Up.drew ?_ | refine Up.trans ?_ (by assumption)))

end Go.Proofs.Ytfgcfllboagfmaa
