/-
  What the small functions of the package return: conversions, fitting, the limit of all values, what is told of a limit. Contracts, one a function.
-/
import Derived.Test.YtjfpjcaidjblnaaDoorBase
namespace Go.Proofs.YtjfpjcaidjblnaaDoor
open Go.RowKit
set_option linter.unusedVariables false

theorem c_in (p q r t : Int) (w : World) :
    Calls Tryd.prog 24 #[.agg #[.int .i64 p, .int .i64 q, .int .u64 r, .int .u64 t]] w
      fun e w' => e = .returned (.agg #[.int .i64 p, .int .i64 q, .int .u64 r, .int .u64 t]) ∧ Up w w' := by
  go_enter Tryd.func24, Tryd.ntmps24
  go_wp2
  exact bodyPost_ret (v := .agg #[.int .i64 p, .int .i64 q, .int .u64 r, .int .u64 t]) (by simp [results, Tryd.results24, go_sem]) rfl ⟨rfl, ((Up.refl _).alloc _).alloc _⟩
theorem c_out (p q r t : Int) (w : World) :
    Calls Tryd.prog 23 #[.agg #[.int .i64 p, .int .i64 q, .int .u64 r, .int .u64 t]] w
      fun e w' => e = .returned (.agg #[.int .i64 p, .int .i64 q, .int .u64 r, .int .u64 t]) ∧ Up w w' := by
  go_enter Tryd.func23, Tryd.ntmps23
  go_wp2
  exact bodyPost_ret (v := .agg #[.int .i64 p, .int .i64 q, .int .u64 r, .int .u64 t]) (by simp [results, Tryd.results23, go_sem]) rfl ⟨rfl, ((Up.refl _).alloc _).alloc _⟩
theorem c_Lin (p q r t : Int) (w : World) :
    Calls Tryd.prog 30 #[.agg #[.int .i64 p, .int .i64 q, .int .u64 r, .int .u64 t]] w
      fun e w' => e = .returned (.agg #[.int .i64 p, .int .i64 q, .int .u64 r, .int .u64 t]) ∧ Up w w' := by
  go_enter Tryd.func30, Tryd.ntmps30
  go_wp2
  exact bodyPost_ret (v := .agg #[.int .i64 p, .int .i64 q, .int .u64 r, .int .u64 t]) (by simp [results, Tryd.results30, go_sem]) rfl ⟨rfl, ((Up.refl _).alloc _).alloc _⟩
theorem c_lout (p q r t : Int) (w : World) :
    Calls Tryd.prog 32 #[.agg #[.int .i64 p, .int .i64 q, .int .u64 r, .int .u64 t]] w
      fun e w' => e = .returned (.agg #[.int .i64 p, .int .i64 q, .int .u64 r, .int .u64 t]) ∧ Up w w' := by
  go_enter Tryd.func32, Tryd.ntmps32
  go_wp2
  exact bodyPost_ret (v := .agg #[.int .i64 p, .int .i64 q, .int .u64 r, .int .u64 t]) (by simp [results, Tryd.results32, go_sem]) rfl ⟨rfl, ((Up.refl _).alloc _).alloc _⟩

theorem c_noLimitFor (b : Int) (w : World) (hb : B4 b) :
    Calls Tryd.prog 47 #[.int .u64 b] w
      fun e w' => e = .returned (.agg #[.int .i64 (lst b), .int .i64 (grt b), .int .u64 0, .int .u64 (top b)]) ∧ Up w w' := by
  rcases hb with rfl | rfl | rfl | rfl
  · go_enter Tryd.func47, Tryd.ntmps47
    go_wp2
    exact bodyPost_ret (v := .agg #[.int .i64 (-128), .int .i64 127, .int .u64 0, .int .u64 255]) (by simp [results, Tryd.results47, go_sem]) rfl ⟨rfl, (Up.refl _).alloc _⟩
  · go_enter Tryd.func47, Tryd.ntmps47
    go_wp2
    exact bodyPost_ret (v := .agg #[.int .i64 (-32768), .int .i64 32767, .int .u64 0, .int .u64 65535]) (by simp [results, Tryd.results47, go_sem]) rfl ⟨rfl, (Up.refl _).alloc _⟩
  · go_enter Tryd.func47, Tryd.ntmps47
    go_wp2
    exact bodyPost_ret (v := .agg #[.int .i64 (-2147483648), .int .i64 2147483647, .int .u64 0, .int .u64 4294967295]) (by simp [results, Tryd.results47, go_sem]) rfl ⟨rfl, (Up.refl _).alloc _⟩
  · go_enter Tryd.func47, Tryd.ntmps47
    go_wp2
    exact bodyPost_ret (v := .agg #[.int .i64 (-9223372036854775808), .int .i64 9223372036854775807, .int .u64 0, .int .u64 18446744073709551615]) (by simp [results, Tryd.results47, go_sem, wrap_64_top, wrap_64_min, wrap_64_max]) rfl ⟨rfl, (Up.refl _).alloc _⟩
theorem c_convS (x b : Int) (w : World) (hb : B4 b) (hx : U64 x) :
    Calls Tryd.prog 44 #[.int .u64 x, .int .u64 b] w fun e w' => e = .returned (.int .i64 (sg b x)) ∧ w = w' := by
  obtain ⟨h1, h2⟩ := hx
  rcases hb with rfl | rfl | rfl | rfl
  · go_enter Tryd.func44, Tryd.ntmps44
    go_wp2
    all_goals
      go_ret
      exact ⟨ret_int (by rw [i8_sg, w64_id (sg_I64 (by unfold B4; decide))]), rfl⟩
  · go_enter Tryd.func44, Tryd.ntmps44
    go_wp2
    all_goals
      go_ret
      exact ⟨ret_int (by rw [i16_sg, w64_id (sg_I64 (by unfold B4; decide))]), rfl⟩
  · go_enter Tryd.func44, Tryd.ntmps44
    go_wp2
    all_goals
      go_ret
      exact ⟨ret_int (by rw [w32_sg, w64_id (sg_I64 (by unfold B4; decide))]), rfl⟩
  · go_enter Tryd.func44, Tryd.ntmps44
    go_wp2
    all_goals
      go_ret
      exact ⟨ret_int (w64_sg _), rfl⟩
theorem c_convU (x b : Int) (w : World) (hb : B4 b) (hx : I64 x) :
    Calls Tryd.prog 43 #[.int .i64 x, .int .u64 b] w fun e w' => e = .returned (.int .u64 (us 64 (sg b x))) ∧ w = w' := by
  obtain ⟨h1, h2⟩ := hx
  rcases hb with rfl | rfl | rfl | rfl
  · go_enter Tryd.func43, Tryd.ntmps43
    go_wp2
    all_goals
      go_ret
      exact ⟨ret_int (by rw [i8_sg, u64_us]), rfl⟩
  · go_enter Tryd.func43, Tryd.ntmps43
    go_wp2
    all_goals
      go_ret
      exact ⟨ret_int (by rw [i16_sg, u64_us]), rfl⟩
  · go_enter Tryd.func43, Tryd.ntmps43
    go_wp2
    all_goals
      go_ret
      exact ⟨ret_int (by rw [w32_sg, u64_us]), rfl⟩
  · go_enter Tryd.func43, Tryd.ntmps43
    go_wp2
    all_goals
      go_ret
      exact ⟨ret_int (by rw [u64_us, sg64 ⟨h1, h2⟩]), rfl⟩
theorem c_fits (x b : Int) (w : World) (hb : B4 b) (hx : I64 x) :
    Calls Tryd.prog 49 #[.int .i64 x, .int .u64 b] w fun e w' => e = .returned (.bool (fitB b x)) ∧ w = w' := by
  obtain ⟨h1, h2⟩ := hx
  rcases hb with rfl | rfl | rfl | rfl
  · go_enter Tryd.func49, Tryd.ntmps49
    go_wp2
    all_goals
      go_ret
      exact ⟨ret_bool (fitB_is (by rw [lst8, grt8]; simp; try omega)), rfl⟩
  · go_enter Tryd.func49, Tryd.ntmps49
    go_wp2
    all_goals
      go_ret
      exact ⟨ret_bool (fitB_is (by rw [lst16, grt16]; simp; try omega)), rfl⟩
  · go_enter Tryd.func49, Tryd.ntmps49
    go_wp2
    all_goals
      go_ret
      exact ⟨ret_bool (fitB_is (by rw [lst32, grt32]; simp; try omega)), rfl⟩
  · go_enter Tryd.func49, Tryd.ntmps49
    go_wp2
    all_goals
      go_ret
      exact ⟨ret_bool (fitB_is (by rw [lst64, grt64]; simp; try omega)), rfl⟩
theorem c_fitsU (x b : Int) (w : World) (hb : B4 b) (hx : U64 x) :
    Calls Tryd.prog 50 #[.int .u64 x, .int .u64 b] w fun e w' => e = .returned (.bool (fitU b x)) ∧ w = w' := by
  obtain ⟨h1, h2⟩ := hx
  rcases hb with rfl | rfl | rfl | rfl
  · go_enter Tryd.func50, Tryd.ntmps50
    go_wp2
    all_goals
      go_ret
      exact ⟨ret_bool (fitU_is (by rw [top8]; simp; try omega)), rfl⟩
  · go_enter Tryd.func50, Tryd.ntmps50
    go_wp2
    all_goals
      go_ret
      exact ⟨ret_bool (fitU_is (by rw [top16]; simp; try omega)), rfl⟩
  · go_enter Tryd.func50, Tryd.ntmps50
    go_wp2
    all_goals
      go_ret
      exact ⟨ret_bool (fitU_is (by rw [top32]; simp; try omega)), rfl⟩
  · go_enter Tryd.func50, Tryd.ntmps50
    go_wp2
    all_goals
      go_ret
      exact ⟨ret_bool (fitU_is (by rw [top64]; simp; try omega)), rfl⟩
/-- What is told of a limit. -/
def nzB (p q r t : Int) : Bool := decide (0 < p ∨ 0 < r ∨ q < 0)
def nnB (p q r t : Int) : Bool := decide (0 ≤ p)
def unB (p q r t : Int) : Bool := decide (q < p ∨ t < r)
theorem nzB_is {p q r t : Int} {v : Bool} (h : v = true ↔ 0 < p ∨ 0 < r ∨ q < 0) : v = nzB p q r t := by rw [Bool.eq_iff_iff, h]; simp [nzB]
theorem nnB_is {p q r t : Int} {v : Bool} (h : v = true ↔ 0 ≤ p) : v = nnB p q r t := by rw [Bool.eq_iff_iff, h]; simp [nnB]
theorem unB_is {p q r t : Int} {v : Bool} (h : v = true ↔ q < p ∨ t < r) : v = unB p q r t := by rw [Bool.eq_iff_iff, h]; simp [unB]


theorem c_noLimitX (w : World) :
    Calls Tryd.prog 47 #[.int .u64 64] w
      fun e w' => e = .returned (.agg #[.int .i64 (-9223372036854775808), .int .i64 9223372036854775807, .int .u64 0, .int .u64 18446744073709551615]) ∧
        w.alloc (.cells #[.int .i64 (-9223372036854775808), .int .i64 9223372036854775807, .int .u64 0, .int .u64 18446744073709551615] 45) = w' := by
  go_enter Tryd.func47, Tryd.ntmps47
  go_wp2
  exact bodyPost_ret (v := .agg #[.int .i64 (-9223372036854775808), .int .i64 9223372036854775807, .int .u64 0, .int .u64 18446744073709551615]) (by simp [results, Tryd.results47, go_sem, wrap_64_top, wrap_64_min, wrap_64_max]) rfl ⟨rfl, by rw [wrap_64_top, wrap_64_min, wrap_64_max]⟩

/-- The limit of all words; the world is told exactly. -/
theorem c_noLimit (w : World) :
    Calls Tryd.prog 36 #[] w
      fun e w' => e = .returned (.agg #[.int .i64 (-9223372036854775808), .int .i64 9223372036854775807, .int .u64 0, .int .u64 18446744073709551615]) ∧
        (w.alloc (.cells #[.int .i64 (-9223372036854775808), .int .i64 9223372036854775807, .int .u64 0, .int .u64 18446744073709551615] 45)).alloc (.cells #[.int .i64 (-9223372036854775808), .int .i64 9223372036854775807, .int .u64 0, .int .u64 18446744073709551615] 45) = w' := by
  go_enter Tryd.func36, Tryd.ntmps36
  go_wp2_with ((go_at_call 47; refine (c_noLimitX _).mono ?_; rintro e w1 ⟨rfl, rfl⟩))
  exact bodyPost_ret (v := .agg #[.int .i64 (-9223372036854775808), .int .i64 9223372036854775807, .int .u64 0, .int .u64 18446744073709551615]) (by simp [results, Tryd.results36, go_sem]) rfl ⟨rfl, by simp [go_sem]⟩


end Go.Proofs.YtjfpjcaidjblnaaDoor
