/-
  What the reference's functions (package spec) return: contracts, one a function. No condition but that the arguments are of their types and that the size is 8, 16, 32 or 64.
-/
import Derived.Test.YtfgcfllboagfmaaBase
namespace Go.Proofs.Ytfgcfllboagfmaa
open Go.RowKit
set_option linter.unusedVariables false

theorem c_Bits (n : Int) (w : World) : Calls Try.prog 16 #[.int .i64 n] w (SomeB w) := by
  have h1 := Int.tmod_lt_of_pos n (show (0 : Int) < 4 by decide)
  have h2 := Int.lt_tmod_of_pos n (show (0 : Int) < 4 by decide)
  have hk : n.tmod 4 = -3 ∨ n.tmod 4 = -2 ∨ n.tmod 4 = -1 ∨ n.tmod 4 = 0 ∨ n.tmod 4 = 1 ∨ n.tmod 4 = 2 ∨ n.tmod 4 = 3 := by omega
  clear h1 h2
  rcases hk with hk | hk | hk | hk | hk | hk | hk
  all_goals
    go_enter Try.func16, Try.ntmps16
    go_wp2
    go_ret
    exact ⟨_, by unfold B4; decide, rfl, rfl⟩

theorem c_Unsigned (x b : Int) (w : World) (hb : B4 b) (hx : U64 x) :
    Calls Try.prog 21 #[.int .u64 x, .int .u64 b] w fun e w' => e = .returned (.int .u64 (us b x)) ∧ w = w' := by
  obtain ⟨h1, h2⟩ := hx
  rcases hb with rfl | rfl | rfl | rfl
  · go_enter Try.func21, Try.ntmps21
    go_wp2
    go_ret
    exact ⟨rfl, rfl⟩
  · go_enter Try.func21, Try.ntmps21
    go_wp2
    go_ret
    exact ⟨rfl, rfl⟩
  · go_enter Try.func21, Try.ntmps21
    go_wp2
    go_ret
    exact ⟨rfl, rfl⟩
  · go_enter Try.func21, Try.ntmps21
    go_wp2
    go_ret
    exact ⟨ret_int (us64 ⟨h1, h2⟩).symm, rfl⟩

theorem c_Signed (x b : Int) (w : World) (hb : B4 b) (hx : U64 x) :
    Calls Try.prog 25 #[.int .u64 x, .int .u64 b] w fun e w' => e = .returned (.int .i64 (sg b x)) ∧ w = w' := by
  obtain ⟨h1, h2⟩ := hx
  rcases hb with rfl | rfl | rfl | rfl
  · go_enter Try.func25, Try.ntmps25
    go_wp2
    all_goals
      go_ret
      exact ⟨ret_int (by unfold sg us; rw [pw8]; split <;> omega), rfl⟩
  · go_enter Try.func25, Try.ntmps25
    go_wp2
    all_goals
      go_ret
      exact ⟨ret_int (by unfold sg us; rw [pw16]; split <;> omega), rfl⟩
  · go_enter Try.func25, Try.ntmps25
    go_wp2
    all_goals
      go_ret
      exact ⟨ret_int (by unfold sg us; rw [pw32]; split <;> omega), rfl⟩
  · go_enter Try.func25, Try.ntmps25
    go_wp2
    all_goals
      go_ret
      exact ⟨ret_int (by unfold sg us wrap64; rw [pw64]; split <;> omega), rfl⟩

theorem c_Greatest (b : Int) (w : World) (hb : B4 b) :
    Calls Try.prog 44 #[.int .u64 b] w fun e w' => e = .returned (.int .i64 (grt b)) ∧ w = w' := by
  rcases hb with rfl | rfl | rfl | rfl
  all_goals
    go_enter Try.func44, Try.ntmps44
    go_wp2
    go_ret
    exact ⟨rfl, rfl⟩

theorem c_Least (b : Int) (w : World) (hb : B4 b) :
    Calls Try.prog 45 #[.int .u64 b] w fun e w' => e = .returned (.int .i64 (lst b)) ∧ w = w' := by
  rcases hb with rfl | rfl | rfl | rfl
  all_goals
    go_enter Try.func45, Try.ntmps45
    go_wp2
    go_ret
    exact ⟨rfl, rfl⟩

theorem c_Top (b : Int) (w : World) (hb : B4 b) :
    Calls Try.prog 41 #[.int .u64 b] w fun e w' => e = .returned (.int .u64 (top b)) ∧ w = w' := by
  rcases hb with rfl | rfl | rfl | rfl
  all_goals
    go_enter Try.func41, Try.ntmps41
    go_wp2
    go_ret
    exact ⟨rfl, rfl⟩

theorem mt_is {l : Lm} {s u : Int} {v : Bool} (h : v = true ↔ l.a ≤ s ∧ s ≤ l.b ∧ l.c ≤ u ∧ u ≤ l.d) : v = mt l s u := by rw [Bool.eq_iff_iff, h, mt_iff]
theorem c_Meets (p q r t x b : Int) (w : World) (hb : B4 b) (hx : U64 x) :
    Calls Try.prog 18 #[.agg #[.int .i64 p, .int .i64 q, .int .u64 r, .int .u64 t], .int .u64 x, .int .u64 b] w
      fun e w' => e = .returned (.bool (mt ⟨p, q, r, t⟩ (sg b x) (us b x))) ∧ Up w w' := by
  have H := Lib.hid hb
  clear hb
  go_enter Try.func18, Try.ntmps18
  go_wp2_with (first | (go_at_call 25; refine (c_Signed _ _ _ H.out hx).mono ?_; rintro e w' ⟨rfl, rfl⟩) | (go_at_call 21; refine (c_Unsigned _ _ _ H.out hx).mono ?_; rintro e w' ⟨rfl, rfl⟩))
  all_goals
    go_ret
    exact ⟨ret_bool (mt_is (by simp; try omega)), (Up.refl _).alloc _⟩

theorem c_One (x b : Int) (w : World) (hb : B4 b) (hx : U64 x) :
    Calls Try.prog 15 #[.int .u64 x, .int .u64 b] w
      fun e w' => e = .returned (.agg #[.int .i64 (sg b x), .int .i64 (sg b x), .int .u64 (us b x), .int .u64 (us b x)]) ∧ Up w w' := by
  have H := Lib.hid hb
  clear hb
  go_enter Try.func15, Try.ntmps15
  go_wp2_with (first | (go_at_call 25; refine (c_Signed _ _ _ H.out hx).mono ?_; rintro e w' ⟨rfl, rfl⟩) | (go_at_call 21; refine (c_Unsigned _ _ _ H.out hx).mono ?_; rintro e w' ⟨rfl, rfl⟩))
  exact bodyPost_ret (v := .agg #[.int .i64 (sg b x), .int .i64 (sg b x), .int .u64 (us b x), .int .u64 (us b x)]) (by simp [results, Try.results15, go_sem]) rfl ⟨rfl, (Up.refl _).alloc _⟩


/-- As the reference asks it: by a subtraction that can't go round. -/
def sfB (b x y : Int) : Bool := if 0 ≤ y then decide (x ≤ grt b - y) else decide (lst b - y ≤ x)
theorem c_SumFits (x y b : Int) (w : World) (hb : B4 b) (hx : I64 x) (hy : I64 y) :
    Calls Try.prog 27 #[.int .i64 x, .int .i64 y, .int .u64 b] w fun e w' => e = .returned (.bool (sfB b x y)) ∧ w = w' := by
  obtain ⟨h1, h2⟩ := hx
  obtain ⟨h3, h4⟩ := hy
  obtain ⟨g1, g2⟩ := grt_bd hb
  have g3 : -9223372036854775808 ≤ lst b := by rw [lst_grt]; omega
  have g4 : lst b ≤ -128 := by rw [lst_grt]; omega
  have H := Lib.hid hb
  clear hb
  rcases Int.lt_or_le y 0 with h5 | h5
  · have he : sfB b x y = decide (lst b - y ≤ x) := by unfold sfB; rw [if_neg (by omega)]
    have HE := Lib.hid he
    clear he
    go_enter Try.func27, Try.ntmps27
    go_wp2_with (first | (go_at_call 44; refine (c_Greatest _ _ H.out).mono ?_; rintro e w2 ⟨rfl, rfl⟩) | (go_at_call 45; refine (c_Least _ _ H.out).mono ?_; rintro e w2 ⟨rfl, rfl⟩))
    go_ret
    exact ⟨by rw [HE.out]; rfl, rfl⟩
  · have he : sfB b x y = decide (x ≤ grt b - y) := by unfold sfB; rw [if_pos (by omega)]
    have HE := Lib.hid he
    clear he
    go_enter Try.func27, Try.ntmps27
    go_wp2_with (first | (go_at_call 44; refine (c_Greatest _ _ H.out).mono ?_; rintro e w2 ⟨rfl, rfl⟩) | (go_at_call 45; refine (c_Least _ _ H.out).mono ?_; rintro e w2 ⟨rfl, rfl⟩))
    go_ret
    exact ⟨by rw [HE.out]; rfl, rfl⟩
def dfB (b x y : Int) : Bool := if 0 ≤ y then decide (lst b + y ≤ x) else decide (x ≤ grt b + y)
theorem c_DifferenceFits (x y b : Int) (w : World) (hb : B4 b) (hx : I64 x) (hy : I64 y) :
    Calls Try.prog 31 #[.int .i64 x, .int .i64 y, .int .u64 b] w fun e w' => e = .returned (.bool (dfB b x y)) ∧ w = w' := by
  obtain ⟨h1, h2⟩ := hx
  obtain ⟨h3, h4⟩ := hy
  obtain ⟨g1, g2⟩ := grt_bd hb
  have g3 : -9223372036854775808 ≤ lst b := by rw [lst_grt]; omega
  have g4 : lst b ≤ -128 := by rw [lst_grt]; omega
  have H := Lib.hid hb
  clear hb
  rcases Int.lt_or_le y 0 with h5 | h5
  · have he : dfB b x y = decide (x ≤ grt b + y) := by unfold dfB; rw [if_neg (by omega)]
    have HE := Lib.hid he
    clear he
    go_enter Try.func31, Try.ntmps31
    go_wp2_with (first | (go_at_call 44; refine (c_Greatest _ _ H.out).mono ?_; rintro e w2 ⟨rfl, rfl⟩) | (go_at_call 45; refine (c_Least _ _ H.out).mono ?_; rintro e w2 ⟨rfl, rfl⟩))
    go_ret
    exact ⟨by rw [HE.out]; rfl, rfl⟩
  · have he : dfB b x y = decide (lst b + y ≤ x) := by unfold dfB; rw [if_pos (by omega)]
    have HE := Lib.hid he
    clear he
    go_enter Try.func31, Try.ntmps31
    go_wp2_with (first | (go_at_call 44; refine (c_Greatest _ _ H.out).mono ?_; rintro e w2 ⟨rfl, rfl⟩) | (go_at_call 45; refine (c_Least _ _ H.out).mono ?_; rintro e w2 ⟨rfl, rfl⟩))
    go_ret
    exact ⟨by rw [HE.out]; rfl, rfl⟩
theorem c_SumFitsU (x y b : Int) (w : World) (hb : B4 b) (hx : U64 x) (hy : U64 y) (hyt : y ≤ top b) :
    Calls Try.prog 23 #[.int .u64 x, .int .u64 y, .int .u64 b] w fun e w' => e = .returned (.bool (fitU b (x + y))) ∧ w = w' := by
  obtain ⟨h1, h2⟩ := hx
  obtain ⟨h3, h4⟩ := hy
  obtain ⟨g1, g2⟩ := top_bd hb
  have H := Lib.hid hb
  clear hb
  go_enter Try.func23, Try.ntmps23
  go_wp2_with ((go_at_call 41; refine (c_Top _ _ H.out).mono ?_; rintro e w2 ⟨rfl, rfl⟩))
  go_ret
  exact ⟨ret_bool (fitU_is (by simp; omega)), rfl⟩

end Go.Proofs.Ytfgcfllboagfmaa
