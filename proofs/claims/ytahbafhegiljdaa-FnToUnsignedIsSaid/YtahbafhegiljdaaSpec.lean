/-
  What the reference's functions (package spec) return: contracts, one a function. No condition but that the arguments are of their types and that the size is 8, 16, 32 or 64.
-/
import Derived.Test.YtahbafhegiljdaaBase
namespace Go.Proofs.Ytahbafhegiljdaa
open Go.RowKit
set_option linter.unusedVariables false

theorem c_Bits (n : Int) (w : World) : Calls Try.prog 15 #[.int .i64 n] w (SomeB w) := by
  have h1 := Int.tmod_lt_of_pos n (show (0 : Int) < 4 by decide)
  have h2 := Int.lt_tmod_of_pos n (show (0 : Int) < 4 by decide)
  have hk : n.tmod 4 = -3 ∨ n.tmod 4 = -2 ∨ n.tmod 4 = -1 ∨ n.tmod 4 = 0 ∨ n.tmod 4 = 1 ∨ n.tmod 4 = 2 ∨ n.tmod 4 = 3 := by omega
  clear h1 h2
  rcases hk with hk | hk | hk | hk | hk | hk | hk
  all_goals
    go_enter Try.func15, Try.ntmps15
    go_wp2
    go_ret
    exact ⟨_, by unfold B4; decide, rfl, rfl⟩

theorem c_Unsigned (x b : Int) (w : World) (hb : B4 b) (hx : U64 x) :
    Calls Try.prog 34 #[.int .u64 x, .int .u64 b] w fun e w' => e = .returned (.int .u64 (us b x)) ∧ w = w' := by
  obtain ⟨h1, h2⟩ := hx
  rcases hb with rfl | rfl | rfl | rfl
  · go_enter Try.func34, Try.ntmps34
    go_wp2
    go_ret
    exact ⟨rfl, rfl⟩
  · go_enter Try.func34, Try.ntmps34
    go_wp2
    go_ret
    exact ⟨rfl, rfl⟩
  · go_enter Try.func34, Try.ntmps34
    go_wp2
    go_ret
    exact ⟨rfl, rfl⟩
  · go_enter Try.func34, Try.ntmps34
    go_wp2
    go_ret
    exact ⟨ret_int (us64 ⟨h1, h2⟩).symm, rfl⟩

theorem c_Signed (x b : Int) (w : World) (hb : B4 b) (hx : U64 x) :
    Calls Try.prog 30 #[.int .u64 x, .int .u64 b] w fun e w' => e = .returned (.int .i64 (sg b x)) ∧ w = w' := by
  obtain ⟨h1, h2⟩ := hx
  rcases hb with rfl | rfl | rfl | rfl
  · go_enter Try.func30, Try.ntmps30
    go_wp2
    all_goals
      go_ret
      exact ⟨ret_int (by unfold sg us; rw [pw8]; split <;> omega), rfl⟩
  · go_enter Try.func30, Try.ntmps30
    go_wp2
    all_goals
      go_ret
      exact ⟨ret_int (by unfold sg us; rw [pw16]; split <;> omega), rfl⟩
  · go_enter Try.func30, Try.ntmps30
    go_wp2
    all_goals
      go_ret
      exact ⟨ret_int (by unfold sg us; rw [pw32]; split <;> omega), rfl⟩
  · go_enter Try.func30, Try.ntmps30
    go_wp2
    all_goals
      go_ret
      exact ⟨ret_int (by unfold sg us wrap64; rw [pw64]; split <;> omega), rfl⟩

theorem c_Greatest (b : Int) (w : World) (hb : B4 b) :
    Calls Try.prog 22 #[.int .u64 b] w fun e w' => e = .returned (.int .i64 (grt b)) ∧ w = w' := by
  rcases hb with rfl | rfl | rfl | rfl
  all_goals
    go_enter Try.func22, Try.ntmps22
    go_wp2
    go_ret
    exact ⟨rfl, rfl⟩

theorem c_Least (b : Int) (w : World) (hb : B4 b) :
    Calls Try.prog 21 #[.int .u64 b] w fun e w' => e = .returned (.int .i64 (lst b)) ∧ w = w' := by
  rcases hb with rfl | rfl | rfl | rfl
  all_goals
    go_enter Try.func21, Try.ntmps21
    go_wp2
    go_ret
    exact ⟨rfl, rfl⟩

theorem c_Top (b : Int) (w : World) (hb : B4 b) :
    Calls Try.prog 17 #[.int .u64 b] w fun e w' => e = .returned (.int .u64 (top b)) ∧ w = w' := by
  rcases hb with rfl | rfl | rfl | rfl
  all_goals
    go_enter Try.func17, Try.ntmps17
    go_wp2
    go_ret
    exact ⟨rfl, rfl⟩

theorem mt_is {l : Lm} {s u : Int} {v : Bool} (h : v = true ↔ l.a ≤ s ∧ s ≤ l.b ∧ l.c ≤ u ∧ u ≤ l.d) : v = mt l s u := by rw [Bool.eq_iff_iff, h, mt_iff]
theorem c_Meets (p q r t x b : Int) (w : World) (hb : B4 b) (hx : U64 x) :
    Calls Try.prog 19 #[.agg #[.int .i64 p, .int .i64 q, .int .u64 r, .int .u64 t], .int .u64 x, .int .u64 b] w
      fun e w' => e = .returned (.bool (mt ⟨p, q, r, t⟩ (sg b x) (us b x))) ∧ Up w w' := by
  have H := Lib.hid hb
  clear hb
  go_enter Try.func19, Try.ntmps19
  go_wp2_with (first | (go_at_call 30; refine (c_Signed _ _ _ H.out hx).mono ?_; rintro e w' ⟨rfl, rfl⟩) | (go_at_call 34; refine (c_Unsigned _ _ _ H.out hx).mono ?_; rintro e w' ⟨rfl, rfl⟩))
  all_goals
    go_ret
    exact ⟨ret_bool (mt_is (by simp; try omega)), (Up.refl _).alloc _⟩

theorem c_One (x b : Int) (w : World) (hb : B4 b) (hx : U64 x) :
    Calls Try.prog 24 #[.int .u64 x, .int .u64 b] w
      fun e w' => e = .returned (.agg #[.int .i64 (sg b x), .int .i64 (sg b x), .int .u64 (us b x), .int .u64 (us b x)]) ∧ Up w w' := by
  have H := Lib.hid hb
  clear hb
  go_enter Try.func24, Try.ntmps24
  go_wp2_with (first | (go_at_call 30; refine (c_Signed _ _ _ H.out hx).mono ?_; rintro e w' ⟨rfl, rfl⟩) | (go_at_call 34; refine (c_Unsigned _ _ _ H.out hx).mono ?_; rintro e w' ⟨rfl, rfl⟩))
  exact bodyPost_ret (v := .agg #[.int .i64 (sg b x), .int .i64 (sg b x), .int .u64 (us b x), .int .u64 (us b x)]) (by simp [results, Try.results24, go_sem]) rfl ⟨rfl, (Up.refl _).alloc _⟩

theorem c_Whole (p q r t : Int) (w : World) :
    Calls Try.prog 27 #[.agg #[.int .i64 p, .int .i64 q, .int .u64 r, .int .u64 t]] w
      fun e w' => e = .returned (.bool (decide (p ≤ q ∧ r ≤ t))) ∧ Up w w' := by
  by_cases h1 : p ≤ q <;> by_cases h2 : r ≤ t
  all_goals
    go_enter Try.func27, Try.ntmps27
    go_wp2
    go_ret
    exact ⟨ret_bool (by simp [h1, h2]), (Up.refl _).alloc _⟩

end Go.Proofs.Ytahbafhegiljdaa
