/-
  What the reference's functions (package spec) return: contracts, one a function. No condition but that the arguments are of their types and that the size is 8, 16, 32 or 64.
-/
import Derived.Test.YtcnhhgglgfaheaaBase
namespace Go.Proofs.Ytcnhhgglgfaheaa
open Go.RowKit
set_option linter.unusedVariables false

theorem c_Bits (n : Int) (w : World) : Calls Try.prog 15 #[.int .i64 n] w (SomeB w) := by
  have h1 := Int.tmod_lt_of_pos n (show (0 : Int) < 4 by decide)
  have h2 := Int.lt_tmod_of_pos n (show (0 : Int) < 4 by decide)
  have hk : n.tmod 4 = -3 ∨ n.tmod 4 = -2 ∨ n.tmod 4 = -1 ∨ n.tmod 4 = 0 ∨ n.tmod 4 = 1 ∨ n.tmod 4 = 2 ∨ n.tmod 4 = 3 := by omega
  clear h1 h2
  rcases hk with hk | hk | hk | hk | hk | hk | hk
  all_goals
    go_enter Try.func15, Try.ntmps15
    go_wp2
    go_ret
    exact ⟨_, by unfold B4; decide, rfl, rfl⟩

theorem c_Unsigned (x b : Int) (w : World) (hb : B4 b) (hx : U64 x) :
    Calls Try.prog 27 #[.int .u64 x, .int .u64 b] w fun e w' => e = .returned (.int .u64 (us b x)) ∧ w = w' := by
  obtain ⟨h1, h2⟩ := hx
  rcases hb with rfl | rfl | rfl | rfl
  · go_enter Try.func27, Try.ntmps27
    go_wp2
    go_ret
    exact ⟨rfl, rfl⟩
  · go_enter Try.func27, Try.ntmps27
    go_wp2
    go_ret
    exact ⟨rfl, rfl⟩
  · go_enter Try.func27, Try.ntmps27
    go_wp2
    go_ret
    exact ⟨rfl, rfl⟩
  · go_enter Try.func27, Try.ntmps27
    go_wp2
    go_ret
    exact ⟨ret_int (us64 ⟨h1, h2⟩).symm, rfl⟩

theorem c_Signed (x b : Int) (w : World) (hb : B4 b) (hx : U64 x) :
    Calls Try.prog 26 #[.int .u64 x, .int .u64 b] w fun e w' => e = .returned (.int .i64 (sg b x)) ∧ w = w' := by
  obtain ⟨h1, h2⟩ := hx
  rcases hb with rfl | rfl | rfl | rfl
  · go_enter Try.func26, Try.ntmps26
    go_wp2
    all_goals
      go_ret
      exact ⟨ret_int (by unfold sg us; rw [pw8]; split <;> omega), rfl⟩
  · go_enter Try.func26, Try.ntmps26
    go_wp2
    all_goals
      go_ret
      exact ⟨ret_int (by unfold sg us; rw [pw16]; split <;> omega), rfl⟩
  · go_enter Try.func26, Try.ntmps26
    go_wp2
    all_goals
      go_ret
      exact ⟨ret_int (by unfold sg us; rw [pw32]; split <;> omega), rfl⟩
  · go_enter Try.func26, Try.ntmps26
    go_wp2
    all_goals
      go_ret
      exact ⟨ret_int (by unfold sg us wrap64; rw [pw64]; split <;> omega), rfl⟩

theorem c_Greatest (b : Int) (w : World) (hb : B4 b) :
    Calls Try.prog 34 #[.int .u64 b] w fun e w' => e = .returned (.int .i64 (grt b)) ∧ w = w' := by
  rcases hb with rfl | rfl | rfl | rfl
  all_goals
    go_enter Try.func34, Try.ntmps34
    go_wp2
    go_ret
    exact ⟨rfl, rfl⟩

theorem c_Least (b : Int) (w : World) (hb : B4 b) :
    Calls Try.prog 33 #[.int .u64 b] w fun e w' => e = .returned (.int .i64 (lst b)) ∧ w = w' := by
  rcases hb with rfl | rfl | rfl | rfl
  all_goals
    go_enter Try.func33, Try.ntmps33
    go_wp2
    go_ret
    exact ⟨rfl, rfl⟩

theorem c_Top (b : Int) (w : World) (hb : B4 b) :
    Calls Try.prog 35 #[.int .u64 b] w fun e w' => e = .returned (.int .u64 (top b)) ∧ w = w' := by
  rcases hb with rfl | rfl | rfl | rfl
  all_goals
    go_enter Try.func35, Try.ntmps35
    go_wp2
    go_ret
    exact ⟨rfl, rfl⟩

theorem mt_is {l : Lm} {s u : Int} {v : Bool} (h : v = true ↔ l.a ≤ s ∧ s ≤ l.b ∧ l.c ≤ u ∧ u ≤ l.d) : v = mt l s u := by rw [Bool.eq_iff_iff, h, mt_iff]
theorem c_Meets (p q r t x b : Int) (w : World) (hb : B4 b) (hx : U64 x) :
    Calls Try.prog 17 #[.agg #[.int .i64 p, .int .i64 q, .int .u64 r, .int .u64 t], .int .u64 x, .int .u64 b] w
      fun e w' => e = .returned (.bool (mt ⟨p, q, r, t⟩ (sg b x) (us b x))) ∧ Up w w' := by
  have H := Lib.hid hb
  clear hb
  go_enter Try.func17, Try.ntmps17
  go_wp2_with (first | (go_at_call 26; refine (c_Signed _ _ _ H.out hx).mono ?_; rintro e w' ⟨rfl, rfl⟩) | (go_at_call 27; refine (c_Unsigned _ _ _ H.out hx).mono ?_; rintro e w' ⟨rfl, rfl⟩))
  all_goals
    go_ret
    exact ⟨ret_bool (mt_is (by simp; try omega)), (Up.refl _).alloc _⟩

theorem c_One (x b : Int) (w : World) (hb : B4 b) (hx : U64 x) :
    Calls Try.prog 28 #[.int .u64 x, .int .u64 b] w
      fun e w' => e = .returned (.agg #[.int .i64 (sg b x), .int .i64 (sg b x), .int .u64 (us b x), .int .u64 (us b x)]) ∧ Up w w' := by
  have H := Lib.hid hb
  clear hb
  go_enter Try.func28, Try.ntmps28
  go_wp2_with (first | (go_at_call 26; refine (c_Signed _ _ _ H.out hx).mono ?_; rintro e w' ⟨rfl, rfl⟩) | (go_at_call 27; refine (c_Unsigned _ _ _ H.out hx).mono ?_; rintro e w' ⟨rfl, rfl⟩))
  exact bodyPost_ret (v := .agg #[.int .i64 (sg b x), .int .i64 (sg b x), .int .u64 (us b x), .int .u64 (us b x)]) (by simp [results, Try.results28, go_sem]) rfl ⟨rfl, (Up.refl _).alloc _⟩


def dfB (b x y : Int) : Bool := if 0 ≤ y then decide (lst b + y ≤ x) else decide (x ≤ grt b + y)
theorem c_DifferenceFits (x y b : Int) (w : World) (hb : B4 b) (hx : I64 x) (hy : I64 y) :
    Calls Try.prog 25 #[.int .i64 x, .int .i64 y, .int .u64 b] w fun e w' => e = .returned (.bool (dfB b x y)) ∧ w = w' := by
  obtain ⟨h1, h2⟩ := hx
  obtain ⟨h3, h4⟩ := hy
  obtain ⟨g1, g2⟩ := grt_bd hb
  have g3 : -9223372036854775808 ≤ lst b := by rw [lst_grt]; omega
  have g4 : lst b ≤ -128 := by rw [lst_grt]; omega
  have H := Lib.hid hb
  clear hb
  rcases Int.lt_or_le y 0 with h5 | h5
  · have he : dfB b x y = decide (x ≤ grt b + y) := by unfold dfB; rw [if_neg (by omega)]
    have HE := Lib.hid he
    clear he
    go_enter Try.func25, Try.ntmps25
    go_wp2_with (first | (go_at_call 34; refine (c_Greatest _ _ H.out).mono ?_; rintro e w2 ⟨rfl, rfl⟩) | (go_at_call 33; refine (c_Least _ _ H.out).mono ?_; rintro e w2 ⟨rfl, rfl⟩))
    go_ret
    exact ⟨by rw [HE.out]; rfl, rfl⟩
  · have he : dfB b x y = decide (lst b + y ≤ x) := by unfold dfB; rw [if_pos (by omega)]
    have HE := Lib.hid he
    clear he
    go_enter Try.func25, Try.ntmps25
    go_wp2_with (first | (go_at_call 34; refine (c_Greatest _ _ H.out).mono ?_; rintro e w2 ⟨rfl, rfl⟩) | (go_at_call 33; refine (c_Least _ _ H.out).mono ?_; rintro e w2 ⟨rfl, rfl⟩))
    go_ret
    exact ⟨by rw [HE.out]; rfl, rfl⟩
/-- The world is told exactly. -/
theorem c_FitX (p q r t b : Int) (w : World) (hb : B4 b) (hr : U64 r) (ht : U64 t) :
    Calls Try.prog 16 #[.agg #[.int .i64 p, .int .i64 q, .int .u64 r, .int .u64 t], .int .u64 b] w
      fun e w' => e = .returned (.agg #[.int .i64 (sg b p), .int .i64 (sg b q), .int .u64 (us b r), .int .u64 (us b t)]) ∧ ((w.alloc (.cells #[.int .i64 p, .int .i64 q, .int .u64 r, .int .u64 t] 24)).alloc (.cells #[.int .i64 (sg b p), .int .i64 (sg b q), .int .u64 (us b r), .int .u64 (us b t)] 24)).drew = w' := by
  have e1 : sg b (IntKind.u64.wrap p) = sg b p := sg_wrap hb
  have e2 : sg b (IntKind.u64.wrap q) = sg b q := sg_wrap hb
  have u1 := wrap_U64 p
  have u2 := wrap_U64 q
  have H := Lib.hid hb
  have E1 := Lib.hid e1
  have E2 := Lib.hid e2
  clear hb e1 e2
  go_enter Try.func16, Try.ntmps16
  go_wp2_with fail
  go_region_held3 (fun w' => w'.cell? ⟨w.heap.size, 0, none⟩ = some (.int .i64 p) ∧ w'.cell? ⟨w.heap.size, 1, none⟩ = some (.int .i64 q) ∧ w'.cell? ⟨w.heap.size, 2, none⟩ = some (.int .u64 r) ∧ w'.cell? ⟨w.heap.size, 3, none⟩ = some (.int .u64 t)) (first | assumption | go_keep) (first | (go_at_call 26; refine (c_Signed _ _ _ H.out (wrap_U64 _)).mono ?_; rintro e wh ⟨rfl, rfl⟩) | (go_at_call 27; refine (c_Unsigned _ _ _ H.out (by first | exact hr | exact ht)).mono ?_; rintro e wh ⟨rfl, rfl⟩))
  go_wp2
  refine bodyPost_ret (v := .agg #[.int .i64 (sg b (IntKind.u64.wrap p)), .int .i64 (sg b (IntKind.u64.wrap q)), .int .u64 (us b r), .int .u64 (us b t)]) ?_ rfl ⟨by rw [E1.out, E2.out], ?_⟩
  · simp [results, Try.results16, go_sem]
  · rw [E1.out, E2.out]
theorem c_Fit (p q r t b : Int) (w : World) (hb : B4 b) (hr : U64 r) (ht : U64 t) :
    Calls Try.prog 16 #[.agg #[.int .i64 p, .int .i64 q, .int .u64 r, .int .u64 t], .int .u64 b] w
      fun e w' => e = .returned (.agg #[.int .i64 (sg b p), .int .i64 (sg b q), .int .u64 (us b r), .int .u64 (us b t)]) ∧ Up w w' :=
  (c_FitX p q r t b w hb hr ht).mono fun e w' ⟨h1, h2⟩ => ⟨h1, by rw [← h2]; exact (((Up.refl _).alloc _).alloc _).drew⟩
def insB (a b c d p q r t : Int) : Bool := decide (p ≤ a ∧ b ≤ q ∧ r ≤ c ∧ d ≤ t)
theorem insB_iff {a b c d p q r t : Int} : insB a b c d p q r t = true ↔ p ≤ a ∧ b ≤ q ∧ r ≤ c ∧ d ≤ t := by simp [insB]
theorem insB_is {a b c d p q r t : Int} {v : Bool} (h : v = true ↔ p ≤ a ∧ b ≤ q ∧ r ≤ c ∧ d ≤ t) : v = insB a b c d p q r t := by rw [Bool.eq_iff_iff, h, insB_iff]
theorem c_Inside (a b c d p q r t : Int) (w : World) :
    Calls Try.prog 18 #[.agg #[.int .i64 a, .int .i64 b, .int .u64 c, .int .u64 d], .agg #[.int .i64 p, .int .i64 q, .int .u64 r, .int .u64 t]] w
      fun e w' => e = .returned (.bool (insB a b c d p q r t)) ∧ Up w w' := by
  go_enter Try.func18, Try.ntmps18
  go_wp2
  all_goals
    go_ret
    exact ⟨ret_bool (insB_is (by simp; try omega)), ((Up.refl _).alloc _).alloc _⟩
theorem c_Every (b : Int) (w : World) (hb : B4 b) :
    Calls Try.prog 22 #[.int .u64 b] w fun e w' => e = .returned (.agg #[.int .i64 (lst b), .int .i64 (grt b), .int .u64 0, .int .u64 (top b)]) ∧ Up w w' := by
  have H := Lib.hid hb
  clear hb
  go_enter Try.func22, Try.ntmps22
  go_wp2_with (first | (go_at_call 34; refine (c_Greatest _ _ H.out).mono ?_; rintro e w2 ⟨rfl, rfl⟩) | (go_at_call 33; refine (c_Least _ _ H.out).mono ?_; rintro e w2 ⟨rfl, rfl⟩) | (go_at_call 35; refine (c_Top _ _ H.out).mono ?_; rintro e w2 ⟨rfl, rfl⟩))
  refine bodyPost_ret (v := .agg #[.int .i64 (lst b), .int .i64 (grt b), .int .u64 0, .int .u64 (top b)]) ?_ rfl ⟨rfl, ?_⟩
  · simp [results, Try.results22, go_sem]
  · (repeat (first | exact Up.refl _ | assumption | refine Up.setCell ?_ (by first | omega | (dsimp only; omega) | simp) _ | refine Up.alloc ?_ _ | refine Up.drew ?_ | refine Up.trans ?_ (by assumption)))

end Go.Proofs.Ytcnhhgglgfaheaa
