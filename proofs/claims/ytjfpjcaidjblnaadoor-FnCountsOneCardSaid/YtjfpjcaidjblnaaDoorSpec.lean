/-
  What the reference's functions (package spec) return: contracts, one a function. No condition but that the arguments are of their types and that the size is 8, 16, 32 or 64.
-/
import Derived.Test.YtjfpjcaidjblnaaDoorBase
namespace Go.Proofs.YtjfpjcaidjblnaaDoor
open Go.RowKit
set_option linter.unusedVariables false

theorem c_Bits (n : Int) (w : World) : Calls Tryd.prog 8 #[.int .i64 n] w (SomeB w) := by
  have h1 := Int.tmod_lt_of_pos n (show (0 : Int) < 4 by decide)
  have h2 := Int.lt_tmod_of_pos n (show (0 : Int) < 4 by decide)
  have hk : n.tmod 4 = -3 ∨ n.tmod 4 = -2 ∨ n.tmod 4 = -1 ∨ n.tmod 4 = 0 ∨ n.tmod 4 = 1 ∨ n.tmod 4 = 2 ∨ n.tmod 4 = 3 := by omega
  clear h1 h2
  rcases hk with hk | hk | hk | hk | hk | hk | hk
  all_goals
    go_enter Tryd.func8, Tryd.ntmps8
    go_wp2
    go_ret
    exact ⟨_, by unfold B4; decide, rfl, rfl⟩

theorem c_Unsigned (x b : Int) (w : World) (hb : B4 b) (hx : U64 x) :
    Calls Tryd.prog 11 #[.int .u64 x, .int .u64 b] w fun e w' => e = .returned (.int .u64 (us b x)) ∧ w = w' := by
  obtain ⟨h1, h2⟩ := hx
  rcases hb with rfl | rfl | rfl | rfl
  · go_enter Tryd.func11, Tryd.ntmps11
    go_wp2
    go_ret
    exact ⟨rfl, rfl⟩
  · go_enter Tryd.func11, Tryd.ntmps11
    go_wp2
    go_ret
    exact ⟨rfl, rfl⟩
  · go_enter Tryd.func11, Tryd.ntmps11
    go_wp2
    go_ret
    exact ⟨rfl, rfl⟩
  · go_enter Tryd.func11, Tryd.ntmps11
    go_wp2
    go_ret
    exact ⟨ret_int (us64 ⟨h1, h2⟩).symm, rfl⟩

theorem c_Signed (x b : Int) (w : World) (hb : B4 b) (hx : U64 x) :
    Calls Tryd.prog 21 #[.int .u64 x, .int .u64 b] w fun e w' => e = .returned (.int .i64 (sg b x)) ∧ w = w' := by
  obtain ⟨h1, h2⟩ := hx
  rcases hb with rfl | rfl | rfl | rfl
  · go_enter Tryd.func21, Tryd.ntmps21
    go_wp2
    all_goals
      go_ret
      exact ⟨ret_int (by unfold sg us; rw [pw8]; split <;> omega), rfl⟩
  · go_enter Tryd.func21, Tryd.ntmps21
    go_wp2
    all_goals
      go_ret
      exact ⟨ret_int (by unfold sg us; rw [pw16]; split <;> omega), rfl⟩
  · go_enter Tryd.func21, Tryd.ntmps21
    go_wp2
    all_goals
      go_ret
      exact ⟨ret_int (by unfold sg us; rw [pw32]; split <;> omega), rfl⟩
  · go_enter Tryd.func21, Tryd.ntmps21
    go_wp2
    all_goals
      go_ret
      exact ⟨ret_int (by unfold sg us wrap64; rw [pw64]; split <;> omega), rfl⟩




theorem mt_is {l : Lm} {s u : Int} {v : Bool} (h : v = true ↔ l.a ≤ s ∧ s ≤ l.b ∧ l.c ≤ u ∧ u ≤ l.d) : v = mt l s u := by rw [Bool.eq_iff_iff, h, mt_iff]
theorem c_Meets (p q r t x b : Int) (w : World) (hb : B4 b) (hx : U64 x) :
    Calls Tryd.prog 10 #[.agg #[.int .i64 p, .int .i64 q, .int .u64 r, .int .u64 t], .int .u64 x, .int .u64 b] w
      fun e w' => e = .returned (.bool (mt ⟨p, q, r, t⟩ (sg b x) (us b x))) ∧ Up w w' := by
  have H := Lib.hid hb
  clear hb
  go_enter Tryd.func10, Tryd.ntmps10
  go_wp2_with (first | (go_at_call 21; refine (c_Signed _ _ _ H.out hx).mono ?_; rintro e w' ⟨rfl, rfl⟩) | (go_at_call 11; refine (c_Unsigned _ _ _ H.out hx).mono ?_; rintro e w' ⟨rfl, rfl⟩))
  all_goals
    go_ret
    exact ⟨ret_bool (mt_is (by simp; try omega)), (Up.refl _).alloc _⟩

theorem c_One (x b : Int) (w : World) (hb : B4 b) (hx : U64 x) :
    Calls Tryd.prog 16 #[.int .u64 x, .int .u64 b] w
      fun e w' => e = .returned (.agg #[.int .i64 (sg b x), .int .i64 (sg b x), .int .u64 (us b x), .int .u64 (us b x)]) ∧ Up w w' := by
  have H := Lib.hid hb
  clear hb
  go_enter Tryd.func16, Tryd.ntmps16
  go_wp2_with (first | (go_at_call 21; refine (c_Signed _ _ _ H.out hx).mono ?_; rintro e w' ⟨rfl, rfl⟩) | (go_at_call 11; refine (c_Unsigned _ _ _ H.out hx).mono ?_; rintro e w' ⟨rfl, rfl⟩))
  exact bodyPost_ret (v := .agg #[.int .i64 (sg b x), .int .i64 (sg b x), .int .u64 (us b x), .int .u64 (us b x)]) (by simp [results, Tryd.results16, go_sem]) rfl ⟨rfl, (Up.refl _).alloc _⟩


/-- The world is told exactly. -/
theorem c_FitX (p q r t b : Int) (w : World) (hb : B4 b) (hr : U64 r) (ht : U64 t) :
    Calls Tryd.prog 9 #[.agg #[.int .i64 p, .int .i64 q, .int .u64 r, .int .u64 t], .int .u64 b] w
      fun e w' => e = .returned (.agg #[.int .i64 (sg b p), .int .i64 (sg b q), .int .u64 (us b r), .int .u64 (us b t)]) ∧ ((w.alloc (.cells #[.int .i64 p, .int .i64 q, .int .u64 r, .int .u64 t] 24)).alloc (.cells #[.int .i64 (sg b p), .int .i64 (sg b q), .int .u64 (us b r), .int .u64 (us b t)] 24)).drew = w' := by
  have e1 : sg b (IntKind.u64.wrap p) = sg b p := sg_wrap hb
  have e2 : sg b (IntKind.u64.wrap q) = sg b q := sg_wrap hb
  have u1 := wrap_U64 p
  have u2 := wrap_U64 q
  have H := Lib.hid hb
  have E1 := Lib.hid e1
  have E2 := Lib.hid e2
  clear hb e1 e2
  go_enter Tryd.func9, Tryd.ntmps9
  go_wp2_with fail
  go_region_held3 (fun w' => w'.cell? ⟨w.heap.size, 0, none⟩ = some (.int .i64 p) ∧ w'.cell? ⟨w.heap.size, 1, none⟩ = some (.int .i64 q) ∧ w'.cell? ⟨w.heap.size, 2, none⟩ = some (.int .u64 r) ∧ w'.cell? ⟨w.heap.size, 3, none⟩ = some (.int .u64 t)) (first | assumption | go_keep) (first | (go_at_call 21; refine (c_Signed _ _ _ H.out (wrap_U64 _)).mono ?_; rintro e wh ⟨rfl, rfl⟩) | (go_at_call 11; refine (c_Unsigned _ _ _ H.out (by first | exact hr | exact ht)).mono ?_; rintro e wh ⟨rfl, rfl⟩))
  go_wp2
  refine bodyPost_ret (v := .agg #[.int .i64 (sg b (IntKind.u64.wrap p)), .int .i64 (sg b (IntKind.u64.wrap q)), .int .u64 (us b r), .int .u64 (us b t)]) ?_ rfl ⟨by rw [E1.out, E2.out], ?_⟩
  · simp [results, Tryd.results9, go_sem]
  · rw [E1.out, E2.out]
theorem c_Fit (p q r t b : Int) (w : World) (hb : B4 b) (hr : U64 r) (ht : U64 t) :
    Calls Tryd.prog 9 #[.agg #[.int .i64 p, .int .i64 q, .int .u64 r, .int .u64 t], .int .u64 b] w
      fun e w' => e = .returned (.agg #[.int .i64 (sg b p), .int .i64 (sg b q), .int .u64 (us b r), .int .u64 (us b t)]) ∧ Up w w' :=
  (c_FitX p q r t b w hb hr ht).mono fun e w' ⟨h1, h2⟩ => ⟨h1, by rw [← h2]; exact (((Up.refl _).alloc _).alloc _).drew⟩

end Go.Proofs.YtjfpjcaidjblnaaDoor
