/-
  What the safe sums and differences return: the sum or the difference, if it is a number of so many bits, and 0 otherwise. Contracts, one a function; the arguments are any numbers of their types.
-/
import Derived.Test.YtjfpjcaidjblnaaDoorConv
namespace Go.Proofs.YtjfpjcaidjblnaaDoor
open Go.RowKit
set_option linter.unusedVariables false

/-- v if it is told, 0 otherwise. -/
def sel (ok : Bool) (v : Int) : Int := if ok = true then v else 0
theorem sel_t (v : Int) : sel true v = v := rfl
theorem sel_f (v : Int) : sel false v = 0 := rfl
theorem ret_two {k : IntKind} {a a' : Int} {c c' : Bool} (h : a = a') (h2 : c = c') : Ending.returned (.tuple #[.int k a, .bool c]) = .returned (.tuple #[.int k a', .bool c']) := by rw [h, h2]
/-- An unsigned difference is told. -/
def subU (b x y : Int) : Bool := decide (y ≤ x ∧ x - y ≤ top b)
theorem fitB_big {b s : Int} (hb : B4 b) (h : 9223372036854775807 < s) : fitB b s = false := by
  rw [← Bool.not_eq_true, fitB_iff]
  rcases hb with rfl | rfl | rfl | rfl
  · rw [grt8]; omega
  · rw [grt16]; omega
  · rw [grt32]; omega
  · rw [grt64]; omega
theorem fitB_small {b s : Int} (hb : B4 b) (h : s < -9223372036854775808) : fitB b s = false := by
  rw [← Bool.not_eq_true, fitB_iff]
  rcases hb with rfl | rfl | rfl | rfl
  · rw [lst8]; omega
  · rw [lst16]; omega
  · rw [lst32]; omega
  · rw [lst64]; omega
theorem fitU_big {b s : Int} (hb : B4 b) (h : 18446744073709551615 < s) : fitU b s = false := by
  rw [← Bool.not_eq_true, fitU_iff]
  rcases hb with rfl | rfl | rfl | rfl
  · rw [top8]; omega
  · rw [top16]; omega
  · rw [top32]; omega
  · rw [top64]; omega

theorem c_safeAdd (x y b : Int) (w : World) (hb : B4 b) (hx : I64 x) (hy : I64 y) :
    Calls Tryd.prog 45 #[.int .i64 x, .int .i64 y, .int .u64 b] w fun e w' => e = .returned (.tuple #[.int .i64 (sel (fitB b (x + y)) (x + y)), .bool (fitB b (x + y))]) ∧ w = w' := by
  obtain ⟨h1, h2⟩ := hx
  obtain ⟨h3, h4⟩ := hy
  rcases Int.lt_or_le 9223372036854775807 (x + y) with h5 | h5
  · have hs : wrap64 (x + y) < 0 := by unfold wrap64; omega
    have h6 : 0 ≤ x := by omega
    have h7 : 0 ≤ y := by omega
    have hf := fitB_big hb h5
    have hz : sel (fitB b (x + y)) (x + y) = 0 := by rw [hf]; rfl
    have HF := Lib.hid hf
    have HZ := Lib.hid hz
    clear h5 hf hz
    go_enter Tryd.func45, Tryd.ntmps45
    go_wp2
    go_ret2
    exact ⟨ret_two HZ.out.symm HF.out.symm, rfl⟩
  · rcases Int.lt_or_le (x + y) (-9223372036854775808) with h6 | h6
    · have hs : 0 ≤ wrap64 (x + y) := by unfold wrap64; omega
      have h7 : x < 0 := by omega
      have h8 : y < 0 := by omega
      have hf := fitB_small hb h6
      have hz : sel (fitB b (x + y)) (x + y) = 0 := by rw [hf]; rfl
      have HF := Lib.hid hf
      have HZ := Lib.hid hz
      clear h6 hf hz
      go_enter Tryd.func45, Tryd.ntmps45
      go_wp2
      go_ret2
      exact ⟨ret_two HZ.out.symm HF.out.symm, rfl⟩
    · have H := Lib.hid hb
      clear hb
      cases hf : fitB b (x + y)
      · go_enter Tryd.func45, Tryd.ntmps45
        go_wp2_with ((go_at_call 49; refine (c_fits _ _ _ H.out ⟨h6, h5⟩).mono ?_; rintro e w1 ⟨rfl, rfl⟩))
        all_goals
          go_ret2
          exact ⟨rfl, rfl⟩
      · go_enter Tryd.func45, Tryd.ntmps45
        go_wp2_with ((go_at_call 49; refine (c_fits _ _ _ H.out ⟨h6, h5⟩).mono ?_; rintro e w1 ⟨rfl, rfl⟩))
        all_goals
          go_ret2
          exact ⟨rfl, rfl⟩
theorem c_safeAddU (x y b : Int) (w : World) (hb : B4 b) (hx : U64 x) (hy : U64 y) :
    Calls Tryd.prog 46 #[.int .u64 x, .int .u64 y, .int .u64 b] w fun e w' => e = .returned (.tuple #[.int .u64 (sel (fitU b (x + y)) (x + y)), .bool (fitU b (x + y))]) ∧ w = w' := by
  obtain ⟨h1, h2⟩ := hx
  obtain ⟨h3, h4⟩ := hy
  rcases Int.lt_or_le 18446744073709551615 (x + y) with h5 | h5
  · have hs : IntKind.u64.wrap (x + y) < x := by rw [IntKind.wrap_u64]; omega
    have hf := fitU_big hb h5
    have hz : sel (fitU b (x + y)) (x + y) = 0 := by rw [hf]; rfl
    have HF := Lib.hid hf
    have HZ := Lib.hid hz
    clear h5 hf hz
    go_enter Tryd.func46, Tryd.ntmps46
    go_wp2
    go_ret2
    exact ⟨ret_two HZ.out.symm HF.out.symm, rfl⟩
  · have H := Lib.hid hb
    clear hb
    cases hf : fitU b (x + y)
    · go_enter Tryd.func46, Tryd.ntmps46
      go_wp2_with ((go_at_call 50; refine (c_fitsU _ _ _ H.out ⟨by omega, h5⟩).mono ?_; rintro e w1 ⟨rfl, rfl⟩))
      go_ret2
      exact ⟨rfl, rfl⟩
    · go_enter Tryd.func46, Tryd.ntmps46
      go_wp2_with ((go_at_call 50; refine (c_fitsU _ _ _ H.out ⟨by omega, h5⟩).mono ?_; rintro e w1 ⟨rfl, rfl⟩))
      go_ret2
      exact ⟨rfl, rfl⟩

end Go.Proofs.YtjfpjcaidjblnaaDoor
