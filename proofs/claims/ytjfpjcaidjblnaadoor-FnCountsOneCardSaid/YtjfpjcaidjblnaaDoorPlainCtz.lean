/-
  Plain laws on the zeros at the low end of the values of a limit. No program in sight.
-/
import Derived.Test.YtjfpjcaidjblnaaDoorPlainCnt
namespace Go.Proofs.YtjfpjcaidjblnaaDoor
open Go.Lib (popAux ctzFrom ctz)

theorem ctz_spec {y : Nat} (h0 : y ≠ 0) (h : y < 2 ^ 64) : ctz 64 y < 64 ∧ y % 2 ^ ctz 64 y = 0 ∧ y / 2 ^ ctz 64 y % 2 = 1 := by
  obtain ⟨m, e, hk⟩ := Lib.ctzFrom_spec 64 y (by omega) h
  unfold ctz
  rw [if_neg h0]
  generalize ctzFrom 64 y = c at e hk
  subst e
  refine ⟨hk, Nat.mul_mod_right _ _, ?_⟩
  rw [Nat.mul_div_cancel_left _ (two_pos c)]
  omega
theorem ctz_zero : ctz 64 0 = 64 := rfl
theorem ctz_mod (y : Nat) (h : y < 2 ^ 64) : y % 2 ^ ctz 64 y = 0 := by
  by_cases h0 : y = 0
  · subst h0; exact Nat.zero_mod _
  · exact (ctz_spec h0 h).2.1
theorem mod_less {y c v : Nat} (h : y % 2 ^ c = 0) (hv : v ≤ c) : y % 2 ^ v = 0 :=
  Nat.mod_eq_zero_of_dvd (Nat.dvd_trans (Nat.pow_dvd_pow 2 hv) (Nat.dvd_of_mod_eq_zero h))
theorem ctz_ge {y v : Nat} (hv : v ≤ 64) (h : y < 2 ^ 64) (hm : y % 2 ^ v = 0) : v ≤ ctz 64 y := by
  by_cases h0 : y = 0
  · subst h0; exact hv
  · obtain ⟨_, a, b⟩ := ctz_spec h0 h
    apply Nat.le_of_not_lt
    intro hlt
    have c := mod_less (v := ctz 64 y + 1) hm (by omega)
    rw [Nat.pow_succ, Nat.mod_mul, b] at c
    have := two_pos (ctz 64 y)
    omega
theorem from_mod {b x : Nat} : ctzFrom b (x % 2 ^ b) = ctzFrom b x := by
  induction b generalizing x with
  | zero => rfl
  | succ b ih =>
    have e1 : x % 2 ^ (b + 1) % 2 = x % 2 := by rw [Nat.pow_succ, Nat.mod_mul_left_mod]
    have e2 : x % 2 ^ (b + 1) / 2 = x / 2 % 2 ^ b := by rw [Nat.pow_succ, Nat.mul_comm, Nat.mod_mul_right_div_self]
    simp only [ctzFrom]
    rw [e1, e2, ih]
/-- Fewer bits: the lesser of both. -/
theorem from_is {b y : Nat} (hb : b ≤ 64) (h : y < 2 ^ b) : ctzFrom b y = min (ctz 64 y) b := by
  have hp : 2 ^ b ≤ 2 ^ 64 := Nat.pow_le_pow_right (by decide) hb
  have h64 : y < 2 ^ 64 := by omega
  apply ctz_is b _ y (by omega) (mod_less (ctz_mod y h64) (by omega))
  by_cases h0 : y = 0
  · subst h0
    rw [ctz_zero]
    left; omega
  · obtain ⟨_, a, c⟩ := ctz_spec h0 h64
    by_cases hc : ctz 64 y ≤ b
    · right
      rw [Nat.min_eq_left hc]
      exact c
    · left; omega
/-- The number of zeros at the low end of any value between the bounds. -/
theorem ctz_low {r t u T : Nat} (hr : r < 2 ^ 64) (ht : t < 2 ^ 64) (h1 : r ≤ u) (h2 : u ≤ t) (hz : r % 2 ^ vn r t ≠ 0) (hT : u % 2 ^ T = 0) : T < vn r t := by
  apply Nat.lt_of_not_le
  intro hle
  have e := high_between (vn_high hr ht) h1 h2
  have l := low_le e h1
  have m := mod_less hT hle
  omega
theorem ctz_fixed {b r t u : Nat} (hr : r < 2 ^ 64) (ht : t < 2 ^ 64) (h1 : r ≤ u) (h2 : u ≤ t) : min (ctz 64 u) b ≤ min (ctz 64 (r / 2 ^ vn r t * 2 ^ vn r t)) b := by
  have hv := vn_le hr ht
  have e := high_between (vn_high hr ht) h1 h2
  have hF : r / 2 ^ vn r t * 2 ^ vn r t ≤ r := Nat.div_mul_le_self _ _
  have g := ctz_ge (y := r / 2 ^ vn r t * 2 ^ vn r t) hv (by omega) (Nat.mul_mod_left _ _)
  by_cases hle : ctz 64 u < vn r t
  · omega
  · have m := mod_less (ctz_mod u (by omega)) (show vn r t ≤ ctz 64 u by omega)
    have d := Nat.div_add_mod u (2 ^ vn r t)
    rw [m, e, Nat.add_zero, Nat.mul_comm] at d
    rw [d]
    exact Nat.le_refl _
theorem vn_self (r : Nat) : vn r r = 0 := by unfold vn; rw [Nat.xor_self]; exact len_zero
theorem vn_eq {r t : Nat} (hr : r < 2 ^ 64) (ht : t < 2 ^ 64) (h : vn r t = 0) : r = t := by
  have := vn_high hr ht
  rw [h] at this
  simpa using this
theorem vn_fits {b r t : Nat} (hr : r < 2 ^ b) (ht : t < 2 ^ b) : vn r t ≤ b := len_le (Nat.xor_lt_two_pow hr ht)
theorem ctz_len {u : Nat} (h0 : u ≠ 0) (h : u < 2 ^ 64) : ctz 64 u < Lib.bitLen u := by
  have a := ctz_mod u h
  have l := len_lt h
  have b : 2 ^ ctz 64 u ≤ u := Nat.le_of_dvd (by omega) (Nat.dvd_of_mod_eq_zero a)
  exact (Nat.pow_lt_pow_iff_right (by decide : 1 < 2)).1 (Nat.lt_of_le_of_lt b l)
theorem pop_len {u : Nat} (h : u < 2 ^ 64) : popAux 64 u ≤ Lib.bitLen u := by
  have hl : Lib.bitLen u ≤ 64 := len_le h
  rw [pop_up hl (len_lt h)]
  exact pop_le _ _
end Go.Proofs.YtjfpjcaidjblnaaDoor
