/-
  Plain laws on the bits of numbers: lengths, numbers of ones, zeros at the low end. No program in sight.
-/
import Derived.Test.YtjfpjcaidjblnaaDoorBase
import Derived.Lib.BitFns
import Derived.Lib.TrailingZeros
namespace Go.Proofs.YtjfpjcaidjblnaaDoor
open Go.Lib (popAux bitLenAux ctzFrom)

theorem two_pos (k : Nat) : 0 < 2 ^ k := Nat.two_pow_pos k

/-! ### Numbers of ones -/
theorem pop_split : ∀ (f g x : Nat), popAux (f + g) x = popAux f x + popAux g (x / 2 ^ f)
  | 0, g, x => by simp [popAux]
  | f + 1, g, x => by
    rw [show f + 1 + g = (f + g) + 1 by omega]
    simp only [popAux]
    rw [pop_split f g (x / 2), Nat.div_div_eq_div_mul, Nat.pow_succ, Nat.mul_comm 2]
    omega
theorem pop_succ (f x : Nat) : popAux (f + 1) x = popAux f x + x / 2 ^ f % 2 := by
  rw [pop_split]; simp [popAux]
theorem pop_le : ∀ (f x : Nat), popAux f x ≤ f
  | 0, x => by simp [popAux]
  | f + 1, x => by
    have := pop_le f (x / 2)
    simp only [popAux]
    omega
theorem pop_mod : ∀ (f x : Nat), popAux f (x % 2 ^ f) = popAux f x
  | 0, x => by simp [popAux]
  | f + 1, x => by
    simp only [popAux]
    rw [show x % 2 ^ (f + 1) / 2 = (x / 2) % 2 ^ f by rw [Nat.pow_succ, Nat.mul_comm, Nat.mod_mul_right_div_self], pop_mod f (x / 2), show x % 2 ^ (f + 1) % 2 = x % 2 by rw [Nat.pow_succ, Nat.mod_mul_left_mod]]
theorem pop_zero_iff : ∀ (f x : Nat), popAux f x = 0 ↔ x % 2 ^ f = 0
  | 0, x => by simp [popAux]; omega
  | f + 1, x => by
    simp only [popAux]
    have := pop_zero_iff f (x / 2)
    rw [Nat.pow_succ, Nat.mul_comm, Nat.mod_mul]
    omega
theorem pop_full_iff : ∀ (f x : Nat), popAux f x = f ↔ x % 2 ^ f + 1 = 2 ^ f
  | 0, x => by simp [popAux]; omega
  | f + 1, x => by
    simp only [popAux]
    have h1 := pop_full_iff f (x / 2)
    have h2 := pop_le f (x / 2)
    have h3 : x / 2 % 2 ^ f < 2 ^ f := Nat.mod_lt _ (two_pos f)
    rw [Nat.pow_succ, Nat.mul_comm, Nat.mod_mul]
    omega
theorem pop_zero (f : Nat) : popAux f 0 = 0 := (pop_zero_iff f 0).2 (by simp)
/-- A number that is below 2^f has no ones above. -/
theorem pop_low {f g x : Nat} (h : x < 2 ^ f) : popAux (f + g) x = popAux f x := by
  rw [pop_split, Nat.div_eq_of_lt h, pop_zero]; rfl
theorem pop_up {f g x : Nat} (hfg : f ≤ g) (h : x < 2 ^ f) : popAux g x = popAux f x := by
  obtain ⟨k, rfl⟩ : ∃ k, g = f + k := ⟨g - f, by omega⟩
  exact pop_low h
theorem pop_high {f g x : Nat} : popAux (f + g) (x * 2 ^ f) = popAux g x := by
  rw [pop_split, Nat.mul_div_cancel _ (two_pos f), (pop_zero_iff f _).2 (Nat.mul_mod_left _ _)]; omega

/-! ### Lengths -/
theorem bitLenAux_lt : ∀ (f x : Nat), x < 2 ^ f → x < 2 ^ bitLenAux f x
  | 0, x, h => by simpa [bitLenAux] using h
  | f + 1, x, h => by
    simp only [bitLenAux]
    split
    · omega
    · rw [Nat.pow_succ] at h
      have := bitLenAux_lt f (x / 2) (by omega)
      rw [Nat.add_comm, Nat.pow_succ]
      omega
theorem bitLenAux_ge : ∀ (f x : Nat), x ≠ 0 → x < 2 ^ f → ∃ k, bitLenAux f x = k + 1 ∧ 2 ^ k ≤ x
  | 0, x, h, h1 => by simp at h1; omega
  | f + 1, x, h, h1 => by
    simp only [bitLenAux]
    rw [if_neg h]
    rw [Nat.pow_succ] at h1
    by_cases hx : x / 2 = 0
    · refine ⟨0, ?_, by omega⟩
      rw [hx]
      cases f <;> simp [bitLenAux]
    · obtain ⟨k, e, hk⟩ := bitLenAux_ge f (x / 2) hx (by omega)
      exact ⟨k + 1, by omega, by rw [Nat.pow_succ]; omega⟩
theorem len_lt {x : Nat} (h : x < 2 ^ 64) : x < 2 ^ Lib.bitLen x := bitLenAux_lt 64 x h
theorem len_ge {x : Nat} (h0 : x ≠ 0) (h : x < 2 ^ 64) : ∃ k, Lib.bitLen x = k + 1 ∧ 2 ^ k ≤ x := bitLenAux_ge 64 x h0 h
theorem len_le {x k : Nat} (h : x < 2 ^ k) : Lib.bitLen x ≤ k := Go.Lib.bitLenAux_le 64 x k h
theorem len_zero : Lib.bitLen 0 = 0 := by decide
theorem len_mono {x y : Nat} (h : x ≤ y) (hy : y < 2 ^ 64) : Lib.bitLen x ≤ Lib.bitLen y := len_le (Nat.lt_of_le_of_lt h (len_lt hy))
theorem len_is {x n : Nat} (h : x < 2 ^ 64) (h1 : x < 2 ^ n) (h2 : n = 0 ∨ ∃ k, n = k + 1 ∧ 2 ^ k ≤ x) : Lib.bitLen x = n := by
  have a := len_le h1
  rcases h2 with rfl | ⟨k, rfl, hk⟩
  · omega
  · have b := len_lt h
    apply Nat.le_antisymm a
    apply Nat.lt_of_not_le
    intro c
    have := Nat.pow_le_pow_right (n := 2) (by decide) c
    omega

/-! ### Zeros at the low end -/
theorem ctz_is : ∀ (b n x : Nat), n ≤ b → x % 2 ^ n = 0 → (n = b ∨ x / 2 ^ n % 2 = 1) → ctzFrom b x = n
  | 0, n, x, h, _, _ => by simp [ctzFrom]; omega
  | b + 1, 0, x, h, h1, h2 => by
    rcases h2 with h2 | h2
    · omega
    · simp at h2
      simp [ctzFrom, h2]
  | b + 1, n + 1, x, h, h1, h2 => by
    have e : x % 2 ^ (n + 1) = x % 2 + 2 * (x / 2 % 2 ^ n) := by rw [Nat.pow_succ, Nat.mul_comm, Nat.mod_mul]
    have e2 : x / 2 ^ (n + 1) = x / 2 / 2 ^ n := by rw [Nat.div_div_eq_div_mul, Nat.pow_succ, Nat.mul_comm 2]
    rw [e2] at h2
    have := ctz_is b n (x / 2) (by omega) (by omega) (by omega)
    simp only [ctzFrom]
    rw [if_neg (by omega), this]
    omega

/-! ### Leading bits in common -/
theorem xor_high {r t k : Nat} (h : r ^^^ t < 2 ^ k) : r / 2 ^ k = t / 2 ^ k := by
  have e : (r ^^^ t) >>> k = 0 := by rw [Nat.shiftRight_eq_div_pow]; exact Nat.div_eq_of_lt h
  rw [Nat.shiftRight_xor_distrib] at e
  have e2 : r >>> k = t >>> k := by
    have := congrArg (fun z => z ^^^ t >>> k) e
    simpa [Nat.xor_assoc] using this
  rw [Nat.shiftRight_eq_div_pow, Nat.shiftRight_eq_div_pow] at e2
  exact e2
theorem xor_low {r t k : Nat} (h : r / 2 ^ k = t / 2 ^ k) : r ^^^ t < 2 ^ k := by
  have e : (r ^^^ t) >>> k = 0 := by
    rw [Nat.shiftRight_xor_distrib, Nat.shiftRight_eq_div_pow, Nat.shiftRight_eq_div_pow, h, Nat.xor_self]
  rw [Nat.shiftRight_eq_div_pow] at e
  exact (Nat.div_eq_zero_iff.1 e).resolve_left (Nat.ne_of_gt (two_pos k))
end Go.Proofs.YtjfpjcaidjblnaaDoor
