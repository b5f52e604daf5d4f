/-
  Plain laws on the counts of a limit: leading bits in common, lengths, numbers of ones. No program in sight.
-/
import Derived.Test.YtjfpjcaidjblnaaDoorPlainBits
namespace Go.Proofs.YtjfpjcaidjblnaaDoor
open Go.Lib (popAux)

/-! ### In natural numbers -/
/-- The number of bits that vary. -/
def vn (r t : Nat) : Nat := Lib.bitLen (r ^^^ t)
theorem vn_le {r t : Nat} (hr : r < 2 ^ 64) (ht : t < 2 ^ 64) : vn r t ≤ 64 := len_le (Nat.xor_lt_two_pow hr ht)
theorem vn_high {r t : Nat} (hr : r < 2 ^ 64) (ht : t < 2 ^ 64) : r / 2 ^ vn r t = t / 2 ^ vn r t := xor_high (len_lt (Nat.xor_lt_two_pow hr ht))
theorem vn_least {r t k : Nat} (h : r / 2 ^ k = t / 2 ^ k) : vn r t ≤ k := len_le (xor_low h)
theorem high_between {r u t k : Nat} (h : r / 2 ^ k = t / 2 ^ k) (h1 : r ≤ u) (h2 : u ≤ t) : u / 2 ^ k = r / 2 ^ k := by
  have a := Nat.div_le_div_right (c := 2 ^ k) h1
  have b := Nat.div_le_div_right (c := 2 ^ k) h2
  omega
theorem low_le {r u k : Nat} (h : u / 2 ^ k = r / 2 ^ k) (h1 : r ≤ u) : r % 2 ^ k ≤ u % 2 ^ k := by
  have a := Nat.div_add_mod r (2 ^ k)
  have b := Nat.div_add_mod u (2 ^ k)
  rw [h] at b
  omega
/-- The highest bit that varies: 0 in the lesser number, 1 in the greater one. -/
theorem vn_top {r t k : Nat} (hr : r < 2 ^ 64) (ht : t < 2 ^ 64) (h : r ≤ t) (hv : vn r t = k + 1) : r % 2 ^ (k + 1) < 2 ^ k ∧ 2 ^ k ≤ t % 2 ^ (k + 1) := by
  have e := vn_high hr ht
  rw [hv] at e
  have ne : r / 2 ^ k ≠ t / 2 ^ k := fun q => by have := vn_least q; omega
  have hp := two_pos k
  have a1 := Nat.div_add_mod r (2 ^ (k + 1))
  have a2 := Nat.div_add_mod t (2 ^ (k + 1))
  have l1 := Nat.mod_lt r (two_pos (k + 1))
  have l2 := Nat.mod_lt t (two_pos (k + 1))
  have l3 := low_le (k := k + 1) e.symm h
  have c1 : r / 2 ^ k = 2 * (r / 2 ^ (k + 1)) + r % 2 ^ (k + 1) / 2 ^ k := by
    rw [Nat.pow_succ] at a1 ⊢
    rw [Nat.mul_assoc] at a1
    conv => lhs; rw [← a1]
    rw [Nat.mul_add_div hp]
  have c2 : t / 2 ^ k = 2 * (t / 2 ^ (k + 1)) + t % 2 ^ (k + 1) / 2 ^ k := by
    rw [Nat.pow_succ] at a2 ⊢
    rw [Nat.mul_assoc] at a2
    conv => lhs; rw [← a2]
    rw [Nat.mul_add_div hp]
  rw [Nat.pow_succ] at l1 l2
  rw [← Nat.pow_succ] at l1 l2
  have d1 : r % 2 ^ (k + 1) / 2 ^ k < 2 := by rw [Nat.div_lt_iff_lt_mul hp]; rw [Nat.pow_succ] at l1 ⊢; omega
  have d2 : t % 2 ^ (k + 1) / 2 ^ k < 2 := by rw [Nat.div_lt_iff_lt_mul hp]; rw [Nat.pow_succ] at l2 ⊢; omega
  have d3 := Nat.div_le_div_right (c := 2 ^ k) l3
  have e1 : r % 2 ^ (k + 1) / 2 ^ k = 0 := by
    rw [c1, c2, e] at ne
    generalize r % 2 ^ (k + 1) / 2 ^ k = y at *
    generalize t % 2 ^ (k + 1) / 2 ^ k = z at *
    omega
  have e2 : t % 2 ^ (k + 1) / 2 ^ k = 1 := by
    rw [c1, c2, e] at ne
    generalize r % 2 ^ (k + 1) / 2 ^ k = y at *
    generalize t % 2 ^ (k + 1) / 2 ^ k = z at *
    omega
  refine ⟨(Nat.div_eq_zero_iff.1 e1).resolve_left (Nat.ne_of_gt hp), ?_⟩
  apply Nat.le_of_not_lt
  intro c
  rw [Nat.div_eq_of_lt c] at e2
  omega
/-- Numbers of ones, parted at a bit. -/
theorem pop_at {k x : Nat} (hk : k ≤ 64) : popAux 64 x = popAux k (x % 2 ^ k) + popAux (64 - k) (x / 2 ^ k) := by
  have := pop_split k (64 - k) x
  rw [show k + (64 - k) = 64 by omega] at this
  rw [this, pop_mod]
theorem pop_hi {k x : Nat} (hk : k ≤ 64) : popAux 64 (x / 2 ^ k * 2 ^ k) = popAux (64 - k) (x / 2 ^ k) := by
  have := pop_high (f := k) (g := 64 - k) (x := x / 2 ^ k)
  rwa [show k + (64 - k) = 64 by omega] at this
theorem pop_lo {k x : Nat} (hk : k ≤ 64) : popAux 64 (x % 2 ^ k) = popAux k (x % 2 ^ k) := pop_up hk (Nat.mod_lt _ (two_pos k))
/-- The least and the greatest number of ones, as the code reckons them. -/
def pmn (r t : Nat) : Nat := popAux 64 (r / 2 ^ vn r t * 2 ^ vn r t) + if r % 2 ^ vn r t = 0 then 0 else 1
def pmx (r t : Nat) : Nat := popAux 64 (r / 2 ^ vn r t * 2 ^ vn r t) + vn r t - if popAux 64 (t % 2 ^ vn r t) = vn r t then 0 else 1
theorem pop_sound {r u t : Nat} (hr : r < 2 ^ 64) (ht : t < 2 ^ 64) (h1 : r ≤ u) (h2 : u ≤ t) : pmn r t ≤ popAux 64 u ∧ popAux 64 u ≤ pmx r t := by
  have hv := vn_le hr ht
  have e := vn_high hr ht
  have eu := high_between e h1 h2
  unfold pmn pmx
  generalize vn r t = v at *
  rw [pop_at (x := u) hv, eu, pop_hi hv, pop_lo hv]
  have l1 := low_le eu h1
  have l2 := low_le (k := v) (e.symm.trans eu.symm) h2
  have p1 := pop_le v (u % 2 ^ v)
  have p0 := pop_zero_iff v (u % 2 ^ v)
  have pf := pop_full_iff v (u % 2 ^ v)
  have pt := pop_full_iff v (t % 2 ^ v)
  have m1 := Nat.mod_lt u (two_pos v)
  have m2 := Nat.mod_lt t (two_pos v)
  rw [Nat.mod_mod] at p0 pf pt
  constructor
  · split <;> omega
  · split <;> omega
/-- Both are the number of ones of some value between the bounds. -/
theorem pop_low_one {v k h : Nat} (hk : k < v) (hv : v ≤ 64) : popAux 64 (2 ^ v * h + 2 ^ k) = popAux (64 - v) h + 1 := by
  have hlt : 2 ^ k < 2 ^ v := Nat.pow_lt_pow_right (by decide) hk
  rw [pop_at hv, Nat.mul_add_mod, Nat.mod_eq_of_lt hlt, Nat.mul_add_div (two_pos v), Nat.div_eq_of_lt hlt, Nat.add_zero, Nat.add_comm]
  congr 1
  have e := pop_high (f := k) (g := v - k) (x := 1)
  rw [show k + (v - k) = v by omega, Nat.one_mul] at e
  rw [e, show v - k = 1 + (v - k - 1) by omega, pop_low (by decide)]
  rfl
theorem pop_low_ones {v k h : Nat} (hk : k < v) (hv : v ≤ 64) : popAux 64 (2 ^ v * h + (2 ^ k - 1)) = popAux (64 - v) h + k := by
  have hlt : 2 ^ k < 2 ^ v := Nat.pow_lt_pow_right (by decide) hk
  have hp := two_pos k
  have hl : 2 ^ k - 1 < 2 ^ v := by omega
  rw [pop_at hv, Nat.mul_add_mod, Nat.mod_eq_of_lt hl, Nat.mul_add_div (two_pos v), Nat.div_eq_of_lt hl, Nat.add_zero, Nat.add_comm]
  congr 1
  rw [pop_up (Nat.le_of_lt hk) (show 2 ^ k - 1 < 2 ^ k by omega)]
  rw [pop_full_iff, Nat.mod_eq_of_lt (by omega)]
  omega
theorem pop_least {r t : Nat} (hr : r < 2 ^ 64) (ht : t < 2 ^ 64) (h : r ≤ t) : ∃ u, r ≤ u ∧ u ≤ t ∧ popAux 64 u = pmn r t := by
  have hv := vn_le hr ht
  have e := vn_high hr ht
  unfold pmn
  by_cases hz : r % 2 ^ vn r t = 0
  · refine ⟨r, Nat.le_refl _, h, ?_⟩
    rw [if_pos hz, pop_hi hv, pop_at hv, hz, pop_zero]
    omega
  · have h0 : vn r t ≠ 0 := fun q => by rw [q] at hz; omega
    obtain ⟨k, hk⟩ : ∃ k, vn r t = k + 1 := ⟨vn r t - 1, by omega⟩
    obtain ⟨a, b⟩ := vn_top hr ht h hk
    rw [if_neg hz, pop_hi hv]
    rw [hk] at e hv ⊢
    have a1 := Nat.div_add_mod r (2 ^ (k + 1))
    have a2 := Nat.div_add_mod t (2 ^ (k + 1))
    refine ⟨2 ^ (k + 1) * (r / 2 ^ (k + 1)) + 2 ^ k, by omega, by rw [e]; omega, ?_⟩
    exact pop_low_one (by omega) hv
theorem pop_most {r t : Nat} (hr : r < 2 ^ 64) (ht : t < 2 ^ 64) (h : r ≤ t) : ∃ u, r ≤ u ∧ u ≤ t ∧ popAux 64 u = pmx r t := by
  have hv := vn_le hr ht
  have e := vn_high hr ht
  unfold pmx
  by_cases hz : popAux 64 (t % 2 ^ vn r t) = vn r t
  · refine ⟨t, h, Nat.le_refl _, ?_⟩
    rw [if_pos hz, pop_hi hv, pop_at hv, ← pop_lo hv, hz, e]
    omega
  · have h0 : vn r t ≠ 0 := fun q => by rw [q] at hz; simp [Nat.mod_one, pop_zero] at hz
    obtain ⟨k, hk⟩ : ∃ k, vn r t = k + 1 := ⟨vn r t - 1, by omega⟩
    obtain ⟨a, b⟩ := vn_top hr ht h hk
    rw [if_neg hz, pop_hi hv]
    rw [hk] at e hv ⊢
    have a1 := Nat.div_add_mod r (2 ^ (k + 1))
    have a2 := Nat.div_add_mod t (2 ^ (k + 1))
    have hp := two_pos k
    refine ⟨2 ^ (k + 1) * (r / 2 ^ (k + 1)) + (2 ^ k - 1), by omega, by rw [e]; omega, ?_⟩
    rw [pop_low_ones (by omega) hv]
    omega
/-- With wider bounds the numbers of ones are as wide at least. -/
theorem pop_grows {r t r' t' : Nat} (hr : r < 2 ^ 64) (ht : t < 2 ^ 64) (hr' : r' < 2 ^ 64) (ht' : t' < 2 ^ 64) (h : r ≤ t) (h1 : r' ≤ r) (h2 : t ≤ t') : pmn r' t' ≤ pmn r t ∧ pmx r t ≤ pmx r' t' := by
  obtain ⟨u, a, b, e⟩ := pop_least hr ht h
  obtain ⟨u2, a2, b2, e2⟩ := pop_most hr ht h
  have s1 := pop_sound (u := u) hr' ht' (by omega) (by omega)
  have s2 := pop_sound (u := u2) hr' ht' (by omega) (by omega)
  omega
theorem pmx_le {r t : Nat} (hr : r < 2 ^ 64) (ht : t < 2 ^ 64) : pmx r t ≤ 64 := by
  have hv := vn_le hr ht
  unfold pmx
  rw [pop_hi hv]
  have := pop_le (64 - vn r t) (r / 2 ^ vn r t)
  split <;> omega
theorem pmn_le (r t : Nat) : pmn r t ≤ 65 := by
  unfold pmn
  have := pop_le 64 (r / 2 ^ vn r t * 2 ^ vn r t)
  split <;> omega
/-- The number of ones of fewer bits. -/
theorem pop_bits {b x : Nat} (hb : b ≤ 64) : popAux b x = popAux 64 (x % 2 ^ b) := by rw [pop_lo hb, pop_mod]
/-- The numbers of ones of bounds of fewer bits are at most as many. -/
theorem pop_fits {b x : Nat} (hb : b ≤ 64) (hx : x < 2 ^ b) : popAux 64 x ≤ b := by rw [pop_up hb hx]; exact pop_le b x
theorem pmx_fits {b r t : Nat} (hb : b ≤ 64) (hr : r < 2 ^ b) (ht : t < 2 ^ b) (h : r ≤ t) : pmx r t ≤ b := by
  have hp : 2 ^ b ≤ 2 ^ 64 := Nat.pow_le_pow_right (by decide) hb
  obtain ⟨u, a, c, e⟩ := pop_most (show r < 2 ^ 64 by omega) (show t < 2 ^ 64 by omega) h
  rw [← e]
  exact pop_fits hb (by omega)
end Go.Proofs.YtjfpjcaidjblnaaDoor
