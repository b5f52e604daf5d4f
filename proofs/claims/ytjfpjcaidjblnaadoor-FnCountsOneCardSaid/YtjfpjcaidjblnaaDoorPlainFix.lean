/-
  Plain laws on the leading bits that both unsigned bounds have in common, and on counts, for whole numbers as the walks spell them. No program in sight.
-/
import Derived.Test.YtjfpjcaidjblnaaDoorPlainCnt
import Derived.Test.YtjfpjcaidjblnaaDoorFixed
namespace Go.Proofs.YtjfpjcaidjblnaaDoor
open Go.Lib (popAux)
open Go.RowKit
set_option linter.unusedVariables false
theorem vr_vn (r t : Int) : vr r t = vn r.toNat t.toNat := rfl
theorem U64.lt {r : Int} (h : U64 r) : r.toNat < 2 ^ 64 := by obtain ⟨h0, h1⟩ := h; omega
theorem div_nat {x : Int} {v : Nat} (h : 0 ≤ x) : x / 2 ^ v = ((x.toNat / 2 ^ v : Nat) : Int) := by
  rw [Int.natCast_ediv, Int.toNat_of_nonneg h]
  norm_cast
theorem mod_nat {x : Int} {v : Nat} (h : 0 ≤ x) : x % 2 ^ v = ((x.toNat % 2 ^ v : Nat) : Int) := by
  rw [Int.natCast_emod, Int.toNat_of_nonneg h]
  norm_cast
theorem hi_nat {x : Int} {v : Nat} (h : 0 ≤ x) : x / 2 ^ v * 2 ^ v = ((x.toNat / 2 ^ v * 2 ^ v : Nat) : Int) := by
  rw [div_nat h, Int.natCast_mul]
  norm_cast
theorem fixed_sound {r t x : Int} (hr : U64 r) (ht : U64 t) (h1 : r ≤ x) (h2 : x ≤ t) : x / 2 ^ vr r t = r / 2 ^ vr r t := by
  have r0 := hr.1
  rw [div_nat (by omega), div_nat r0, vr_vn, high_between (vn_high hr.lt ht.lt) (by omega) (by omega)]
theorem fixed_ends {r t : Int} (hr : U64 r) (ht : U64 t) : t / 2 ^ vr r t = r / 2 ^ vr r t := by
  rw [div_nat ht.1, div_nat hr.1, vr_vn, vn_high hr.lt ht.lt]
theorem fixed_U64 {r : Int} {v : Nat} (hr : U64 r) : U64 (r / 2 ^ v * 2 ^ v) := by
  obtain ⟨r0, r1⟩ := hr
  have hp : (0 : Int) < 2 ^ v := Int.pow_pos (by decide)
  have a := Int.mul_nonneg (Int.ediv_nonneg r0 (Int.le_of_lt hp)) (Int.le_of_lt hp)
  have b := Int.ediv_mul_le r (Int.ne_of_gt hp)
  exact ⟨a, by omega⟩
theorem fixed_idem {r : Int} {v : Nat} : r / 2 ^ v * 2 ^ v / 2 ^ v * 2 ^ v = r / 2 ^ v * 2 ^ v := by
  have hp : (0 : Int) < 2 ^ v := Int.pow_pos (by decide)
  rw [Int.mul_ediv_cancel _ (Int.ne_of_gt hp)]
theorem fixed_most {r t : Int} {k : Nat} (hr : U64 r) (ht : U64 t) (hk : vr r t = k + 1) : r / 2 ^ k * 2 ^ k ≠ t / 2 ^ k * 2 ^ k := by
  intro h
  have hp : (0 : Int) < 2 ^ k := Int.pow_pos (by decide)
  have e := Int.eq_of_mul_eq_mul_right (Int.ne_of_gt hp) h
  rw [div_nat hr.1, div_nat ht.1] at e
  have e2 : r.toNat / 2 ^ k = t.toNat / 2 ^ k := by exact_mod_cast e
  have := vn_least e2
  rw [vr_vn] at hk
  omega
end Go.Proofs.YtjfpjcaidjblnaaDoor
