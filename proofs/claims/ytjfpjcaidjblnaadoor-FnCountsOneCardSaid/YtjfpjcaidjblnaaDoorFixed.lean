/-
  The leading bits that both unsigned bounds have in common; lengths and numbers of ones of a limit: contracts.
-/
import Derived.Test.YtjfpjcaidjblnaaDoorBound
import Derived.Test.YtjfpjcaidjblnaaDoorOnes
import Derived.Laws.BitsAllLaws
namespace Go.Proofs.YtjfpjcaidjblnaaDoor
open Go.RowKit
set_option linter.unusedVariables false
/-- The number of bits that vary. -/
def vr (r t : Int) : Nat := Lib.bitLen (r.toNat ^^^ t.toNat)
theorem xor_U64 {r t : Int} (hr : U64 r) (ht : U64 t) : bits .xor .u64 r t = ((r.toNat ^^^ t.toNat : Nat) : Int) ∧ U64 (bits .xor .u64 r t) := by
  obtain ⟨r0, r1⟩ := hr
  obtain ⟨t0, t1⟩ := ht
  have a := bits_xor_u64_nat r.toNat t.toNat (by omega) (by omega)
  have b : r.toNat ^^^ t.toNat < 2 ^ 64 := Nat.xor_lt_two_pow (by omega) (by omega)
  rw [Int.toNat_of_nonneg r0, Int.toNat_of_nonneg t0] at a
  rw [a]
  exact ⟨rfl, by omega, by omega⟩
theorem vr_le {r t : Int} (hr : U64 r) (ht : U64 t) : vr r t ≤ 64 := by
  obtain ⟨r0, r1⟩ := hr
  obtain ⟨t0, t1⟩ := ht
  exact Lib.bitLen_le _ 64 (by decide) (Nat.xor_lt_two_pow (by omega) (by omega))
theorem high_and {x v : Nat} (hv : v ≤ 64) (hx : x < 2 ^ 64) : x &&& (18446744073709551615 - (2 ^ v - 1)) = x / 2 ^ v * 2 ^ v := by
  have hp := two_pos v
  obtain ⟨k, hk⟩ : ∃ k, 64 = v + k := ⟨64 - v, by omega⟩
  have e : 18446744073709551615 - (2 ^ v - 1) = 2 ^ v * (2 ^ k - 1) := by
    rw [Nat.mul_sub, ← Nat.pow_add, ← hk]; omega
  rw [e]
  have a := Nat.div_add_mod (x &&& (2 ^ v * (2 ^ k - 1))) (2 ^ v)
  have b : (x &&& (2 ^ v * (2 ^ k - 1))) / 2 ^ v = x / 2 ^ v := by
    rw [Nat.and_div_two_pow, Nat.mul_div_cancel_left _ hp, Nat.and_two_pow_sub_one_eq_mod]
    apply Nat.mod_eq_of_lt
    rw [Nat.div_lt_iff_lt_mul hp, ← Nat.pow_add, Nat.add_comm, ← hk]
    exact hx
  have c : (x &&& (2 ^ v * (2 ^ k - 1))) % 2 ^ v = 0 := by
    rw [Nat.and_mod_two_pow, Nat.mul_mod_right, Nat.and_zero]
  rw [b, c] at a
  rw [← a, Nat.mul_comm, Nat.add_zero]
theorem mask_v {v : Nat} (hv : v ≤ 64) : IntKind.u64.wrap (IntKind.u64.wrap (2 ^ v) - 1) = ((2 ^ v - 1 : Nat) : Int) := by
  have hp := two_pos v
  have e : ((2 : Int) ^ v) = ((2 ^ v : Nat) : Int) := by norm_cast
  have hle : 2 ^ v ≤ 2 ^ 64 := Nat.pow_le_pow_right (by decide) hv
  rw [IntKind.wrap_u64, IntKind.wrap_u64, e]
  generalize 2 ^ v = z at hp hle ⊢
  omega
theorem fixed_is {r : Int} {v : Nat} (hr : U64 r) (hv : v ≤ 64) : bits .andNot .u64 r (IntKind.u64.wrap (IntKind.u64.wrap (2 ^ v) - 1)) = r / 2 ^ v * 2 ^ v := by
  obtain ⟨r0, r1⟩ := hr
  have hle : 2 ^ v ≤ 2 ^ 64 := Nat.pow_le_pow_right (by decide) hv
  have hp := two_pos v
  rw [mask_v hv, u64_andNot r _ r0 (by omega) (by omega) (by omega), Int.toNat_natCast, high_and hv (by omega), Int.natCast_mul, Int.natCast_ediv, Int.toNat_of_nonneg r0]
  norm_cast
theorem c_fixed (p q r t : Int) (w : World) (hr : U64 r) (ht : U64 t) :
    Calls Tryd.prog 39 #[.agg #[.int .i64 p, .int .i64 q, .int .u64 r, .int .u64 t]] w fun e w' => e = .returned (.tuple #[.int .u64 (r / 2 ^ vr r t * 2 ^ vr r t), .int .u64 (64 - (vr r t : Int))]) ∧ Up w w' := by
  obtain ⟨e1, hU⟩ := xor_U64 hr ht
  have hv := vr_le hr ht
  have hlen : (Lib.bitLen (bits .xor .u64 r t).toNat : Nat) = vr r t := by rw [e1, Int.toNat_natCast]; rfl
  have HU := Lib.hid hU
  have E1 := Lib.hid e1
  clear hU e1
  go_enter Tryd.func39, Tryd.ntmps39
  go_wp2_with (first | (go_at_call 38; refine (c_Len64 _ _ HU.out).mono ?_; rintro e w2 ⟨rfl, rfl⟩) | (go_at_call 48; refine (c_LeadingZeros64 _ _ HU.out).mono ?_; rintro e w2 ⟨rfl, rfl⟩))
  rw [fixed_is hr hv]
  refine bodyPost_ret (v := .tuple #[.int .u64 (r / 2 ^ vr r t * 2 ^ vr r t), .int .u64 (64 - (vr r t : Int))]) ?_ rfl ⟨rfl, ?_⟩
  · simp [results, Tryd.results39, go_sem]
  · (repeat (first | exact Up.refl _ | assumption | refine Up.setCell ?_ (by first | omega | (dsimp only; omega) | simp) _ | refine Up.alloc ?_ _ | refine Up.drew ?_ | refine Up.trans ?_ (by assumption)))
end Go.Proofs.YtjfpjcaidjblnaaDoor
