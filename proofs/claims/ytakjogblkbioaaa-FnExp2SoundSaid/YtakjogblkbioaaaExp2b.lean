/-
  What the reference's Power returns, and that 1 shifted by a value meets Exp2 of the limits that the value meets.
-/
import Derived.Test.YtakjogblkbioaaaSpec
import Derived.Test.YtakjogblkbioaaaExp2
import Derived.Test.YtakjogblkbioaaaPlain
namespace Go.Proofs.Ytakjogblkbioaaa
open Go.RowKit
set_option linter.unusedVariables false

def powV (b x : Int) : Int := if b ≤ x then 0 else p2 x
theorem c_Power (x b : Int) (w : World) (hx : U64 x) (hb : 8 ≤ b ∧ b ≤ 64) :
    Calls Try.prog 22 #[.int .u64 x, .int .u64 b] w fun e w' => e = .returned (.int .u64 (powV b x)) ∧ w = w' := by
  obtain ⟨g1, g2⟩ := hx
  obtain ⟨g3, g4⟩ := hb
  rcases Int.lt_or_le x b with h | h
  · have e0 : powV b x = IntKind.u64.wrap (2 ^ x.toNat) := by unfold powV p2; rw [if_neg (by omega), Nat.min_eq_left (by omega)]
    have E0 := Lib.hid e0
    clear e0
    go_enter Try.func22, Try.ntmps22
    go_wp2
    go_ret
    exact ⟨ret_int E0.out.symm, rfl⟩
  · have e0 : powV b x = 0 := by unfold powV; rw [if_pos h]
    have E0 := Lib.hid e0
    clear e0
    go_enter Try.func22, Try.ntmps22
    go_wp2
    go_ret
    exact ⟨ret_int E0.out.symm, rfl⟩
theorem p2_nat {k : Nat} (h : k < 64) : p2 (k : Int) = ((2 ^ k : Nat) : Int) := by
  unfold p2
  have h2 : 2 ^ k < 2 ^ 64 := Nat.pow_lt_pow_right (by decide) h
  rw [Int.toNat_natCast, Nat.min_eq_left (by omega), IntKind.wrap_u64]
  have e : (2 : Int) ^ k = ((2 ^ k : Nat) : Int) := by rw [Int.natCast_pow]; rfl
  rw [e]
  have e64 : (2 : Nat) ^ 64 = 18446744073709551616 := by decide
  rw [e64] at h2
  generalize 2 ^ k = q at h2 ⊢
  omega
theorem p2_mono {j k : Int} (h0 : 0 ≤ j) (h : j ≤ k) (h1 : k < 64) : p2 j ≤ p2 k := by
  obtain ⟨n, rfl⟩ := Int.eq_ofNat_of_zero_le h0
  obtain ⟨m, rfl⟩ := Int.eq_ofNat_of_zero_le (by omega : 0 ≤ k)
  rw [p2_nat (by omega), p2_nat (by omega)]
  exact Int.ofNat_le.2 (Nat.pow_le_pow_right (n := 2) (by decide) (show n ≤ m by omega))
theorem p2_bd {b k : Int} (hb : B4 b) (h0 : 0 ≤ k) (h1 : k < b) : 0 ≤ p2 k ∧ p2 k ≤ top b := by
  obtain ⟨n, rfl⟩ := Int.eq_ofNat_of_zero_le h0
  have hb64 : b ≤ 64 := by unfold B4 at hb; omega
  rw [p2_nat (by omega)]
  refine ⟨Int.natCast_nonneg _, ?_⟩
  rcases hb with rfl | rfl | rfl | rfl
  · have h := Nat.pow_le_pow_right (n := 2) (by decide) (show n ≤ 7 by omega); rw [top8]; generalize 2 ^ n = q at h ⊢; omega
  · have h := Nat.pow_le_pow_right (n := 2) (by decide) (show n ≤ 15 by omega); rw [top16]; generalize 2 ^ n = q at h ⊢; omega
  · have h := Nat.pow_le_pow_right (n := 2) (by decide) (show n ≤ 31 by omega); rw [top32]; generalize 2 ^ n = q at h ⊢; omega
  · have h := Nat.pow_le_pow_right (n := 2) (by decide) (show n ≤ 63 by omega); rw [top64]; generalize 2 ^ n = q at h ⊢; omega
theorem pow_U64 {b x : Int} (hb : B4 b) (hx : U64 x) : U64 (powV b x) := by
  have g := top_bd hb
  unfold powV
  split
  · exact ⟨by decide, by decide⟩
  · have h := p2_bd hb hx.1 (by omega)
    exact ⟨by omega, by omega⟩
theorem exp2_sound {b x : Int} {l : Lm} (hb : B4 b) (hl : l.ok) (hx : U64 x) (h : mt l (sg 64 x) (us 64 x) = true) : mt (exp2L b l) (sg b (powV b x)) (us b (powV b x)) = true := by
  rw [mt_iff] at h
  rw [us64 hx] at h
  have s := sg_I64 (x := powV b x) hb
  have u := us_U64 (x := powV b x) hb
  unfold I64 at s
  unfold U64 at u
  have hb64 : b ≤ 64 := by unfold B4 at hb; omega
  rw [mt_iff]
  unfold exp2L
  split
  · rename_i hd
    have e : powV b x = p2 x := by unfold powV; rw [if_neg (by omega)]
    have k := p2_bd hb hx.1 (show x < b by omega)
    have m1 := p2_mono hl.2.2.1.1 h.2.2.1 (by omega)
    have m2 := p2_mono hx.1 h.2.2.2 (by omega)
    rw [e] at s u ⊢
    rw [us_id hb k.1 k.2] at u ⊢
    dsimp only
    omega
  · dsimp only
    omega

end Go.Proofs.Ytakjogblkbioaaa
