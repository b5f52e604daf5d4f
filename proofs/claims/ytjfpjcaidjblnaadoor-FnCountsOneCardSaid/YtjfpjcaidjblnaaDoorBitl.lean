/-
  The reference's loops over the bits of a word: contracts.
-/
import Derived.Test.YtjfpjcaidjblnaaDoorBitc
import Derived.Test.YtjfpjcaidjblnaaDoorPlainBits
namespace Go.Proofs.YtjfpjcaidjblnaaDoor
open Go.RowKit
set_option linter.unusedVariables false
theorem B4.bd {b : Int} (hb : B4 b) : 8 ≤ b ∧ b ≤ 64 := by unfold B4 at hb; omega
theorem B4.pw {b : Int} (hb : B4 b) : pw b = 2 ^ b.toNat := by rcases hb with rfl | rfl | rfl | rfl <;> decide
theorem B4.us {b x : Int} (hb : B4 b) (h : U64 x) : us b x = ((x.toNat % 2 ^ b.toNat : Nat) : Int) := by
  unfold Proofs.YtjfpjcaidjblnaaDoor.us
  rw [hb.pw]
  obtain ⟨h0, h1⟩ := h
  rw [Int.natCast_emod, Int.toNat_of_nonneg h0]
  norm_cast
theorem bit_nat {x : Int} {k : Nat} (h : 0 ≤ x) : x / 2 ^ k % 2 = ((x.toNat / 2 ^ k % 2 : Nat) : Int) := by
  rw [Int.natCast_emod, Int.natCast_ediv, Int.toNat_of_nonneg h]
  norm_cast
theorem len_exit {b x n : Nat} (hb : b ≤ 64) (hn : n ≤ b) (h : x % 2 ^ b < 2 ^ n) (h2 : n = 0 ∨ x / 2 ^ (n - 1) % 2 = 1) : Lib.bitLen (x % 2 ^ b) = n := by
  have hx : x % 2 ^ b < 2 ^ 64 := Nat.lt_of_lt_of_le (Nat.mod_lt _ (two_pos b)) (Nat.pow_le_pow_right (by decide) hb)
  refine len_is hx h ?_
  rcases h2 with h2 | h2
  · exact Or.inl h2
  · by_cases hz : n = 0
    · exact Or.inl hz
    · refine Or.inr ⟨n - 1, by omega, ?_⟩
      apply Nat.le_of_not_lt
      intro hlt
      have e : x / 2 ^ (n - 1) % 2 = x % 2 ^ b / 2 ^ (n - 1) % 2 := by
        obtain ⟨k, rfl⟩ : ∃ k, b = (n - 1) + (k + 1) := ⟨b - n, by omega⟩
        rw [Nat.pow_add, Nat.mod_mul_right_div_self, Nat.pow_succ, Nat.mul_comm (2 ^ k), Nat.mod_mul_right_mod]
      rw [e, Nat.div_eq_of_lt hlt] at h2
      omega
theorem len_round {b x n : Nat} (hn : n ≤ b) (h0 : 0 < n) (h : x % 2 ^ b < 2 ^ n) (h2 : x / 2 ^ (n - 1) % 2 = 0) : x % 2 ^ b < 2 ^ (n - 1) := by
  have e : x / 2 ^ (n - 1) % 2 = x % 2 ^ b / 2 ^ (n - 1) % 2 := by
    obtain ⟨k, rfl⟩ : ∃ k, b = (n - 1) + (k + 1) := ⟨b - n, by omega⟩
    rw [Nat.pow_add, Nat.mod_mul_right_div_self, Nat.pow_succ, Nat.mul_comm (2 ^ k), Nat.mod_mul_right_mod]
  rw [e] at h2
  obtain ⟨m, rfl⟩ : ∃ m, n = m + 1 := ⟨n - 1, by omega⟩
  rw [Nat.add_sub_cancel] at h2 ⊢
  have a : x % 2 ^ b / 2 ^ m < 2 := by rw [Nat.div_lt_iff_lt_mul (two_pos m)]; rw [Nat.pow_succ] at h; omega
  have c : x % 2 ^ b / 2 ^ m = 0 := by
    clear e
    generalize x % 2 ^ b / 2 ^ m = z at a h2 ⊢
    omega
  exact (Nat.div_eq_zero_iff.1 c).resolve_left (Nat.ne_of_gt (two_pos m))
theorem c_Length (x b : Int) (w : World) (hb : B4 b) (h : U64 x) :
    Calls Tryd.prog 17 #[.int .u64 x, .int .u64 b] w fun e w' => e = .returned (.int .i64 (Lib.bitLen (us b x).toNat)) ∧ w = w' := by
  obtain ⟨b1, b2⟩ := hb.bd
  have hx0 := h.1
  have H := Lib.hid h
  have HB := Lib.hid hb
  clear h hb
  go_enter Tryd.func17, Tryd.ntmps17
  go_wp2
  go_loop [5] (fun n => ∃ k : Nat, (k : Int) ≤ b ∧ n = .int .u64 k ∧ x.toNat % 2 ^ b.toNat < 2 ^ k) (fun n => (intOf n).toNat)
  case atStart => exact ⟨b.toNat, by omega, by rw [Int.toNat_of_nonneg (by omega)], Nat.mod_lt _ (two_pos _)⟩
  case round =>
    obtain ⟨k, hk, rfl, hlt⟩ := hrel
    go_wp2_with ((go_at_call 28; refine (c_bit _ _ _ H.out (by omega) (by omega)).mono ?_; rintro e w2 ⟨rfl, rfl⟩))
    · have hbit : x.toNat / 2 ^ (k - 1) % 2 = 0 := by
        have e : x / 2 ^ (k - 1) % 2 = 0 := by simpa using ‹(x / 2 ^ (k - 1) % 2 == 0) = true›
        rw [bit_nat hx0] at e; omega
      have hk0 : 0 < k := by assumption
      go_round
      case rel => exact ⟨k - 1, by omega, by rw [show ((k - 1 : Nat) : Int) = (k : Int) - 1 by omega], len_round (by omega) hk0 hlt hbit⟩
      case measure => simp [intOf]; omega
    · have hbit : x.toNat / 2 ^ (k - 1) % 2 = 1 := by
        have e : ¬ x / 2 ^ (k - 1) % 2 = 0 := by simpa using ‹(x / 2 ^ (k - 1) % 2 == 0) = false›
        rw [bit_nat hx0] at e; omega
      go_ret
      exact ⟨ret_int (by rw [HB.out.us H.out, Int.toNat_natCast, len_exit (by omega) (by omega) hlt (Or.inr hbit)]), rfl⟩
    · go_ret
      exact ⟨ret_int (by rw [HB.out.us H.out, Int.toNat_natCast, len_exit (by omega) (by omega) hlt (Or.inl (by omega))]), rfl⟩
theorem c_Ones (x b : Int) (w : World) (hb : B4 b) (h : U64 x) :
    Calls Tryd.prog 19 #[.int .u64 x, .int .u64 b] w fun e w' => e = .returned (.int .i64 (Lib.popAux b.toNat x.toNat)) ∧ w = w' := by
  obtain ⟨b1, b2⟩ := hb.bd
  have hx0 := h.1
  have H := Lib.hid h
  clear h hb
  go_enter Tryd.func19, Tryd.ntmps19
  go_wp2
  go_loop [5, 8] (fun n i => ∃ k : Nat, (k : Int) ≤ b ∧ i = .int .u64 k ∧ n = .int .i64 (Lib.popAux k x.toNat)) (fun _ i => b.toNat - (intOf i).toNat)
  case atStart => exact ⟨0, by omega, rfl, rfl⟩
  case round =>
    obtain ⟨k, hk, rfl, rfl⟩ := hrel
    go_wp2_with ((go_at_call 28; refine (c_bit _ _ _ H.out (by omega) (by omega)).mono ?_; rintro e w2 ⟨rfl, rfl⟩))
    · have hp := pop_le k x.toNat
      go_round
      case rel =>
        refine ⟨k + 1, by omega, by go_num, ?_⟩
        rw [pop_succ, bit_nat hx0]
        congr 1
        unfold wrap64
        omega
      case measure => simp [intOf]; omega
    · obtain rfl : b = (k : Int) := by omega
      go_ret
      exact ⟨ret_int (by simp), rfl⟩
theorem ctz_round {x k : Nat} (h : x % 2 ^ k = 0) (h2 : x / 2 ^ k % 2 = 0) : x % 2 ^ (k + 1) = 0 := by
  rw [Nat.pow_succ, Nat.mod_mul, h, h2]; rfl
theorem c_Trailing (x b : Int) (w : World) (hb : B4 b) (h : U64 x) :
    Calls Tryd.prog 18 #[.int .u64 x, .int .u64 b] w fun e w' => e = .returned (.int .i64 (Lib.ctzFrom b.toNat x.toNat)) ∧ w = w' := by
  obtain ⟨b1, b2⟩ := hb.bd
  have hx0 := h.1
  have H := Lib.hid h
  clear h hb
  go_enter Tryd.func18, Tryd.ntmps18
  go_wp2
  go_loop [5] (fun n => ∃ k : Nat, (k : Int) ≤ b ∧ n = .int .i64 k ∧ x.toNat % 2 ^ k = 0) (fun n => b.toNat - (intOf n).toNat)
  case atStart => exact ⟨0, by omega, rfl, by simp [Nat.mod_one]⟩
  case round =>
    obtain ⟨k, hk, rfl, hz⟩ := hrel
    go_wp2_with ((go_at_call 28; refine (c_bit _ _ _ H.out (by omega) (by omega)).mono ?_; rintro e w2 ⟨rfl, rfl⟩))
    · have hbit : x.toNat / 2 ^ k % 2 = 0 := by
        have e : x / 2 ^ k % 2 = 0 := by simpa using ‹(x / 2 ^ k % 2 == 0) = true›
        rw [bit_nat hx0] at e; omega
      go_round
      case rel => exact ⟨k + 1, by omega, by go_num, ctz_round hz hbit⟩
      case measure => simp [intOf]; omega
    · have hbit : x.toNat / 2 ^ k % 2 = 1 := by
        have e : ¬ x / 2 ^ k % 2 = 0 := by simpa using ‹(x / 2 ^ k % 2 == 0) = false›
        rw [bit_nat hx0] at e; omega
      go_ret
      exact ⟨ret_int (by rw [ctz_is b.toNat k x.toNat (by omega) hz (Or.inr hbit)]), rfl⟩
    · go_ret
      exact ⟨ret_int (by rw [ctz_is b.toNat k x.toNat (by omega) hz (Or.inl (by omega))]), rfl⟩
end Go.Proofs.YtjfpjcaidjblnaaDoor
