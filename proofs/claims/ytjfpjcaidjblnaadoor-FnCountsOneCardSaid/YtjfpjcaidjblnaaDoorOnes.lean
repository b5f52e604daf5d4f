/-
  math/bits.OnesCount64: the number of ones.
-/
import Derived.Test.YtjfpjcaidjblnaaDoorBitc
import Derived.Test.YtjfpjcaidjblnaaDoorPlainOnes
namespace Go.Proofs.YtjfpjcaidjblnaaDoor
open Go.RowKit
set_option linter.unusedVariables false
/-- The steps, as the walk spells them. -/
def o1 (x : Int) : Int := IntKind.u64.wrap (bits .and .u64 (x / 2) 6148914691236517205 + bits .and .u64 x 6148914691236517205)
def o2 (x : Int) : Int := IntKind.u64.wrap (bits .and .u64 (x / 4) 3689348814741910323 + bits .and .u64 x 3689348814741910323)
def o3 (x : Int) : Int := bits .and .u64 (IntKind.u64.wrap (x / 16 + x)) 1085102592571150095
def o4 (x : Int) : Int := IntKind.u64.wrap (x + x / 256)
def o5 (x : Int) : Int := IntKind.u64.wrap (x + x / 65536)
def o6 (x : Int) : Int := IntKind.u64.wrap (x + x / 4294967296)
def o7 (x : Int) : Int := bits .and .i64 (wrap64 x) 127
theorem bits_and_i64_nat (a b : Nat) (ha : a < 9223372036854775808) (hb : b < 9223372036854775808) :
    bits .and .i64 (a : Int) (b : Int) = ((a &&& b : Nat) : Int) := by
  have hx : a &&& b < 2 ^ 63 := Nat.and_lt_two_pow _ (by omega)
  have h1 : (BitVec.ofInt 64 (a : Int)).toNat = a := by
    rw [BitVec.ofInt_natCast, BitVec.toNat_ofNat]; exact Nat.mod_eq_of_lt (by omega)
  have h2 : (BitVec.ofInt 64 (b : Int)).toNat = b := by
    rw [BitVec.ofInt_natCast, BitVec.toNat_ofNat]; exact Nat.mod_eq_of_lt (by omega)
  show IntKind.i64.wrap ((BitVec.ofInt 64 (a : Int) &&& BitVec.ofInt 64 (b : Int)).toNat : Int) = _
  rw [BitVec.toNat_and, h1, h2]
  simp [IntKind.wrap, IntKind.bits, IntKind.signed]
  omega
theorem o1_nat {n : Nat} (h : n < 18446744073709551616) : o1 (n : Int) = (((n / 2 &&& 6148914691236517205) + (n &&& 6148914691236517205) : Nat) : Int) := by
  have a := bits_and_u64_nat (n / 2) 6148914691236517205 (by omega) (by decide)
  have b := bits_and_u64_nat n 6148914691236517205 h (by decide)
  have c : n / 2 &&& 6148914691236517205 ≤ 6148914691236517205 := Nat.and_le_right
  have d : n &&& 6148914691236517205 ≤ 6148914691236517205 := Nat.and_le_right
  unfold o1
  rw [show ((n : Int) / 2) = ((n / 2 : Nat) : Int) by omega, show (6148914691236517205 : Int) = ((6148914691236517205 : Nat) : Int) from rfl, a, b, IntKind.wrap_u64]
  omega
theorem o2_nat {n : Nat} (h : n < 18446744073709551616) : o2 (n : Int) = (((n / 4 &&& 3689348814741910323) + (n &&& 3689348814741910323) : Nat) : Int) := by
  have a := bits_and_u64_nat (n / 4) 3689348814741910323 (by omega) (by decide)
  have b := bits_and_u64_nat n 3689348814741910323 h (by decide)
  have c : n / 4 &&& 3689348814741910323 ≤ 3689348814741910323 := Nat.and_le_right
  have d : n &&& 3689348814741910323 ≤ 3689348814741910323 := Nat.and_le_right
  unfold o2
  rw [show ((n : Int) / 4) = ((n / 4 : Nat) : Int) by omega, show (3689348814741910323 : Int) = ((3689348814741910323 : Nat) : Int) from rfl, a, b, IntKind.wrap_u64]
  omega
theorem o3_nat {n : Nat} (h : n ≤ 7378697629483820646) : o3 (n : Int) = ((n / 16 + n &&& 1085102592571150095 : Nat) : Int) := by
  have a := bits_and_u64_nat (n / 16 + n) 1085102592571150095 (by omega) (by decide)
  unfold o3
  rw [show IntKind.u64.wrap ((n : Int) / 16 + n) = ((n / 16 + n : Nat) : Int) by rw [IntKind.wrap_u64]; omega, show (1085102592571150095 : Int) = ((1085102592571150095 : Nat) : Int) from rfl, a]
theorem oc_is {x : Int} (h : U64 x) : o7 (o6 (o5 (o4 (o3 (o2 (o1 x)))))) = (Lib.popAux 64 x.toNat : Int) := by
  obtain ⟨h0, h1⟩ := h
  obtain ⟨n, rfl⟩ : ∃ n : Nat, x = n := ⟨x.toNat, by omega⟩
  have hn : n < 18446744073709551616 := by omega
  clear h0 h1
  rw [Int.toNat_natCast, o1_nat hn]
  have q := st123 n
  simp only at q
  have c1 : n / 2 &&& 6148914691236517205 ≤ 6148914691236517205 := Nat.and_le_right
  have c2 : n &&& 6148914691236517205 ≤ 6148914691236517205 := Nat.and_le_right
  have ha : (n / 2 &&& 6148914691236517205) + (n &&& 6148914691236517205) < 18446744073709551616 := by omega
  clear c1 c2
  generalize (n / 2 &&& 6148914691236517205) + (n &&& 6148914691236517205) = a at q ha ⊢
  rw [o2_nat ha]
  have c1 : a / 4 &&& 3689348814741910323 ≤ 3689348814741910323 := Nat.and_le_right
  have c2 : a &&& 3689348814741910323 ≤ 3689348814741910323 := Nat.and_le_right
  have hb : (a / 4 &&& 3689348814741910323) + (a &&& 3689348814741910323) ≤ 7378697629483820646 := by omega
  clear c1 c2
  generalize (a / 4 &&& 3689348814741910323) + (a &&& 3689348814741910323) = b at q hb ⊢
  rw [o3_nat hb, q]
  clear q hb ha
  obtain ⟨c, d, e, hc, hd, he, hm, lc, ld, le⟩ := sum8 (pop_le 8 _) (pop_le 8 _) (pop_le 8 _) (pop_le 8 _) (pop_le 8 _) (pop_le 8 _) (pop_le 8 _) (pop_le 8 _) (sp8 (Lib.popAux 8) n)
  rw [← pop64 n] at hm
  generalize sp (Lib.popAux 8) 8 n = s at hc ⊢
  have e4 : o4 (s : Int) = (c : Int) := by unfold o4; rw [IntKind.wrap_u64]; omega
  have e5 : o5 (c : Int) = (d : Int) := by unfold o5; rw [IntKind.wrap_u64]; omega
  have e6 : o6 (d : Int) = (e : Int) := by unfold o6; rw [IntKind.wrap_u64]; omega
  rw [e4, e5, e6]
  have hw : wrap64 (e : Int) = (e : Int) := by unfold wrap64; omega
  unfold o7
  rw [hw, show (127 : Int) = ((127 : Nat) : Int) from rfl, bits_and_i64_nat e 127 le (by decide), show (127 : Nat) = 2 ^ 7 - 1 from rfl, Nat.and_two_pow_sub_one_eq_mod, ← hm]
theorem c_OnesCount64 (x : Int) (w : World) (h : U64 x) :
    Calls Tryd.prog 40 #[.int .u64 x] w fun e w' => e = .returned (.int .i64 (Lib.popAux 64 x.toNat)) ∧ w = w' := by
  have HE := Lib.hid (oc_is h)
  obtain ⟨h0, h1⟩ := h
  go_enter Tryd.func40, Tryd.ntmps40
  go_wp2
  go_ret
  exact ⟨ret_int HE.out, rfl⟩
end Go.Proofs.YtjfpjcaidjblnaaDoor
