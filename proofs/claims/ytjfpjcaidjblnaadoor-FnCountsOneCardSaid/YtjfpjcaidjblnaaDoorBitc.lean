/-
  What the functions on bits (math/bits, and the reference's own) return: contracts, one a function.
-/
import Derived.Test.YtjfpjcaidjblnaaDoorSpec
import Derived.Lib.Strings
import Derived.Lib.Slices
import Derived.Lib.Small
import Derived.Lib.Walk
import Derived.Lib.BitFns
import Derived.LoopTactic
namespace Go.Proofs.YtjfpjcaidjblnaaDoor
open Go.RowKit
set_option linter.unusedVariables false

/-- The length by the table's byte. -/
theorem len_at {x y c : Int} {k : Nat} (hc : c = k) (hk : k ≤ 56) (e : Lib.bitLen x.toNat = k + Lib.bitLen y.toNat) (h : y.toNat < Lib.len8tab.size) :
    wrap64 (c + wrap64 ((Lib.len8tab[y.toNat]'h).toNat : Int)) = (Lib.bitLen x.toNat : Int) := by
  have hs := h
  rw [Lib.len8tab_size] at hs
  have a := Lib.len8_eq ⟨y.toNat, hs⟩
  have l := Lib.bitLen_le8 ⟨y.toNat, hs⟩
  simp only [Lib.len8, Int.toNat_natCast] at a l
  rw [ByteArray.getElem?_lt' _ _ h, Option.getD_some] at a
  rw [a, e]
  unfold wrap64
  omega
set_option maxHeartbeats 4000000 in
set_option maxRecDepth 100000 in
theorem c_Len64 (x : Int) (w : World) (h : U64 x) :
    Calls Tryd.prog 38 #[.int .u64 x] w fun e w' => e = .returned (.int .i64 (Lib.bitLen x.toNat)) ∧ w = w' := by
  obtain ⟨h0, h1⟩ := h
  have hs : ((Lib.len8tab.size : Nat) : Int) = 256 := by rw [Lib.len8tab_size]; rfl
  go_enter Tryd.func38, Tryd.ntmps38
  go_wp2
  all_goals (go_ret; refine ⟨congrArg Ending.returned (congrArg (Value.int IntKind.i64) ?_), rfl⟩)
  · exact len_at (k := 56) (c := 56) rfl (by omega) (by rw [show (x / 4294967296 / 65536 / 256).toNat = x.toNat / 72057594037927936 by omega]; exact Lib.bitLen_shift56 x.toNat (by omega) (by omega)) _
  · exact len_at (k := 48) (c := 48) rfl (by omega) (by rw [show (x / 4294967296 / 65536).toNat = x.toNat / 281474976710656 by omega]; exact Lib.bitLen_shift48 x.toNat (by omega) (by omega)) _
  · exact len_at (k := 40) (c := 40) rfl (by omega) (by rw [show (x / 4294967296 / 256).toNat = x.toNat / 1099511627776 by omega]; exact Lib.bitLen_shift40 x.toNat (by omega) (by omega)) _
  · exact len_at (k := 32) (c := 32) rfl (by omega) (by rw [show (x / 4294967296).toNat = x.toNat / 4294967296 by omega]; exact Lib.bitLen_shift32 x.toNat (by omega) (by omega)) _
  · exact len_at (k := 24) (c := 24) rfl (by omega) (by rw [show (x / 65536 / 256).toNat = x.toNat / 16777216 by omega]; exact Lib.bitLen_shift24 x.toNat (by omega) (by omega)) _
  · exact len_at (k := 16) (c := 16) rfl (by omega) (by rw [show (x / 65536).toNat = x.toNat / 65536 by omega]; exact Lib.bitLen_shift16 x.toNat (by omega) (by omega)) _
  · exact len_at (k := 8) (c := 8) rfl (by omega) (by rw [show (x / 256).toNat = x.toNat / 256 by omega]; exact Lib.bitLen_shift8 x.toNat (by omega) (by omega)) _
  · have a := len_at (x := x) (y := x) (k := 0) (c := 0) rfl (by omega) (by omega) (by rw [Lib.len8tab_size]; omega)
    rw [Int.zero_add] at a
    exact a
theorem bitLen_le64 {x : Int} (h : U64 x) : Lib.bitLen x.toNat ≤ 64 := Lib.bitLen_le _ 64 (by decide) (by obtain ⟨h0, h1⟩ := h; have : (2 : Nat) ^ 64 = 18446744073709551616 := by decide
                                                                                                          omega)
theorem c_LeadingZeros64 (x : Int) (w : World) (h : U64 x) :
    Calls Tryd.prog 48 #[.int .u64 x] w fun e w' => e = .returned (.int .i64 (64 - (Lib.bitLen x.toNat : Int))) ∧ w = w' := by
  have hl := bitLen_le64 h
  have H := Lib.hid h
  clear h
  go_enter Tryd.func48, Tryd.ntmps48
  go_wp2_with ((go_at_call 38; refine (c_Len64 _ _ H.out).mono ?_; rintro e w2 ⟨rfl, rfl⟩))
  go_ret
  exact ⟨rfl, rfl⟩
theorem c_bit (x i : Int) (w : World) (h : U64 x) (hi : 0 ≤ i) (hi2 : i < 64) :
    Calls Tryd.prog 28 #[.int .u64 x, .int .u64 i] w fun e w' => e = .returned (.int .u64 (x / 2 ^ i.toNat % 2)) ∧ w = w' := by
  obtain ⟨h0, h1⟩ := h
  go_enter Tryd.func28, Tryd.ntmps28
  have e : (x / 2 ^ i.toNat).tmod 2 = x / 2 ^ i.toNat % 2 := Int.tmod_eq_emod_of_nonneg (Int.ediv_nonneg h0 (Int.le_of_lt (Int.pow_pos (by decide))))
  go_wp2
  go_ret
  exact ⟨ret_int (by first | exact e | rfl), rfl⟩
end Go.Proofs.YtjfpjcaidjblnaaDoor
