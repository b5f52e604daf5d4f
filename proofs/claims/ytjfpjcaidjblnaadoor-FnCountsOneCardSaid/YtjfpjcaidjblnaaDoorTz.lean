/-
  math/bits.TrailingZeros64 over its table, every word; and that the table stays as it was.
-/
import Derived.Test.YtjfpjcaidjblnaaDoorBase
import Derived.Lib.TrailingZeros
import Derived.Laws.Bits64b
namespace Go.Proofs.YtjfpjcaidjblnaaDoor
open Go.RowKit
set_option linter.unusedVariables false
/-- The table lies in its variable. -/
def Tab (w : World) : Prop := ∀ j : Nat, j < 64 → w.cell? ⟨0, j, none⟩ = some (.int .u8 ((Lib.deBruijn64tab.getD j 0 : Nat) : Int))
theorem Tab.later {w w' : World} (h : Tab w) (u : Up w w') : Tab w' := fun j hj => u.later (h j hj)
set_option maxHeartbeats 1000000 in
theorem tz_core (x k i : Nat) (w : World) (hx0 : ((x : Int) == 0) = false)
    (key : IntKind.u64.wrap (bits BinOp.and IntKind.u64 (x : Int) (IntKind.u64.wrap (-(x : Int))) * 285870213051353865) / 288230376151711744 = (i : Int))
    (hi : i < 64) (hk : k < 64) (hcell : w.cell? ⟨0, i, none⟩ = some (.int .u8 (k : Int))) :
    Calls Tryd.prog 41 #[.int .u64 x] w fun e w' => e = .returned (.int .i64 k) ∧ w = w' := by
  go_enter Tryd.func41, Tryd.ntmps41
  go_wp2_with (simp only [key])
  go_ret
  exact ⟨rfl, rfl⟩
theorem tz_zero (w : World) :
    Calls Tryd.prog 41 #[.int .u64 0] w fun e w' => e = .returned (.int .i64 64) ∧ w = w' := by
  go_enter Tryd.func41, Tryd.ntmps41
  go_wp2
  go_ret
  exact ⟨rfl, rfl⟩
theorem tz_key {x a : Nat} (hx : x < 18446744073709551616) (hx0 : x ≠ 0) (hlow : x &&& (18446744073709551616 - x) = a) :
    IntKind.u64.wrap (bits BinOp.and IntKind.u64 (x : Int) (IntKind.u64.wrap (-(x : Int))) * 285870213051353865) / 288230376151711744 = ((a * 285870213051353865 % 18446744073709551616 / 288230376151711744 : Nat) : Int) := by
  have hw : IntKind.u64.wrap (-(x : Int)) = ((18446744073709551616 - x : Nat) : Int) := by
    rw [IntKind.wrap_u64]
    omega
  rw [hw, bits_and_u64_nat x (18446744073709551616 - x) hx (by omega), hlow, IntKind.wrap_u64]
  omega
theorem c_TZ64 (x : Int) (w : World) (h : U64 x) (hT : Tab w) :
    Calls Tryd.prog 41 #[.int .u64 x] w fun e w' => e = .returned (.int .i64 (Lib.ctz 64 x.toNat)) ∧ w = w' := by
  obtain ⟨h0, h1⟩ := h
  obtain ⟨n, rfl⟩ : ∃ n : Nat, x = n := ⟨x.toNat, by omega⟩
  rw [Int.toNat_natCast]
  by_cases hz : n = 0
  · subst hz
    exact tz_zero w
  · have hn : n < 18446744073709551616 := by omega
    obtain ⟨hlow, hk⟩ := Lib.lowest_bit 64 n hz hn
    obtain ⟨hi, ht⟩ := Lib.deBruijn64_at _ hk
    have hcell := hT _ hi
    rw [ht] at hcell
    exact tz_core n _ _ w (by simp; omega) (tz_key hn hz hlow) hi hk hcell
end Go.Proofs.YtjfpjcaidjblnaaDoor
