/-
  Plain facts: when a sum or a difference of two numbers of so many bits fits. No program in sight.
-/
import Derived.Test.YtfgcfllboagfmaaSpec
import Derived.Test.YtfgcfllboagfmaaSafe
import Derived.Test.YtfgcfllboagfmaaPlain
namespace Go.Proofs.Ytfgcfllboagfmaa
open Go.RowKit
set_option linter.unusedVariables false

theorem sfB_fit {b x y : Int} (hx : lst b ≤ x ∧ x ≤ grt b) (hy : lst b ≤ y ∧ y ≤ grt b) : sfB b x y = fitB b (x + y) := by
  unfold sfB fitB
  split <;> rw [Bool.eq_iff_iff, decide_eq_true_eq, decide_eq_true_eq] <;> omega
theorem dfB_fit {b x y : Int} (hx : lst b ≤ x ∧ x ≤ grt b) (hy : lst b ≤ y ∧ y ≤ grt b) : dfB b x y = fitB b (x - y) := by
  unfold dfB fitB
  split <;> rw [Bool.eq_iff_iff, decide_eq_true_eq, decide_eq_true_eq] <;> omega
theorem fitB_2 {b : Int} (hb : B4 b) : fitB b 2 = true := by rcases hb with rfl | rfl | rfl | rfl <;> decide
theorem fit_I64 {b x : Int} (hb : B4 b) (h : fitB b x = true) : I64 x := by
  rw [fitB_iff] at h
  have := grt_bd hb
  have := lst_grt b
  exact ⟨by omega, by omega⟩

end Go.Proofs.Ytfgcfllboagfmaa
