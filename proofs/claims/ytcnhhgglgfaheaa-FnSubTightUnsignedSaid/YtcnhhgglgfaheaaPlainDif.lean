/-
  Plain facts: when differences fit, and differences of limits. No program in sight.
-/
import Derived.Test.YtcnhhgglgfaheaaSpec
import Derived.Test.YtcnhhgglgfaheaaPlainSub
namespace Go.Proofs.Ytcnhhgglgfaheaa
open Go.RowKit
set_option linter.unusedVariables false

theorem dif_fit {b x y : Int} (hx : lst b ≤ x ∧ x ≤ grt b) (hy : lst b ≤ y ∧ y ≤ grt b) : dfB b x y = fitB b (x - y) := by
  unfold dfB fitB
  split <;> rw [Bool.eq_iff_iff, decide_eq_true_eq, decide_eq_true_eq] <;> omega
theorem sub_one {b x y : Int} (hb : B4 b) (h1 : dfB b (sg b x) (sg b y) = true) (h2 : us b y ≤ us b x) : subL b ⟨sg b x, sg b x, us b x, us b x⟩ ⟨sg b y, sg b y, us b y, us b y⟩ =
    ⟨sg b (IntKind.u64.wrap (x - y)), sg b (IntKind.u64.wrap (x - y)), us b (IntKind.u64.wrap (x - y)), us b (IntKind.u64.wrap (x - y))⟩ := by
  rw [dif_fit (sg_bd hb) (sg_bd hb)] at h1
  have v1 := us_bd (x := x) hb
  have v2 := us_bd (x := y) hb
  have f2 : subU b (us b x) (us b y) = true := subU_iff.2 ⟨h2, by omega⟩
  unfold subL
  dsimp only
  rw [h1, f2]
  rw [fitB_iff] at h1
  have e1 : sg b (x - y) = sg b x - sg b y := by
    rw [← sg_id hb h1.1 h1.2]
    exact sg_of_us (us_sub (us_sg hb).symm (us_sg hb).symm)
  have e2 : us b (x - y) = us b x - us b y := by
    rw [← us_id (x := us b x - us b y) hb (by omega) (by omega)]
    exact us_sub (us_us hb).symm (us_us hb).symm
  rw [sg_wrap hb, us_wrap hb, e1, e2]
  rfl

end Go.Proofs.Ytcnhhgglgfaheaa
