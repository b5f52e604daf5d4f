/-
  Plain facts about readings of words: no program in sight.
-/
import Derived.Test.YtcnhhgglgfaheaaBase
namespace Go.Proofs.Ytcnhhgglgfaheaa
open Go.RowKit
set_option linter.unusedVariables false

theorem us_sg {b x : Int} (hb : B4 b) : us b (sg b x) = us b x := by
  unfold sg us
  rcases hb with rfl | rfl | rfl | rfl
  · rw [pw8]; split <;> omega
  · rw [pw16]; split <;> omega
  · rw [pw32]; split <;> omega
  · rw [pw64]; split <;> omega
theorem us_us {b x : Int} (hb : B4 b) : us b (us b x) = us b x := by
  unfold us
  rcases hb with rfl | rfl | rfl | rfl
  · rw [pw8]; omega
  · rw [pw16]; omega
  · rw [pw32]; omega
  · rw [pw64]; omega
theorem sg_of_us {b x y : Int} (h : us b x = us b y) : sg b x = sg b y := by unfold sg; rw [h]
theorem sg_sg {b x : Int} (hb : B4 b) : sg b (sg b x) = sg b x := sg_of_us (us_sg hb)
theorem sg_us {b x : Int} (hb : B4 b) : sg b (us b x) = sg b x := sg_of_us (us_us hb)
theorem us_add {b x y x' y' : Int} (hx : us b x = us b x') (hy : us b y = us b y') : us b (x + y) = us b (x' + y') := by
  unfold us at *
  rw [Int.add_emod, hx, hy, ← Int.add_emod]
theorem us_sub {b x y x' y' : Int} (hx : us b x = us b x') (hy : us b y = us b y') : us b (x - y) = us b (x' - y') := by
  unfold us at *
  rw [Int.sub_emod, hx, hy, ← Int.sub_emod]
theorem us_mul {b x y x' y' : Int} (hx : us b x = us b x') (hy : us b y = us b y') : us b (x * y) = us b (x' * y') := by
  unfold us at *
  rw [Int.mul_emod, hx, hy, ← Int.mul_emod]
/-- A number of so many bits is its own reading. -/
theorem us_id {b x : Int} (hb : B4 b) (h0 : 0 ≤ x) (h1 : x ≤ top b) : us b x = x := by
  unfold top at h1
  unfold us
  rcases hb with rfl | rfl | rfl | rfl
  · rw [pw8] at *; omega
  · rw [pw16] at *; omega
  · rw [pw32] at *; omega
  · rw [pw64] at *; omega
theorem sg_id {b x : Int} (hb : B4 b) (h0 : lst b ≤ x) (h1 : x ≤ grt b) : sg b x = x := by
  unfold lst at h0
  unfold grt at h1
  unfold sg us
  rcases hb with rfl | rfl | rfl | rfl
  · rw [pw8] at *; split <;> omega
  · rw [pw16] at *; split <;> omega
  · rw [pw32] at *; split <;> omega
  · rw [pw64] at *; split <;> omega
theorem us_mod64 {b x y : Int} (hb : B4 b) (h : us 64 x = us 64 y) : us b x = us b y := by rw [← us_mod hb (x := x), h, us_mod hb]
theorem fitB_sg {b x : Int} (hb : B4 b) : fitB b x = decide (sg b x = x) := by
  rw [Bool.eq_iff_iff, fitB_iff, decide_eq_true_eq]
  constructor
  · intro h
    exact sg_id hb h.1 h.2
  · intro h
    rw [← h]
    exact sg_bd hb
theorem top_grt (b : Int) (hb : B4 b) : top b = 2 * grt b + 1 := by
  rcases hb with rfl | rfl | rfl | rfl <;> rfl
/-- The two readings of a word: the unsigned one is the signed one, or 2 to the size more. -/
theorem us_or {b x : Int} (hb : B4 b) : (0 ≤ sg b x ∧ us b x = sg b x) ∨ (sg b x < 0 ∧ us b x = sg b x + top b + 1) := by
  unfold top sg us
  rcases hb with rfl | rfl | rfl | rfl
  · rw [pw8]; split <;> omega
  · rw [pw16]; split <;> omega
  · rw [pw32]; split <;> omega
  · rw [pw64]; split <;> omega

end Go.Proofs.Ytcnhhgglgfaheaa
