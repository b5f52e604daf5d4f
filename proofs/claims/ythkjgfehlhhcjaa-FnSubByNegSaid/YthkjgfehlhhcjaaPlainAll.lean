/-
  Plain facts about the operations of limits of all values, and about a difference in two ways: no program in sight.
-/
import Derived.Test.YthkjgfehlhhcjaaPlainNeg
import Derived.Test.YthkjgfehlhhcjaaPlainSub
import Derived.Test.YthkjgfehlhhcjaaPlainMul
namespace Go.Proofs.Ythkjgfehlhhcjaa
open Go.RowKit
set_option linter.unusedVariables false

theorem lst_I64 {b : Int} (hb : B4 b) : I64 (lst b) := by
  have := grt_bd hb
  have := lst_grt b
  exact ⟨by omega, by omega⟩
theorem grt_I64 {b : Int} (hb : B4 b) : I64 (grt b) := by
  have := grt_bd hb
  exact ⟨by omega, by omega⟩
theorem top_U64 {b : Int} (hb : B4 b) : U64 (top b) := by
  have := top_bd hb
  exact ⟨by omega, by omega⟩
theorem zero_U64 : U64 0 := ⟨by decide, by decide⟩
theorem all_ok {b : Int} (hb : B4 b) : Lm.ok ⟨lst b, grt b, 0, top b⟩ := ⟨lst_I64 hb, grt_I64 hb, zero_U64, top_U64 hb⟩
theorem all_fits {b : Int} (hb : B4 b) : Lm.fits b ⟨lst b, grt b, 0, top b⟩ := by
  have := grt_bd hb
  have := lst_grt b
  have := top_bd hb
  exact ⟨(sg_id hb (by dsimp only; omega) (by dsimp only; omega)).symm, (sg_id hb (by dsimp only; omega) (by dsimp only; omega)).symm, (us_id hb (by dsimp only; omega) (by dsimp only; omega)).symm, (us_id hb (by dsimp only; omega) (by dsimp only; omega)).symm⟩
/-- A value is what it is read as, and 0 is 0. -/
theorem us_zero {b : Int} (hb : B4 b) (x : Int) : us b (IntKind.u64.wrap (x + 0)) = us b x := by rw [us_wrap hb, Int.add_zero]
theorem all_add {b x : Int} (hb : B4 b) : mt (addL b ⟨lst b, grt b, 0, top b⟩ ⟨lst b, grt b, 0, top b⟩) (sg b x) (us b x) = true := by
  have h := add_sound hb (mt_all (x := x) hb) (mt_all (x := 0) hb)
  rw [us_zero hb, sg_of_us (us_zero hb x)] at h
  exact h
theorem all_sub {b x : Int} (hb : B4 b) : mt (subL b ⟨lst b, grt b, 0, top b⟩ ⟨lst b, grt b, 0, top b⟩) (sg b x) (us b x) = true := by
  have h := sub_sound hb (mt_all (x := x) hb) (mt_all (x := 0) hb)
  have e : us b (IntKind.u64.wrap (x - 0)) = us b x := by rw [us_wrap hb, Int.sub_zero]
  rw [e, sg_of_us e] at h
  exact h
theorem all_mul {b x : Int} (hb : B4 b) : mt (mulL b ⟨lst b, grt b, 0, top b⟩ ⟨lst b, grt b, 0, top b⟩) (sg b x) (us b x) = true := by
  have h := mul_sound hb ⟨zero_U64, top_U64 hb⟩ ⟨zero_U64, top_U64 hb⟩ (mt_all (x := x) hb) (mt_all (x := 1) hb)
  have e : us b (IntKind.u64.wrap (x * 1)) = us b x := by rw [us_wrap hb, Int.mul_one]
  rw [e, sg_of_us e] at h
  exact h
theorem all_com {b x : Int} (hb : B4 b) : mt (comL b ⟨lst b, grt b, 0, top b⟩) (sg b x) (us b x) = true := by
  have h := com_sound hb (all_fits hb) (mt_all (x := 18446744073709551615 - x) hb)
  rw [show 18446744073709551615 - (18446744073709551615 - x) = x from by omega] at h
  exact h
theorem all_neg {b x : Int} (hb : B4 b) : mt (negL b ⟨lst b, grt b, 0, top b⟩) (sg b x) (us b x) = true := by
  have h := neg_sound hb (all_fits hb) (mt_all (x := -x) hb)
  have e : us b (IntKind.u64.wrap (- -x)) = us b x := by rw [us_wrap hb, Int.neg_neg]
  rw [e, sg_of_us e] at h
  exact h
theorem subneg_sound {b x y : Int} {l m : Lm} (hb : B4 b) (hf : Lm.fits b m) (hl : mt l (sg b x) (us b x) = true) (hm : mt m (sg b y) (us b y) = true) :
    mt ⟨max (subL b l m).a (addL b l (cutL b (negL b m))).a, min (subL b l m).b (addL b l (cutL b (negL b m))).b, max (subL b l m).c (addL b l (cutL b (negL b m))).c, min (subL b l m).d (addL b l (cutL b (negL b m))).d⟩ (sg b (IntKind.u64.wrap (x - y))) (us b (IntKind.u64.wrap (x - y))) = true := by
  have h1 := sub_sound hb hl hm
  have h2 := add_sound hb hl (cut_mt hb (neg_sound hb hf hm))
  have e : us b (IntKind.u64.wrap (x + IntKind.u64.wrap (-y))) = us b (IntKind.u64.wrap (x - y)) := by
    rw [us_wrap hb, us_wrap hb]
    have k : us b (x + IntKind.u64.wrap (-y)) = us b (x + -y) := us_add rfl (us_wrap hb)
    rw [k, Int.sub_eq_add_neg]
  rw [e, sg_of_us e] at h2
  rw [mt_iff] at *
  dsimp only
  omega
theorem unB_of_mt {p q r t s u : Int} (h : mt ⟨p, q, r, t⟩ s u = true) : unB p q r t = false := by
  rw [mt_iff] at h
  dsimp only at h
  simp only [unB, decide_eq_false_iff_not]
  omega

end Go.Proofs.Ythkjgfehlhhcjaa
