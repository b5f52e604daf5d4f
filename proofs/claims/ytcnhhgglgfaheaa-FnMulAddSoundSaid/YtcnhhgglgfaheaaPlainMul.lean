/-
  Plain facts about the product of two limits: no program in sight.
-/
import Derived.Test.YtcnhhgglgfaheaaMul
import Derived.Test.YtcnhhgglgfaheaaPlainAdd
namespace Go.Proofs.Ytcnhhgglgfaheaa
open Go.RowKit
set_option linter.unusedVariables false

/-- The unsigned bounds are words. -/
def UU (l : Lm) : Prop := U64 l.c ∧ U64 l.d
theorem fit_U64 {b p q r t : Int} (hb : B4 b) : UU ⟨sg b p, sg b q, us b r, us b t⟩ := ⟨us_U64 hb, us_U64 hb⟩
theorem mul_sound {b x y : Int} {l m : Lm} (hb : B4 b) (hL : UU l) (hM : UU m) (hl : mt l (sg b x) (us b x) = true) (hm : mt m (sg b y) (us b y) = true) :
    mt (mulL b l m) (sg b (IntKind.u64.wrap (x * y))) (us b (IntKind.u64.wrap (x * y))) = true := by
  rw [sg_wrap hb, us_wrap hb]
  rw [mt_iff] at hl hm
  rw [mt_iff]
  have s := sg_I64 (x := x * y) hb
  have u := us_U64 (x := x * y) hb
  unfold I64 at s
  unfold U64 at u
  have v1 := us_bd (x := x) hb
  have v2 := us_bd (x := y) hb
  have g := top_bd hb
  have k1 := hL.1.1
  have k2 := hM.1.1
  have p1 : us b x * us b y ≤ l.d * m.d := Int.mul_le_mul hl.2.2.2 hm.2.2.2 v2.1 (by omega)
  have p2 : l.c * m.c ≤ us b x * us b y := Int.mul_le_mul hl.2.2.1 hm.2.2.1 k2 v1.1
  have p3 : 0 ≤ l.c * m.c := Int.mul_nonneg k1 k2
  by_cases h : l.d * m.d ≤ top b
  · rw [mulL_t h]
    have e : us b (x * y) = us b x * us b y := by
      rw [← us_id (x := us b x * us b y) hb (by omega) (by omega)]
      exact us_mul (us_us hb).symm (us_us hb).symm
    have e' : IntKind.u64.wrap (l.c * m.c) = l.c * m.c := by rw [u64_us, us64 ⟨p3, by omega⟩]
    dsimp only
    rw [e, e']
    omega
  · rw [mulL_f h]
    dsimp only
    omega

end Go.Proofs.Ytcnhhgglgfaheaa
