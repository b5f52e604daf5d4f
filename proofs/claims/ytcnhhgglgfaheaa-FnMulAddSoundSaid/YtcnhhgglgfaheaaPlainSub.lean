/-
  Plain facts about the difference of two limits: no program in sight.
-/
import Derived.Test.YtcnhhgglgfaheaaSub
import Derived.Test.YtcnhhgglgfaheaaPlainAdd
namespace Go.Proofs.Ytcnhhgglgfaheaa
open Go.RowKit
set_option linter.unusedVariables false

theorem subU_iff {b x y : Int} : subU b x y = true ↔ y ≤ x ∧ x - y ≤ top b := by simp [subU]
theorem sub_sound {b x y : Int} {l m : Lm} (hb : B4 b) (hl : mt l (sg b x) (us b x) = true) (hm : mt m (sg b y) (us b y) = true) :
    mt (subL b l m) (sg b (IntKind.u64.wrap (x - y))) (us b (IntKind.u64.wrap (x - y))) = true := by
  rw [sg_wrap hb, us_wrap hb]
  rw [mt_iff] at hl hm
  rw [mt_iff]
  have s := sg_I64 (x := x - y) hb
  have u := us_U64 (x := x - y) hb
  unfold I64 at s
  unfold U64 at u
  have v1 := us_bd (x := x) hb
  have v2 := us_bd (x := y) hb
  have e1 : lst b ≤ sg b x - sg b y → sg b x - sg b y ≤ grt b → sg b (x - y) = sg b x - sg b y := fun h1 h2 => by
    rw [← sg_id hb h1 h2]
    exact sg_of_us (us_sub (us_sg hb).symm (us_sg hb).symm)
  have e2 : 0 ≤ us b x - us b y → us b x - us b y ≤ top b → us b (x - y) = us b x - us b y := fun h1 h2 => by
    rw [← us_id (x := us b x - us b y) hb h1 h2]
    exact us_sub (us_us hb).symm (us_us hb).symm
  unfold subL
  dsimp only
  rcases pick2_or (fitB b (l.a - m.b) && fitB b (l.b - m.a)) (l.a - m.b) (-9223372036854775808) with ⟨h, e⟩ | ⟨h, e⟩ <;> rw [e, h]
  · rw [Bool.and_eq_true, fitB_iff, fitB_iff] at h
    rw [pick2_t, e1 (by omega) (by omega)]
    rcases pick2_or (subU b l.c m.d && subU b l.d m.c) (l.c - m.d) 0 with ⟨h', e'⟩ | ⟨h', e'⟩ <;> rw [e', h']
    · rw [Bool.and_eq_true, subU_iff, subU_iff] at h'
      rw [pick2_t, e2 (by omega) (by omega)]
      omega
    · rw [pick2_f]
      omega
  · rw [pick2_f]
    rcases pick2_or (subU b l.c m.d && subU b l.d m.c) (l.c - m.d) 0 with ⟨h', e'⟩ | ⟨h', e'⟩ <;> rw [e', h']
    · rw [Bool.and_eq_true, subU_iff, subU_iff] at h'
      rw [pick2_t, e2 (by omega) (by omega)]
      omega
    · rw [pick2_f]
      omega

end Go.Proofs.Ytcnhhgglgfaheaa
