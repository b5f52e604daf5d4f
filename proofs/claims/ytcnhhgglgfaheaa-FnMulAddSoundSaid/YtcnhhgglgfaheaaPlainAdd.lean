/-
  Plain facts about the sum of two limits: no program in sight.
-/
import Derived.Test.YtcnhhgglgfaheaaAdd
import Derived.Test.YtcnhhgglgfaheaaPlain
namespace Go.Proofs.Ytcnhhgglgfaheaa
open Go.RowKit
set_option linter.unusedVariables false

/-- A value that meets a limit with one value alone is that value. -/
theorem cstv_us {b x p q r t : Int} (hb : B4 b) (hc : isCB p q r t = true) (h : mt ⟨p, q, r, t⟩ (sg b x) (us b x) = true) : us b (cstv b p q r t) = us b x := by
  rw [mt_iff] at h
  dsimp only at h
  simp only [isCB, decide_eq_true_eq] at hc
  unfold cstv
  split
  · rename_i e
    rw [us_mod hb, us_sg hb, show p = sg b x from by omega, us_sg hb]
  · rename_i e
    rw [if_pos (by omega), show r = us b x from by omega, us_us hb]
theorem one_mt (b x : Int) : mt ⟨sg b x, sg b x, us b x, us b x⟩ (sg b x) (us b x) = true := by rw [mt_iff]; simp
theorem one_isC (s u : Int) : isCB s s u u = true := by simp [isCB]
theorem add_one {b x y : Int} (hb : B4 b) : addL b ⟨sg b x, sg b x, us b x, us b x⟩ ⟨sg b y, sg b y, us b y, us b y⟩ =
    ⟨sg b (IntKind.u64.wrap (x + y)), sg b (IntKind.u64.wrap (x + y)), us b (IntKind.u64.wrap (x + y)), us b (IntKind.u64.wrap (x + y))⟩ := by
  have e := us_add (cstv_us hb (one_isC _ _) (one_mt b x)) (cstv_us hb (one_isC _ _) (one_mt b y))
  rw [addL_c (one_isC _ _) (one_isC _ _), sg_us hb, sg_of_us e, e, sg_wrap hb, us_wrap hb]
theorem pick2_t (x y : Int) : pick2 true x y = x := rfl
theorem pick2_f (x y : Int) : pick2 false x y = y := rfl
theorem pick2_or (c : Bool) (x y : Int) : (c = true ∧ pick2 c x y = x) ∨ (c = false ∧ pick2 c x y = y) := by cases c <;> simp [pick2]
theorem addL_ok {b : Int} {l m : Lm} (hb : B4 b) (hl : l.ok) (hm : m.ok) : (addL b l m).ok := by
  unfold addL
  split
  · exact ⟨sg_I64 hb, sg_I64 hb, us_U64 hb, us_U64 hb⟩
  · obtain ⟨g1, g2⟩ := grt_bd hb
    obtain ⟨g3, g4⟩ := top_bd hb
    have g5 := lst_grt b
    refine ⟨?_, ?_, ?_, ?_⟩
    · dsimp only
      rcases pick2_or (fitB b (l.a + m.a) && fitB b (l.b + m.b)) (l.a + m.a) (-9223372036854775808) with ⟨h, e⟩ | ⟨h, e⟩ <;> rw [e]
      · rw [Bool.and_eq_true, fitB_iff, fitB_iff] at h
        exact ⟨by omega, by omega⟩
      · exact ⟨by decide, by decide⟩
    · dsimp only
      rcases pick2_or (fitB b (l.a + m.a) && fitB b (l.b + m.b)) (l.b + m.b) 9223372036854775807 with ⟨h, e⟩ | ⟨h, e⟩ <;> rw [e]
      · rw [Bool.and_eq_true, fitB_iff, fitB_iff] at h
        exact ⟨by omega, by omega⟩
      · exact ⟨by decide, by decide⟩
    · dsimp only
      have k1 := hl.2.2.1.1
      have k2 := hm.2.2.1.1
      rcases pick2_or (fitU b (l.c + m.c) && fitU b (l.d + m.d)) (l.c + m.c) 0 with ⟨h, e⟩ | ⟨h, e⟩ <;> rw [e]
      · rw [Bool.and_eq_true, fitU_iff, fitU_iff] at h
        exact ⟨by omega, by omega⟩
      · exact ⟨by decide, by decide⟩
    · dsimp only
      have k1 := hl.2.2.2.1
      have k2 := hm.2.2.2.1
      rcases pick2_or (fitU b (l.c + m.c) && fitU b (l.d + m.d)) (l.d + m.d) 18446744073709551615 with ⟨h, e⟩ | ⟨h, e⟩ <;> rw [e]
      · rw [Bool.and_eq_true, fitU_iff, fitU_iff] at h
        exact ⟨by omega, by omega⟩
      · exact ⟨by decide, by decide⟩
/-- A sum meets the sum of the limits, whatever goes round. -/
theorem add_sound {b x y : Int} {l m : Lm} (hb : B4 b) (hl : mt l (sg b x) (us b x) = true) (hm : mt m (sg b y) (us b y) = true) :
    mt (addL b l m) (sg b (IntKind.u64.wrap (x + y))) (us b (IntKind.u64.wrap (x + y))) = true := by
  rw [sg_wrap hb, us_wrap hb]
  cases hc : (isCB l.a l.b l.c l.d && isCB m.a m.b m.c m.d)
  · rw [addL_n hc, mt_iff]
    rw [mt_iff] at hl hm
    have s := sg_I64 (x := x + y) hb
    have u := us_U64 (x := x + y) hb
    unfold I64 at s
    unfold U64 at u
    have v1 := us_bd (x := x) hb
    have v2 := us_bd (x := y) hb
    dsimp only
    have e1 : lst b ≤ sg b x + sg b y → sg b x + sg b y ≤ grt b → sg b (x + y) = sg b x + sg b y := fun h1 h2 => by
      rw [← sg_id hb h1 h2]
      exact sg_of_us (us_add (us_sg hb).symm (us_sg hb).symm)
    have e2 : us b x + us b y ≤ top b → us b (x + y) = us b x + us b y := fun h2 => by
      rw [← us_id (x := us b x + us b y) hb (by omega) h2]
      exact us_add (us_us hb).symm (us_us hb).symm
    rcases pick2_or (fitB b (l.a + m.a) && fitB b (l.b + m.b)) (l.a + m.a) (-9223372036854775808) with ⟨h, e⟩ | ⟨h, e⟩ <;> rw [e, h]
    · rw [Bool.and_eq_true, fitB_iff, fitB_iff] at h
      rw [pick2_t, e1 (by omega) (by omega)]
      rcases pick2_or (fitU b (l.c + m.c) && fitU b (l.d + m.d)) (l.c + m.c) 0 with ⟨h', e'⟩ | ⟨h', e'⟩ <;> rw [e', h']
      · rw [Bool.and_eq_true, fitU_iff, fitU_iff] at h'
        rw [pick2_t, e2 (by omega)]
        omega
      · rw [pick2_f]
        omega
    · rw [pick2_f]
      rcases pick2_or (fitU b (l.c + m.c) && fitU b (l.d + m.d)) (l.c + m.c) 0 with ⟨h', e'⟩ | ⟨h', e'⟩ <;> rw [e', h']
      · rw [Bool.and_eq_true, fitU_iff, fitU_iff] at h'
        rw [pick2_t, e2 (by omega)]
        omega
      · rw [pick2_f]
        omega
  · rw [Bool.and_eq_true] at hc
    have e := us_add (cstv_us (p := l.a) (q := l.b) (r := l.c) (t := l.d) hb hc.1 hl) (cstv_us (p := m.a) (q := m.b) (r := m.c) (t := m.d) hb hc.2 hm)
    rw [addL_c hc.1 hc.2, sg_us hb, sg_of_us e, e, mt_iff]
    dsimp only
    omega

end Go.Proofs.Ytcnhhgglgfaheaa
