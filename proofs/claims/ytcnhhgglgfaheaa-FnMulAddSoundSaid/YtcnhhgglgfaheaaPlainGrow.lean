/-
  Plain facts: wider limits have wider differences and products; a product and a sum. No program in sight.
-/
import Derived.Test.YtcnhhgglgfaheaaPlainSub
import Derived.Test.YtcnhhgglgfaheaaPlainMul
namespace Go.Proofs.Ytcnhhgglgfaheaa
open Go.RowKit
set_option linter.unusedVariables false

/-- One limit lies within another. -/
def insL (l m : Lm) : Prop := m.a ≤ l.a ∧ l.b ≤ m.b ∧ m.c ≤ l.c ∧ l.d ≤ m.d
theorem subL_ok {b : Int} {l m : Lm} (hb : B4 b) (hl : l.ok) (hm : m.ok) : (subL b l m).ok := by
  obtain ⟨g1, g2⟩ := grt_bd hb
  obtain ⟨g3, g4⟩ := top_bd hb
  have g5 := lst_grt b
  unfold subL
  refine ⟨?_, ?_, ?_, ?_⟩
  · dsimp only
    rcases pick2_or (fitB b (l.a - m.b) && fitB b (l.b - m.a)) (l.a - m.b) (-9223372036854775808) with ⟨h, e⟩ | ⟨h, e⟩ <;> rw [e]
    · rw [Bool.and_eq_true, fitB_iff, fitB_iff] at h
      exact ⟨by omega, by omega⟩
    · exact ⟨by decide, by decide⟩
  · dsimp only
    rcases pick2_or (fitB b (l.a - m.b) && fitB b (l.b - m.a)) (l.b - m.a) 9223372036854775807 with ⟨h, e⟩ | ⟨h, e⟩ <;> rw [e]
    · rw [Bool.and_eq_true, fitB_iff, fitB_iff] at h
      exact ⟨by omega, by omega⟩
    · exact ⟨by decide, by decide⟩
  · dsimp only
    rcases pick2_or (subU b l.c m.d && subU b l.d m.c) (l.c - m.d) 0 with ⟨h, e⟩ | ⟨h, e⟩ <;> rw [e]
    · rw [Bool.and_eq_true, subU_iff, subU_iff] at h
      exact ⟨by omega, by omega⟩
    · exact ⟨by decide, by decide⟩
  · dsimp only
    rcases pick2_or (subU b l.c m.d && subU b l.d m.c) (l.d - m.c) 18446744073709551615 with ⟨h, e⟩ | ⟨h, e⟩ <;> rw [e]
    · rw [Bool.and_eq_true, subU_iff, subU_iff] at h
      exact ⟨by omega, by omega⟩
    · exact ⟨by decide, by decide⟩
theorem sub_grows {b : Int} {l m k n : Lm} (hb : B4 b) (hl : l.ok) (hm : m.ok) (hk : k.ok) (hn : n.ok) (h : insL l m) (h' : insL k n) (wl : l.a ≤ l.b ∧ l.c ≤ l.d) (wk : k.a ≤ k.b ∧ k.c ≤ k.d) : insL (subL b l k) (subL b m n) := by
  obtain ⟨o1, o2, o3, o4⟩ := subL_ok hb hl hk
  unfold I64 at o1 o2
  unfold U64 at o3 o4
  obtain ⟨h1, h2, h3, h4⟩ := h
  obtain ⟨q1, q2, q3, q4⟩ := h'
  unfold subL at *
  dsimp only at *
  have p1 := pick2_or (fitB b (m.a - n.b) && fitB b (m.b - n.a)) (m.a - n.b) (-9223372036854775808)
  have p2 := pick2_or (subU b m.c n.d && subU b m.d n.c) (m.c - n.d) 0
  have s1 : (fitB b (m.a - n.b) && fitB b (m.b - n.a)) = true → (fitB b (l.a - k.b) && fitB b (l.b - k.a)) = true := by
    intro q
    rw [Bool.and_eq_true, fitB_iff, fitB_iff] at *
    omega
  have s2 : (subU b m.c n.d && subU b m.d n.c) = true → (subU b l.c k.d && subU b l.d k.c) = true := by
    intro q
    rw [Bool.and_eq_true, subU_iff, subU_iff] at *
    omega
  refine ⟨?_, ?_, ?_, ?_⟩ <;> dsimp only at *
  · rcases p1 with ⟨q, e⟩ | ⟨q, e⟩
    · rw [e, s1 q, pick2_t]; omega
    · rw [e]; omega
  · rcases p1 with ⟨q, e⟩ | ⟨q, e⟩
    · rw [q, s1 q, pick2_t, pick2_t]; omega
    · rw [q, pick2_f]; omega
  · rcases p2 with ⟨q, e⟩ | ⟨q, e⟩
    · rw [e, s2 q, pick2_t]; omega
    · rw [e]; omega
  · rcases p2 with ⟨q, e⟩ | ⟨q, e⟩
    · rw [q, s2 q, pick2_t, pick2_t]; omega
    · rw [q, pick2_f]; omega
theorem ins_refl (l : Lm) : insL l l := ⟨Int.le_refl _, Int.le_refl _, Int.le_refl _, Int.le_refl _⟩
theorem mt_whole {l : Lm} {s u : Int} (h : mt l s u = true) : l.a ≤ l.b ∧ l.c ≤ l.d := by rw [mt_iff] at h; omega
theorem mulL_ok {b : Int} {l m : Lm} (hb : B4 b) (hl : l.ok) (hm : m.ok) : (mulL b l m).ok := by
  have g := top_bd hb
  have p : 0 ≤ l.d * m.d := Int.mul_nonneg hl.2.2.2.1 hm.2.2.2.1
  by_cases h : l.d * m.d ≤ top b
  · rw [mulL_t h]
    exact ⟨⟨by dsimp only; omega, by dsimp only; omega⟩, ⟨by dsimp only; omega, by dsimp only; omega⟩, wrap_U64 _, ⟨p, by dsimp only; omega⟩⟩
  · rw [mulL_f h]
    exact ⟨⟨by decide, by decide⟩, ⟨by decide, by decide⟩, ⟨by decide, by decide⟩, ⟨by decide, by decide⟩⟩
theorem mul_grows {b : Int} {l m k : Lm} (hb : B4 b) (hl : l.ok) (hm : m.ok) (hk : k.ok) (h : insL l m) (wl : l.a ≤ l.b ∧ l.c ≤ l.d) (wk : k.a ≤ k.b ∧ k.c ≤ k.d) : insL (mulL b l k) (mulL b m k) := by
  obtain ⟨o1, o2, o3, o4⟩ := mulL_ok hb hl hk
  unfold I64 at o1 o2
  unfold U64 at o3 o4
  have g := top_bd hb
  obtain ⟨h1, h2, h3, h4⟩ := h
  have c1 := hl.2.2.1.1
  have c2 := hm.2.2.1.1
  have c3 := hk.2.2.1.1
  have d3 := hk.2.2.2.1
  have p1 : l.d * k.d ≤ m.d * k.d := Int.mul_le_mul_of_nonneg_right h4 d3
  have p2 : l.c * k.c ≤ l.d * k.d := Int.mul_le_mul wl.2 wk.2 c3 (by omega)
  have p3 : m.c * k.c ≤ l.c * k.c := Int.mul_le_mul_of_nonneg_right h3 c3
  have p4 : 0 ≤ m.c * k.c := Int.mul_nonneg c2 c3
  by_cases hq : m.d * k.d ≤ top b
  · have e1 : IntKind.u64.wrap (l.c * k.c) = l.c * k.c := by rw [u64_us, us64 ⟨by omega, by omega⟩]
    have e2 : IntKind.u64.wrap (m.c * k.c) = m.c * k.c := by rw [u64_us, us64 ⟨by omega, by omega⟩]
    rw [mulL_t hq, mulL_t (show l.d * k.d ≤ top b by omega), e1, e2]
    exact ⟨Int.le_refl _, Int.le_refl _, p3, p1⟩
  · rw [mulL_f hq]
    refine ⟨?_, ?_, ?_, ?_⟩ <;> dsimp only <;> omega
/-- What a limit leaves of the values of a size. -/
def cutM (b : Int) (l : Lm) : Lm := ⟨max l.a (lst b), min l.b (grt b), max l.c 0, min l.d (top b)⟩
theorem cutM_mt {b x : Int} {l : Lm} (hb : B4 b) (h : mt l (sg b x) (us b x) = true) : mt (cutM b l) (sg b x) (us b x) = true := by
  have k1 := sg_bd (x := x) hb
  have k2 := us_bd (x := x) hb
  rw [mt_iff] at *
  unfold cutM
  dsimp only
  omega
theorem cutM_ok {b : Int} {l : Lm} (hb : B4 b) (h : l.ok) : (cutM b l).ok := by
  obtain ⟨g1, g2⟩ := grt_bd hb
  obtain ⟨g3, g4⟩ := top_bd hb
  have g5 := lst_grt b
  obtain ⟨⟨o1, o2⟩, ⟨o3, o4⟩, ⟨o5, o6⟩, ⟨o7, o8⟩⟩ := h
  unfold cutM
  exact ⟨⟨by dsimp only; omega, by dsimp only; omega⟩, ⟨by dsimp only; omega, by dsimp only; omega⟩, ⟨by dsimp only; omega, by dsimp only; omega⟩, ⟨by dsimp only; omega, by dsimp only; omega⟩⟩
theorem muladd_sound {b x y z : Int} {l m k : Lm} (hb : B4 b) (hL : UU l) (hM : UU m) (hl : mt l (sg b x) (us b x) = true) (hm : mt m (sg b y) (us b y) = true) (hk : mt k (sg b z) (us b z) = true) :
    mt (addL b (cutM b (mulL b l m)) k) (sg b (IntKind.u64.wrap (IntKind.u64.wrap (x * y) + z))) (us b (IntKind.u64.wrap (IntKind.u64.wrap (x * y) + z))) = true :=
  add_sound hb (cutM_mt hb (mul_sound hb hL hM hl hm)) hk
theorem fit_ok {b p q r t : Int} (hb : B4 b) : Lm.ok ⟨sg b p, sg b q, us b r, us b t⟩ := ⟨sg_I64 hb, sg_I64 hb, us_U64 hb, us_U64 hb⟩

end Go.Proofs.Ytcnhhgglgfaheaa
