/-
  Plain facts about the negation of a limit, and about limits that grow: no program in sight.
-/
import Derived.Test.YthkjgfehlhhcjaaNeg
namespace Go.Proofs.Ythkjgfehlhhcjaa
open Go.RowKit
set_option linter.unusedVariables false

theorem mt_1111 {b : Int} (hb : B4 b) : mt ⟨1, 1, 1, 1⟩ (sg b 1) (us b 1) = true := by rcases hb with rfl | rfl | rfl | rfl <;> decide
theorem us_neg {b x : Int} (hb : B4 b) : us b (IntKind.u64.wrap (18446744073709551615 - x + 1)) = us b (IntKind.u64.wrap (-x)) := by
  rw [u64_us, u64_us]
  congr 1
  unfold us
  rw [pw64]
  omega
/-- A negation meets the negation of the limit. -/
theorem neg_sound {b x : Int} {l : Lm} (hb : B4 b) (hf : Lm.fits b l) (hl : mt l (sg b x) (us b x) = true) :
    mt (negL b l) (sg b (IntKind.u64.wrap (-x))) (us b (IntKind.u64.wrap (-x))) = true := by
  have h := add_sound hb (com_sound hb hf hl) (mt_1111 hb)
  rw [us_neg hb, sg_of_us (us_neg hb)] at h
  exact h
theorem ok_1111 : Lm.ok ⟨1, 1, 1, 1⟩ := ⟨⟨by decide, by decide⟩, ⟨by decide, by decide⟩, ⟨by decide, by decide⟩, ⟨by decide, by decide⟩⟩
theorem negL_ok {b : Int} {l : Lm} (hb : B4 b) : (negL b l).ok := addL_ok hb (comL_ok hb) ok_1111
/-- The bounds of a sum lie on the right side of the size's own. -/
theorem addL_rng {b : Int} {l m : Lm} (hb : B4 b) (hl : l.ok) (hm : m.ok) : (addL b l m).a ≤ grt b ∧ lst b ≤ (addL b l m).b ∧ (addL b l m).c ≤ top b ∧ 0 ≤ (addL b l m).c ∧ 0 ≤ (addL b l m).d := by
  have ho := addL_ok hb hl hm
  have o1 := ho.2.2.1.1
  have o2 := ho.2.2.2.1
  obtain ⟨g1, g2⟩ := grt_bd hb
  have g5 := lst_grt b
  obtain ⟨g3, g4⟩ := top_bd hb
  refine ⟨?_, ?_, ?_, o1, o2⟩
  · unfold addL
    split
    · exact (sg_bd hb).2
    · dsimp only
      rcases pick2_or (fitB b (l.a + m.a) && fitB b (l.b + m.b)) (l.a + m.a) (-9223372036854775808) with ⟨h, e⟩ | ⟨h, e⟩ <;> rw [e]
      · rw [Bool.and_eq_true, fitB_iff, fitB_iff] at h
        omega
      · omega
  · unfold addL
    split
    · exact (sg_bd hb).1
    · dsimp only
      rcases pick2_or (fitB b (l.a + m.a) && fitB b (l.b + m.b)) (l.b + m.b) 9223372036854775807 with ⟨h, e⟩ | ⟨h, e⟩ <;> rw [e]
      · rw [Bool.and_eq_true, fitB_iff, fitB_iff] at h
        omega
      · omega
  · unfold addL
    split
    · exact (us_bd hb).2
    · dsimp only
      rcases pick2_or (fitU b (l.c + m.c) && fitU b (l.d + m.d)) (l.c + m.c) 0 with ⟨h, e⟩ | ⟨h, e⟩ <;> rw [e]
      · rw [Bool.and_eq_true, fitU_iff, fitU_iff] at h
        omega
      · omega
/-- What a limit leaves of the values of a size. -/
def cutL (b : Int) (l : Lm) : Lm := ⟨max l.a (lst b), min l.b (grt b), max l.c 0, min l.d (top b)⟩
theorem cut_fits {b : Int} {l : Lm} (hb : B4 b) (h : l.a ≤ grt b ∧ lst b ≤ l.b ∧ l.c ≤ top b ∧ 0 ≤ l.c ∧ 0 ≤ l.d) : Lm.fits b (cutL b l) := by
  obtain ⟨g1, g2⟩ := grt_bd hb
  have g5 := lst_grt b
  obtain ⟨g3, g4⟩ := top_bd hb
  unfold cutL
  refine ⟨?_, ?_, ?_, ?_⟩ <;> dsimp only
  · exact (sg_id hb (by omega) (by omega)).symm
  · exact (sg_id hb (by omega) (by omega)).symm
  · exact (us_id hb (by omega) (by omega)).symm
  · exact (us_id hb (by omega) (by omega)).symm
theorem fits_ok {b : Int} {l : Lm} (hb : B4 b) (h : Lm.fits b l) : l.ok := by
  obtain ⟨h1, h2, h3, h4⟩ := h
  refine ⟨?_, ?_, ?_, ?_⟩
  · rw [h1]; exact sg_I64 hb
  · rw [h2]; exact sg_I64 hb
  · rw [h3]; exact us_U64 hb
  · rw [h4]; exact us_U64 hb
theorem cut_mt {b x : Int} {l : Lm} (hb : B4 b) (h : mt l (sg b x) (us b x) = true) : mt (cutL b l) (sg b x) (us b x) = true := by
  have k1 := sg_bd (x := x) hb
  have k2 := us_bd (x := x) hb
  rw [mt_iff] at *
  unfold cutL
  dsimp only
  omega
theorem neg_neg_sound {b x : Int} {l : Lm} (hb : B4 b) (hx : U64 x) (hf : Lm.fits b l) (hl : mt l (sg b x) (us b x) = true) :
    mt (negL b (cutL b (negL b l))) (sg b x) (us b x) = true := by
  have h1 := cut_mt hb (neg_sound hb hf hl)
  have h2 := neg_sound hb (cut_fits hb (addL_rng hb (comL_ok hb) ok_1111)) h1
  have e : us b (IntKind.u64.wrap (-IntKind.u64.wrap (-x))) = us b x := by
    rw [u64_us, u64_us, us_mod hb]
    refine us_mod64 hb ?_
    unfold us
    rw [pw64]
    omega
  rw [e, sg_of_us e] at h2
  exact h2
theorem com_com {b : Int} {l : Lm} (hb : B4 b) (hf : Lm.fits b l) : comL b (comL b l) = l := by
  rw [comL_is (comL_fits hb), comL_is hf]
  dsimp only
  obtain ⟨a, b', c, d⟩ := l
  simp only [Lm.mk.injEq]
  omega

/-! ### Wider limits -/
def Lm.ins (l m : Lm) : Prop := m.a ≤ l.a ∧ l.b ≤ m.b ∧ m.c ≤ l.c ∧ l.d ≤ m.d
theorem com_grows {b : Int} {l m : Lm} (hl : Lm.fits b l) (hm : Lm.fits b m) (h : l.ins m) : (comL b l).ins (comL b m) := by
  obtain ⟨h1, h2, h3, h4⟩ := h
  rw [comL_is hl, comL_is hm]
  refine ⟨?_, ?_, ?_, ?_⟩ <;> dsimp only <;> omega
/-- With a wider limit in the first place a sum is as wide at least, for limits that some values meet. -/
theorem add_grows {b x y : Int} {l m k : Lm} (hb : B4 b) (hl : l.ok) (hm : m.ok) (hk : k.ok) (h : l.ins m) (hx : mt l (sg b x) (us b x) = true) (hy : mt k (sg b y) (us b y) = true) : (addL b l k).ins (addL b m k) := by
  have hxm : mt m (sg b x) (us b x) = true := by
    obtain ⟨h1, h2, h3, h4⟩ := h
    rw [mt_iff] at *
    omega
  have ho := addL_ok hb hl hk
  cases hc : (isCB l.a l.b l.c l.d && isCB k.a k.b k.c k.d)
  · cases hd : (isCB m.a m.b m.c m.d && isCB k.a k.b k.c k.d)
    · obtain ⟨h1, h2, h3, h4⟩ := h
      rw [mt_iff] at hx hy
      obtain ⟨o1, o2, o3, o4⟩ := ho
      unfold I64 at o1 o2
      unfold U64 at o3 o4
      rw [addL_n hc] at o1 o2 o3 o4 ⊢
      rw [addL_n hd]
      have p1 := pick2_or (fitB b (m.a + k.a) && fitB b (m.b + k.b)) (m.a + k.a) (-9223372036854775808)
      have p2 := pick2_or (fitU b (m.c + k.c) && fitU b (m.d + k.d)) (m.c + k.c) 0
      have c0 := hm.2.2.1.1
      have c1 := hk.2.2.1.1
      have s1 : (fitB b (m.a + k.a) && fitB b (m.b + k.b)) = true → (fitB b (l.a + k.a) && fitB b (l.b + k.b)) = true := by
        intro q
        rw [Bool.and_eq_true, fitB_iff, fitB_iff] at *
        omega
      have s2 : (fitU b (m.c + k.c) && fitU b (m.d + k.d)) = true → (fitU b (l.c + k.c) && fitU b (l.d + k.d)) = true := by
        intro q
        rw [Bool.and_eq_true, fitU_iff, fitU_iff] at *
        omega
      refine ⟨?_, ?_, ?_, ?_⟩ <;> dsimp only at *
      · rcases p1 with ⟨q, e⟩ | ⟨q, e⟩
        · rw [e, s1 q, pick2_t]; omega
        · rw [e]; omega
      · rcases p1 with ⟨q, e⟩ | ⟨q, e⟩
        · rw [q, s1 q, pick2_t, pick2_t]; omega
        · rw [q, pick2_f]; omega
      · rcases p2 with ⟨q, e⟩ | ⟨q, e⟩
        · rw [e, s2 q, pick2_t]; omega
        · rw [e]; omega
      · rcases p2 with ⟨q, e⟩ | ⟨q, e⟩
        · rw [q, s2 q, pick2_t, pick2_t]; omega
        · rw [q, pick2_f]; omega
    · exfalso
      rw [Bool.and_eq_true] at hd
      rw [hd.2, Bool.and_true] at hc
      have hd1 := hd.1
      simp only [isCB, decide_eq_true_eq, decide_eq_false_iff_not] at hd1 hc
      obtain ⟨h1, h2, h3, h4⟩ := h
      rw [mt_iff] at hx
      omega
  · rw [Bool.and_eq_true] at hc
    have e := us_add (cstv_us (p := l.a) (q := l.b) (r := l.c) (t := l.d) hb hc.1 hx) (cstv_us (p := k.a) (q := k.b) (r := k.c) (t := k.d) hb hc.2 hy)
    have hs := add_sound hb hxm hy
    rw [sg_wrap hb, us_wrap hb, mt_iff] at hs
    rw [addL_c hc.1 hc.2, sg_us hb, sg_of_us e, e]
    exact ⟨hs.1, hs.2.1, hs.2.2.1, hs.2.2.2⟩
theorem neg_grows {b x : Int} {l m : Lm} (hb : B4 b) (hl : Lm.fits b l) (hm : Lm.fits b m) (h : l.ins m) (hx : mt l (sg b x) (us b x) = true) : (negL b l).ins (negL b m) :=
  add_grows hb (comL_ok hb) (comL_ok hb) ok_1111 (com_grows hl hm h) (com_sound hb hl hx) (mt_1111 hb)
theorem addL_comm (b : Int) (l m : Lm) : addL b l m = addL b m l := by
  unfold addL
  rw [Bool.and_comm (isCB l.a l.b l.c l.d), Int.add_comm (cstv b l.a l.b l.c l.d), Int.add_comm l.a, Int.add_comm l.b, Int.add_comm l.c, Int.add_comm l.d]

end Go.Proofs.Ythkjgfehlhhcjaa
