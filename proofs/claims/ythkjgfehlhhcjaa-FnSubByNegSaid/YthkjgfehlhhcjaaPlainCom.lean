/-
  Plain facts about the complement of a limit: no program in sight.
-/
import Derived.Test.YthkjgfehlhhcjaaCom
import Derived.Test.YthkjgfehlhhcjaaPlain
namespace Go.Proofs.Ythkjgfehlhhcjaa
open Go.RowKit
set_option linter.unusedVariables false

/-- The complement of a word, read both ways. -/
theorem us_com {b x : Int} (hb : B4 b) : us b (18446744073709551615 - x) = top b - us b x := by
  unfold top us
  rcases hb with rfl | rfl | rfl | rfl
  · rw [pw8]; omega
  · rw [pw16]; omega
  · rw [pw32]; omega
  · rw [pw64]; omega
theorem sg_com {b x : Int} (hb : B4 b) : sg b (18446744073709551615 - x) = -1 - sg b x := by
  unfold sg
  rw [us_com hb]
  have h := us_bd (x := x) hb
  unfold top at *
  rcases hb with rfl | rfl | rfl | rfl
  · rw [pw8] at *; split <;> split <;> omega
  · rw [pw16] at *; split <;> split <;> omega
  · rw [pw32] at *; split <;> split <;> omega
  · rw [pw64] at *; split <;> split <;> omega
theorem xor_top {x : Int} (h : U64 x) : bits BinOp.xor IntKind.u64 IntKind.u64.max x = 18446744073709551615 - x := com_u64 x h
theorem com_U64 {x : Int} (h : U64 x) : U64 (18446744073709551615 - x) := by
  have h1 := h.1
  have h2 := h.2
  exact ⟨by omega, by omega⟩
theorem com_one {b x : Int} (hb : B4 b) : comL b ⟨sg b x, sg b x, us b x, us b x⟩ =
    ⟨sg b (18446744073709551615 - x), sg b (18446744073709551615 - x), us b (18446744073709551615 - x), us b (18446744073709551615 - x)⟩ := by
  unfold comL
  rw [sg_com hb, us_com hb, sg_sg hb, us_us hb]
/-- A complement meets the complement of the limit. -/
theorem com_sound {b x : Int} {l : Lm} (hb : B4 b) (hf : l.a = sg b l.a ∧ l.b = sg b l.b ∧ l.c = us b l.c ∧ l.d = us b l.d) (hl : mt l (sg b x) (us b x) = true) :
    mt (comL b l) (sg b (18446744073709551615 - x)) (us b (18446744073709551615 - x)) = true := by
  rw [mt_iff] at *
  rw [sg_com hb, us_com hb]
  unfold comL
  dsimp only
  omega
/-- Bounds of so many bits. -/
def Lm.fits (b : Int) (l : Lm) : Prop := l.a = sg b l.a ∧ l.b = sg b l.b ∧ l.c = us b l.c ∧ l.d = us b l.d
theorem fit_fits {b p q r t : Int} (hb : B4 b) : Lm.fits b ⟨sg b p, sg b q, us b r, us b t⟩ := ⟨(sg_sg hb).symm, (sg_sg hb).symm, (us_us hb).symm, (us_us hb).symm⟩
theorem ok_fits {l : Lm} (h : l.ok) : Lm.fits 64 l := ⟨(sg64 h.1).symm, (sg64 h.2.1).symm, (us64 h.2.2.1).symm, (us64 h.2.2.2).symm⟩
theorem comL_is {b : Int} {l : Lm} (h : Lm.fits b l) : comL b l = ⟨-1 - l.b, -1 - l.a, top b - l.d, top b - l.c⟩ := by
  obtain ⟨h1, h2, h3, h4⟩ := h
  unfold comL
  rw [← h1, ← h2, ← h3, ← h4]
theorem comL_ok {b : Int} {l : Lm} (hb : B4 b) : (comL b l).ok := by
  obtain ⟨g1, g2⟩ := grt_bd hb
  obtain ⟨g3, g4⟩ := top_bd hb
  have g5 := lst_grt b
  have k1 := sg_bd (x := l.a) hb
  have k2 := sg_bd (x := l.b) hb
  have k3 := us_bd (x := l.c) hb
  have k4 := us_bd (x := l.d) hb
  unfold comL
  exact ⟨⟨by dsimp only; omega, by dsimp only; omega⟩, ⟨by dsimp only; omega, by dsimp only; omega⟩, ⟨by dsimp only; omega, by dsimp only; omega⟩, ⟨by dsimp only; omega, by dsimp only; omega⟩⟩
theorem comL_fits {b : Int} {l : Lm} (hb : B4 b) : Lm.fits b (comL b l) := by
  have k1 := sg_bd (x := l.a) hb
  have k2 := sg_bd (x := l.b) hb
  have k3 := us_bd (x := l.c) hb
  have k4 := us_bd (x := l.d) hb
  have g5 := lst_grt b
  unfold comL
  refine ⟨?_, ?_, ?_, ?_⟩ <;> dsimp only
  · exact (sg_id hb (by omega) (by omega)).symm
  · exact (sg_id hb (by omega) (by omega)).symm
  · exact (us_id hb (by omega) (by omega)).symm
  · exact (us_id hb (by omega) (by omega)).symm

end Go.Proofs.Ythkjgfehlhhcjaa
