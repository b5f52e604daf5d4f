/-
  What a negation of a limit is: contracts.
-/
import Derived.Test.YthkjgfehlhhcjaaAdd
import Derived.Test.YthkjgfehlhhcjaaPlainCom
import Derived.Test.YthkjgfehlhhcjaaPlainAdd
namespace Go.Proofs.Ythkjgfehlhhcjaa
open Go.RowKit
set_option linter.unusedVariables false

/-- The negation of a limit, as neg makes it. -/
def negL (b : Int) (l : Lm) : Lm := addL b (comL b l) ⟨1, 1, 1, 1⟩
theorem c_lneg (p q r t b : Int) (w : World) (hb : B4 b) (x1 : I64 p) (x2 : I64 q) (x3 : U64 r) (x4 : U64 t) :
    Calls Try.prog 38 #[.agg #[.int .i64 p, .int .i64 q, .int .u64 r, .int .u64 t], .int .u64 b] w fun e w' => e = .returned (.agg #[.int .i64 (negL b ⟨p, q, r, t⟩).a, .int .i64 (negL b ⟨p, q, r, t⟩).b, .int .u64 (negL b ⟨p, q, r, t⟩).c, .int .u64 (negL b ⟨p, q, r, t⟩).d]) ∧ Up w w' := by
  have ho := comL_ok (l := ⟨p, q, r, t⟩) hb
  have HO := Lib.hid ho
  clear ho
  have H := Lib.hid hb
  clear hb
  go_enter Try.func38, Try.ntmps38
  go_wp2_with (first | (go_at_call 37; refine (c_lcom _ _ _ _ _ _ H.out x1 x2 x3 x4).mono ?_; rintro e w1 ⟨rfl, h1⟩; have c1 := h1.cells; have f1 := h1.frozens) | (go_at_call 33; refine (c_ladd _ _ _ _ _ _ _ _ _ _ H.out HO.out.1 HO.out.2.1 HO.out.2.2.1 HO.out.2.2.2 ⟨by decide, by decide⟩ ⟨by decide, by decide⟩ ⟨by decide, by decide⟩ ⟨by decide, by decide⟩).mono ?_; rintro e w2 ⟨rfl, g2⟩; have h2 := Up.via h1 g2 (by (repeat (first | exact Up.refl _ | assumption | refine Up.setCell ?_ (by first | omega | (dsimp only; omega) | simp) _ | refine Up.alloc ?_ _ | refine Up.drew ?_ | refine Up.trans ?_ (by assumption)))); have c2 := h2.cells; have f2 := h2.frozens))
  refine bodyPost_ret (v := .agg #[.int .i64 (negL b ⟨p, q, r, t⟩).a, .int .i64 (negL b ⟨p, q, r, t⟩).b, .int .u64 (negL b ⟨p, q, r, t⟩).c, .int .u64 (negL b ⟨p, q, r, t⟩).d]) ?_ rfl ⟨rfl, ?_⟩
  · simp [results, Try.results38, go_sem, c2, negL]
  · (repeat (first | exact Up.refl _ | assumption | refine Up.setCell ?_ (by first | omega | (dsimp only; omega) | simp) _ | refine Up.alloc ?_ _ | refine Up.drew ?_ | refine Up.trans ?_ (by assumption)))
theorem c_LNeg (p q r t b : Int) (w : World) (hb : B4 b) (x1 : I64 p) (x2 : I64 q) (x3 : U64 r) (x4 : U64 t) :
    Calls Try.prog 29 #[.agg #[.int .i64 p, .int .i64 q, .int .u64 r, .int .u64 t], .int .u64 b] w fun e w' => e = .returned (.agg #[.int .i64 (negL b ⟨p, q, r, t⟩).a, .int .i64 (negL b ⟨p, q, r, t⟩).b, .int .u64 (negL b ⟨p, q, r, t⟩).c, .int .u64 (negL b ⟨p, q, r, t⟩).d]) ∧ Up w w' := by
  have H := Lib.hid hb
  clear hb
  go_enter Try.func29, Try.ntmps29
  go_wp2_with (first | (go_at_call 32; refine (c_Lin _ _ _ _ _).mono ?_; rintro e w1 ⟨rfl, h1⟩; have c1 := h1.cells; have f1 := h1.frozens) | (go_at_call 38; refine (c_lneg _ _ _ _ _ _ H.out x1 x2 x3 x4).mono ?_; rintro e w2 ⟨rfl, g2⟩; have h2 := Up.via h1 g2 (by (repeat (first | exact Up.refl _ | assumption | refine Up.setCell ?_ (by first | omega | (dsimp only; omega) | simp) _ | refine Up.alloc ?_ _ | refine Up.drew ?_ | refine Up.trans ?_ (by assumption)))); have c2 := h2.cells; have f2 := h2.frozens) | (go_at_call 34; refine (c_lout _ _ _ _ _).mono ?_; rintro e w3 ⟨rfl, g3⟩; have h3 := Up.via h2 g3 (by (repeat (first | exact Up.refl _ | assumption | refine Up.setCell ?_ (by first | omega | (dsimp only; omega) | simp) _ | refine Up.alloc ?_ _ | refine Up.drew ?_ | refine Up.trans ?_ (by assumption)))); have c3 := h3.cells; have f3 := h3.frozens))
  refine bodyPost_ret (v := .agg #[.int .i64 (negL b ⟨p, q, r, t⟩).a, .int .i64 (negL b ⟨p, q, r, t⟩).b, .int .u64 (negL b ⟨p, q, r, t⟩).c, .int .u64 (negL b ⟨p, q, r, t⟩).d]) ?_ rfl ⟨rfl, ?_⟩
  · simp [results, Try.results29, go_sem, c3]
  · (repeat (first | exact Up.refl _ | assumption | refine Up.setCell ?_ (by first | omega | (dsimp only; omega) | simp) _ | refine Up.alloc ?_ _ | refine Up.drew ?_ | refine Up.trans ?_ (by assumption)))
theorem c_Neg (p q r t b : Int) (w : World) (hb : B4 b) (x1 : I64 p) (x2 : I64 q) (x3 : U64 r) (x4 : U64 t) :
    Calls Try.prog 13 #[.agg #[.int .i64 p, .int .i64 q, .int .u64 r, .int .u64 t], .int .u64 b] w fun e w' => e = .returned (.agg #[.int .i64 (negL b ⟨p, q, r, t⟩).a, .int .i64 (negL b ⟨p, q, r, t⟩).b, .int .u64 (negL b ⟨p, q, r, t⟩).c, .int .u64 (negL b ⟨p, q, r, t⟩).d]) ∧ Up w w' := by
  have H := Lib.hid hb
  clear hb
  go_enter Try.func13, Try.ntmps13
  go_wp2_with (first | (go_at_call 24; refine (c_in _ _ _ _ _).mono ?_; rintro e w1 ⟨rfl, h1⟩; have c1 := h1.cells; have f1 := h1.frozens) | (go_at_call 29; refine (c_LNeg _ _ _ _ _ _ H.out x1 x2 x3 x4).mono ?_; rintro e w2 ⟨rfl, g2⟩; have h2 := Up.via h1 g2 (by (repeat (first | exact Up.refl _ | assumption | refine Up.setCell ?_ (by first | omega | (dsimp only; omega) | simp) _ | refine Up.alloc ?_ _ | refine Up.drew ?_ | refine Up.trans ?_ (by assumption)))); have c2 := h2.cells; have f2 := h2.frozens) | (go_at_call 23; refine (c_out _ _ _ _ _).mono ?_; rintro e w3 ⟨rfl, g3⟩; have h3 := Up.via h2 g3 (by (repeat (first | exact Up.refl _ | assumption | refine Up.setCell ?_ (by first | omega | (dsimp only; omega) | simp) _ | refine Up.alloc ?_ _ | refine Up.drew ?_ | refine Up.trans ?_ (by assumption)))); have c3 := h3.cells; have f3 := h3.frozens))
  refine bodyPost_ret (v := .agg #[.int .i64 (negL b ⟨p, q, r, t⟩).a, .int .i64 (negL b ⟨p, q, r, t⟩).b, .int .u64 (negL b ⟨p, q, r, t⟩).c, .int .u64 (negL b ⟨p, q, r, t⟩).d]) ?_ rfl ⟨rfl, ?_⟩
  · simp [results, Try.results13, go_sem, c3]
  · (repeat (first | exact Up.refl _ | assumption | refine Up.setCell ?_ (by first | omega | (dsimp only; omega) | simp) _ | refine Up.alloc ?_ _ | refine Up.drew ?_ | refine Up.trans ?_ (by assumption)))

end Go.Proofs.Ythkjgfehlhhcjaa
