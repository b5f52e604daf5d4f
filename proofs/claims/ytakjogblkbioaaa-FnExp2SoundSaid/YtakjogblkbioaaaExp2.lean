/-
  What Exp2 of a limit is: contracts.
-/
import Derived.Test.YtakjogblkbioaaaConv
namespace Go.Proofs.Ytakjogblkbioaaa
open Go.RowKit
set_option linter.unusedVariables false

/-- 1 shifted by a word. -/
def p2 (k : Int) : Int := IntKind.u64.wrap (2 ^ min k.toNat 64)
def exp2L (b : Int) (l : Lm) : Lm := if l.d < b then ⟨-9223372036854775808, 9223372036854775807, p2 l.c, p2 l.d⟩ else ⟨-9223372036854775808, 9223372036854775807, 0, 18446744073709551615⟩
theorem c_lexp2 (p q r t b : Int) (w : World) (x3 : U64 r) (x4 : U64 t) :
    Calls Try.prog 53 #[.agg #[.int .i64 p, .int .i64 q, .int .u64 r, .int .u64 t], .int .u64 b] w fun e w' => e = .returned (.agg #[.int .i64 (exp2L b ⟨p, q, r, t⟩).a, .int .i64 (exp2L b ⟨p, q, r, t⟩).b, .int .u64 (exp2L b ⟨p, q, r, t⟩).c, .int .u64 (exp2L b ⟨p, q, r, t⟩).d]) ∧ Up w w' := by
  obtain ⟨g1, g2⟩ := x3
  obtain ⟨g3, g4⟩ := x4
  rcases Int.lt_or_le t b with h | h
  · have e0 : exp2L b ⟨p, q, r, t⟩ = ⟨-9223372036854775808, 9223372036854775807, p2 r, p2 t⟩ := by unfold exp2L; rw [if_pos h]
    have E0 := Lib.hid e0
    clear e0
    go_enter Try.func53, Try.ntmps53
    go_wp2_with ((go_at_call 58; refine (c_noLimit _).mono ?_; rintro e w1 ⟨rfl, rfl⟩))
    refine bodyPost_ret (v := .agg #[.int .i64 (-9223372036854775808), .int .i64 9223372036854775807, .int .u64 (p2 r), .int .u64 (p2 t)]) ?_ rfl ⟨by rw [E0.out], ?_⟩
    · simp [results, Try.results53, go_sem, p2]
    · (repeat (first | exact Up.refl _ | assumption | refine Up.setCell ?_ (by first | omega | (dsimp only; omega) | simp) _ | refine Up.alloc ?_ _ | refine Up.drew ?_ | refine Up.trans ?_ (by assumption)))
  · have e0 : exp2L b ⟨p, q, r, t⟩ = ⟨-9223372036854775808, 9223372036854775807, 0, 18446744073709551615⟩ := by unfold exp2L; rw [if_neg (by dsimp only; omega)]
    have E0 := Lib.hid e0
    clear e0
    go_enter Try.func53, Try.ntmps53
    go_wp2_with ((go_at_call 58; refine (c_noLimit _).mono ?_; rintro e w1 ⟨rfl, rfl⟩))
    refine bodyPost_ret (v := .agg #[.int .i64 (-9223372036854775808), .int .i64 9223372036854775807, .int .u64 0, .int .u64 18446744073709551615]) ?_ rfl ⟨by rw [E0.out], ?_⟩
    · simp [results, Try.results53, go_sem]
    · (repeat (first | exact Up.refl _ | assumption | refine Up.setCell ?_ (by first | omega | (dsimp only; omega) | simp) _ | refine Up.alloc ?_ _ | refine Up.drew ?_ | refine Up.trans ?_ (by assumption)))
theorem c_LExp2 (p q r t b : Int) (w : World) (x3 : U64 r) (x4 : U64 t) :
    Calls Try.prog 40 #[.agg #[.int .i64 p, .int .i64 q, .int .u64 r, .int .u64 t], .int .u64 b] w fun e w' => e = .returned (.agg #[.int .i64 (exp2L b ⟨p, q, r, t⟩).a, .int .i64 (exp2L b ⟨p, q, r, t⟩).b, .int .u64 (exp2L b ⟨p, q, r, t⟩).c, .int .u64 (exp2L b ⟨p, q, r, t⟩).d]) ∧ Up w w' := by
  go_enter Try.func40, Try.ntmps40
  go_wp2_with (first | (go_at_call 49; refine (c_Lin _ _ _ _ _).mono ?_; rintro e w1 ⟨rfl, h1⟩; have c1 := h1.cells; have f1 := h1.frozens) | (go_at_call 53; refine (c_lexp2 _ _ _ _ _ _ x3 x4).mono ?_; rintro e w2 ⟨rfl, g2⟩; have h2 := Up.via h1 g2 (by (repeat (first | exact Up.refl _ | assumption | refine Up.setCell ?_ (by first | omega | (dsimp only; omega) | simp) _ | refine Up.alloc ?_ _ | refine Up.drew ?_ | refine Up.trans ?_ (by assumption)))); have c2 := h2.cells; have f2 := h2.frozens) | (go_at_call 48; refine (c_lout _ _ _ _ _).mono ?_; rintro e w3 ⟨rfl, g3⟩; have h3 := Up.via h2 g3 (by (repeat (first | exact Up.refl _ | assumption | refine Up.setCell ?_ (by first | omega | (dsimp only; omega) | simp) _ | refine Up.alloc ?_ _ | refine Up.drew ?_ | refine Up.trans ?_ (by assumption)))); have c3 := h3.cells; have f3 := h3.frozens))
  refine bodyPost_ret (v := .agg #[.int .i64 (exp2L b ⟨p, q, r, t⟩).a, .int .i64 (exp2L b ⟨p, q, r, t⟩).b, .int .u64 (exp2L b ⟨p, q, r, t⟩).c, .int .u64 (exp2L b ⟨p, q, r, t⟩).d]) ?_ rfl ⟨rfl, ?_⟩
  · simp [results, Try.results40, go_sem, c3]
  · (repeat (first | exact Up.refl _ | assumption | refine Up.setCell ?_ (by first | omega | (dsimp only; omega) | simp) _ | refine Up.alloc ?_ _ | refine Up.drew ?_ | refine Up.trans ?_ (by assumption)))
theorem c_Exp2 (p q r t b : Int) (w : World) (x3 : U64 r) (x4 : U64 t) :
    Calls Try.prog 21 #[.agg #[.int .i64 p, .int .i64 q, .int .u64 r, .int .u64 t], .int .u64 b] w fun e w' => e = .returned (.agg #[.int .i64 (exp2L b ⟨p, q, r, t⟩).a, .int .i64 (exp2L b ⟨p, q, r, t⟩).b, .int .u64 (exp2L b ⟨p, q, r, t⟩).c, .int .u64 (exp2L b ⟨p, q, r, t⟩).d]) ∧ Up w w' := by
  go_enter Try.func21, Try.ntmps21
  go_wp2_with (first | (go_at_call 34; refine (c_in _ _ _ _ _).mono ?_; rintro e w1 ⟨rfl, h1⟩; have c1 := h1.cells; have f1 := h1.frozens) | (go_at_call 40; refine (c_LExp2 _ _ _ _ _ _ x3 x4).mono ?_; rintro e w2 ⟨rfl, g2⟩; have h2 := Up.via h1 g2 (by (repeat (first | exact Up.refl _ | assumption | refine Up.setCell ?_ (by first | omega | (dsimp only; omega) | simp) _ | refine Up.alloc ?_ _ | refine Up.drew ?_ | refine Up.trans ?_ (by assumption)))); have c2 := h2.cells; have f2 := h2.frozens) | (go_at_call 31; refine (c_out _ _ _ _ _).mono ?_; rintro e w3 ⟨rfl, g3⟩; have h3 := Up.via h2 g3 (by (repeat (first | exact Up.refl _ | assumption | refine Up.setCell ?_ (by first | omega | (dsimp only; omega) | simp) _ | refine Up.alloc ?_ _ | refine Up.drew ?_ | refine Up.trans ?_ (by assumption)))); have c3 := h3.cells; have f3 := h3.frozens))
  refine bodyPost_ret (v := .agg #[.int .i64 (exp2L b ⟨p, q, r, t⟩).a, .int .i64 (exp2L b ⟨p, q, r, t⟩).b, .int .u64 (exp2L b ⟨p, q, r, t⟩).c, .int .u64 (exp2L b ⟨p, q, r, t⟩).d]) ?_ rfl ⟨rfl, ?_⟩
  · simp [results, Try.results21, go_sem, c3]
  · (repeat (first | exact Up.refl _ | assumption | refine Up.setCell ?_ (by first | omega | (dsimp only; omega) | simp) _ | refine Up.alloc ?_ _ | refine Up.drew ?_ | refine Up.trans ?_ (by assumption)))

end Go.Proofs.Ytakjogblkbioaaa
