/-
  What bounds that are added to a limit, and an intersection, give: contracts, one a function.
-/
import Derived.Test.YtlophbgeclojdaaConv
namespace Go.Proofs.Ytlophbgeclojdaa
open Go.RowKit
set_option linter.unusedVariables false

theorem c_lsignedMin (p q r t n : Int) (w : World) :
    Calls Try.prog 45 #[.agg #[.int .i64 p, .int .i64 q, .int .u64 r, .int .u64 t], .int .i64 n] w fun e w' => e = .returned (.agg #[.int .i64 (max p n), .int .i64 q, .int .u64 r, .int .u64 t]) ∧ Up w w' := by
  go_enter Try.func45, Try.ntmps45
  go_wp2
  all_goals
    refine bodyPost_ret (v := .agg #[.int .i64 (max p n), .int .i64 q, .int .u64 r, .int .u64 t]) ?_ rfl ⟨rfl, ?_⟩
    · first | (simp [results, Try.results45, go_sem]; done) | (simp [results, Try.results45, go_sem]; omega)
    · (repeat (first | exact Up.refl _ | assumption | refine Up.setCell ?_ (by first | omega | (dsimp only; omega) | simp) _ | refine Up.alloc ?_ _ | refine Up.drew ?_ | refine Up.trans ?_ (by assumption)))
theorem c_LSignedMin (p q r t n : Int) (w : World) :
    Calls Try.prog 35 #[.agg #[.int .i64 p, .int .i64 q, .int .u64 r, .int .u64 t], .int .i64 n] w fun e w' => e = .returned (.agg #[.int .i64 (max p n), .int .i64 q, .int .u64 r, .int .u64 t]) ∧ Up w w' := by
  go_enter Try.func35, Try.ntmps35
  go_wp2_with (first | (go_at_call 41; refine (c_Lin _ _ _ _ _).mono ?_; rintro e w1 ⟨rfl, h1⟩; have c1 := h1.cells; have f1 := h1.frozens) | (go_at_call 45; refine (c_lsignedMin _ _ _ _ _ _).mono ?_; rintro e w2 ⟨rfl, g2⟩; have h2 := Up.via h1 g2 (by (repeat (first | exact Up.refl _ | assumption | refine Up.setCell ?_ (by first | omega | (dsimp only; omega) | simp) _ | refine Up.alloc ?_ _ | refine Up.drew ?_ | refine Up.trans ?_ (by assumption)))); have c2 := h2.cells; have f2 := h2.frozens) | (go_at_call 43; refine (c_lout _ _ _ _ _).mono ?_; rintro e w3 ⟨rfl, g3⟩; have h3 := Up.via h2 g3 (by (repeat (first | exact Up.refl _ | assumption | refine Up.setCell ?_ (by first | omega | (dsimp only; omega) | simp) _ | refine Up.alloc ?_ _ | refine Up.drew ?_ | refine Up.trans ?_ (by assumption)))); have c3 := h3.cells; have f3 := h3.frozens))
  refine bodyPost_ret (v := .agg #[.int .i64 (max p n), .int .i64 q, .int .u64 r, .int .u64 t]) ?_ rfl ⟨rfl, ?_⟩
  · simp [results, Try.results35, go_sem, c3]
  · (repeat (first | exact Up.refl _ | assumption | refine Up.setCell ?_ (by first | omega | (dsimp only; omega) | simp) _ | refine Up.alloc ?_ _ | refine Up.drew ?_ | refine Up.trans ?_ (by assumption)))
theorem c_SignedMin (p q r t n : Int) (w : World) :
    Calls Try.prog 22 #[.agg #[.int .i64 p, .int .i64 q, .int .u64 r, .int .u64 t], .int .i64 n] w fun e w' => e = .returned (.agg #[.int .i64 (max p n), .int .i64 q, .int .u64 r, .int .u64 t]) ∧ Up w w' := by
  go_enter Try.func22, Try.ntmps22
  go_wp2_with (first | (go_at_call 32; refine (c_in _ _ _ _ _).mono ?_; rintro e w1 ⟨rfl, h1⟩; have c1 := h1.cells; have f1 := h1.frozens) | (go_at_call 35; refine (c_LSignedMin _ _ _ _ _ _).mono ?_; rintro e w2 ⟨rfl, g2⟩; have h2 := Up.via h1 g2 (by (repeat (first | exact Up.refl _ | assumption | refine Up.setCell ?_ (by first | omega | (dsimp only; omega) | simp) _ | refine Up.alloc ?_ _ | refine Up.drew ?_ | refine Up.trans ?_ (by assumption)))); have c2 := h2.cells; have f2 := h2.frozens) | (go_at_call 31; refine (c_out _ _ _ _ _).mono ?_; rintro e w3 ⟨rfl, g3⟩; have h3 := Up.via h2 g3 (by (repeat (first | exact Up.refl _ | assumption | refine Up.setCell ?_ (by first | omega | (dsimp only; omega) | simp) _ | refine Up.alloc ?_ _ | refine Up.drew ?_ | refine Up.trans ?_ (by assumption)))); have c3 := h3.cells; have f3 := h3.frozens))
  refine bodyPost_ret (v := .agg #[.int .i64 (max p n), .int .i64 q, .int .u64 r, .int .u64 t]) ?_ rfl ⟨rfl, ?_⟩
  · simp [results, Try.results22, go_sem, c3]
  · (repeat (first | exact Up.refl _ | assumption | refine Up.setCell ?_ (by first | omega | (dsimp only; omega) | simp) _ | refine Up.alloc ?_ _ | refine Up.drew ?_ | refine Up.trans ?_ (by assumption)))
theorem c_lsignedMinMax (p q r t n m : Int) (w : World) :
    Calls Try.prog 48 #[.agg #[.int .i64 p, .int .i64 q, .int .u64 r, .int .u64 t], .int .i64 n, .int .i64 m] w fun e w' => e = .returned (.agg #[.int .i64 (max p n), .int .i64 (min q m), .int .u64 r, .int .u64 t]) ∧ Up w w' := by
  go_enter Try.func48, Try.ntmps48
  go_wp2
  all_goals
    refine bodyPost_ret (v := .agg #[.int .i64 (max p n), .int .i64 (min q m), .int .u64 r, .int .u64 t]) ?_ rfl ⟨rfl, ?_⟩
    · first | (simp [results, Try.results48, go_sem]; done) | (simp [results, Try.results48, go_sem]; omega)
    · (repeat (first | exact Up.refl _ | assumption | refine Up.setCell ?_ (by first | omega | (dsimp only; omega) | simp) _ | refine Up.alloc ?_ _ | refine Up.drew ?_ | refine Up.trans ?_ (by assumption)))
theorem c_LSignedMinMax (p q r t n m : Int) (w : World) :
    Calls Try.prog 38 #[.agg #[.int .i64 p, .int .i64 q, .int .u64 r, .int .u64 t], .int .i64 n, .int .i64 m] w fun e w' => e = .returned (.agg #[.int .i64 (max p n), .int .i64 (min q m), .int .u64 r, .int .u64 t]) ∧ Up w w' := by
  go_enter Try.func38, Try.ntmps38
  go_wp2_with (first | (go_at_call 41; refine (c_Lin _ _ _ _ _).mono ?_; rintro e w1 ⟨rfl, h1⟩; have c1 := h1.cells; have f1 := h1.frozens) | (go_at_call 48; refine (c_lsignedMinMax _ _ _ _ _ _ _).mono ?_; rintro e w2 ⟨rfl, g2⟩; have h2 := Up.via h1 g2 (by (repeat (first | exact Up.refl _ | assumption | refine Up.setCell ?_ (by first | omega | (dsimp only; omega) | simp) _ | refine Up.alloc ?_ _ | refine Up.drew ?_ | refine Up.trans ?_ (by assumption)))); have c2 := h2.cells; have f2 := h2.frozens) | (go_at_call 43; refine (c_lout _ _ _ _ _).mono ?_; rintro e w3 ⟨rfl, g3⟩; have h3 := Up.via h2 g3 (by (repeat (first | exact Up.refl _ | assumption | refine Up.setCell ?_ (by first | omega | (dsimp only; omega) | simp) _ | refine Up.alloc ?_ _ | refine Up.drew ?_ | refine Up.trans ?_ (by assumption)))); have c3 := h3.cells; have f3 := h3.frozens))
  refine bodyPost_ret (v := .agg #[.int .i64 (max p n), .int .i64 (min q m), .int .u64 r, .int .u64 t]) ?_ rfl ⟨rfl, ?_⟩
  · simp [results, Try.results38, go_sem, c3]
  · (repeat (first | exact Up.refl _ | assumption | refine Up.setCell ?_ (by first | omega | (dsimp only; omega) | simp) _ | refine Up.alloc ?_ _ | refine Up.drew ?_ | refine Up.trans ?_ (by assumption)))
theorem c_SignedMinMax (p q r t n m : Int) (w : World) :
    Calls Try.prog 25 #[.agg #[.int .i64 p, .int .i64 q, .int .u64 r, .int .u64 t], .int .i64 n, .int .i64 m] w fun e w' => e = .returned (.agg #[.int .i64 (max p n), .int .i64 (min q m), .int .u64 r, .int .u64 t]) ∧ Up w w' := by
  go_enter Try.func25, Try.ntmps25
  go_wp2_with (first | (go_at_call 32; refine (c_in _ _ _ _ _).mono ?_; rintro e w1 ⟨rfl, h1⟩; have c1 := h1.cells; have f1 := h1.frozens) | (go_at_call 38; refine (c_LSignedMinMax _ _ _ _ _ _ _).mono ?_; rintro e w2 ⟨rfl, g2⟩; have h2 := Up.via h1 g2 (by (repeat (first | exact Up.refl _ | assumption | refine Up.setCell ?_ (by first | omega | (dsimp only; omega) | simp) _ | refine Up.alloc ?_ _ | refine Up.drew ?_ | refine Up.trans ?_ (by assumption)))); have c2 := h2.cells; have f2 := h2.frozens) | (go_at_call 31; refine (c_out _ _ _ _ _).mono ?_; rintro e w3 ⟨rfl, g3⟩; have h3 := Up.via h2 g3 (by (repeat (first | exact Up.refl _ | assumption | refine Up.setCell ?_ (by first | omega | (dsimp only; omega) | simp) _ | refine Up.alloc ?_ _ | refine Up.drew ?_ | refine Up.trans ?_ (by assumption)))); have c3 := h3.cells; have f3 := h3.frozens))
  refine bodyPost_ret (v := .agg #[.int .i64 (max p n), .int .i64 (min q m), .int .u64 r, .int .u64 t]) ?_ rfl ⟨rfl, ?_⟩
  · simp [results, Try.results25, go_sem, c3]
  · (repeat (first | exact Up.refl _ | assumption | refine Up.setCell ?_ (by first | omega | (dsimp only; omega) | simp) _ | refine Up.alloc ?_ _ | refine Up.drew ?_ | refine Up.trans ?_ (by assumption)))
theorem c_lunsignedMin (p q r t n : Int) (w : World) :
    Calls Try.prog 47 #[.agg #[.int .i64 p, .int .i64 q, .int .u64 r, .int .u64 t], .int .u64 n] w fun e w' => e = .returned (.agg #[.int .i64 p, .int .i64 q, .int .u64 (max r n), .int .u64 t]) ∧ Up w w' := by
  go_enter Try.func47, Try.ntmps47
  go_wp2
  all_goals
    refine bodyPost_ret (v := .agg #[.int .i64 p, .int .i64 q, .int .u64 (max r n), .int .u64 t]) ?_ rfl ⟨rfl, ?_⟩
    · first | (simp [results, Try.results47, go_sem]; done) | (simp [results, Try.results47, go_sem]; omega)
    · (repeat (first | exact Up.refl _ | assumption | refine Up.setCell ?_ (by first | omega | (dsimp only; omega) | simp) _ | refine Up.alloc ?_ _ | refine Up.drew ?_ | refine Up.trans ?_ (by assumption)))
theorem c_LUnsignedMin (p q r t n : Int) (w : World) :
    Calls Try.prog 37 #[.agg #[.int .i64 p, .int .i64 q, .int .u64 r, .int .u64 t], .int .u64 n] w fun e w' => e = .returned (.agg #[.int .i64 p, .int .i64 q, .int .u64 (max r n), .int .u64 t]) ∧ Up w w' := by
  go_enter Try.func37, Try.ntmps37
  go_wp2_with (first | (go_at_call 41; refine (c_Lin _ _ _ _ _).mono ?_; rintro e w1 ⟨rfl, h1⟩; have c1 := h1.cells; have f1 := h1.frozens) | (go_at_call 47; refine (c_lunsignedMin _ _ _ _ _ _).mono ?_; rintro e w2 ⟨rfl, g2⟩; have h2 := Up.via h1 g2 (by (repeat (first | exact Up.refl _ | assumption | refine Up.setCell ?_ (by first | omega | (dsimp only; omega) | simp) _ | refine Up.alloc ?_ _ | refine Up.drew ?_ | refine Up.trans ?_ (by assumption)))); have c2 := h2.cells; have f2 := h2.frozens) | (go_at_call 43; refine (c_lout _ _ _ _ _).mono ?_; rintro e w3 ⟨rfl, g3⟩; have h3 := Up.via h2 g3 (by (repeat (first | exact Up.refl _ | assumption | refine Up.setCell ?_ (by first | omega | (dsimp only; omega) | simp) _ | refine Up.alloc ?_ _ | refine Up.drew ?_ | refine Up.trans ?_ (by assumption)))); have c3 := h3.cells; have f3 := h3.frozens))
  refine bodyPost_ret (v := .agg #[.int .i64 p, .int .i64 q, .int .u64 (max r n), .int .u64 t]) ?_ rfl ⟨rfl, ?_⟩
  · simp [results, Try.results37, go_sem, c3]
  · (repeat (first | exact Up.refl _ | assumption | refine Up.setCell ?_ (by first | omega | (dsimp only; omega) | simp) _ | refine Up.alloc ?_ _ | refine Up.drew ?_ | refine Up.trans ?_ (by assumption)))
theorem c_UnsignedMin (p q r t n : Int) (w : World) :
    Calls Try.prog 24 #[.agg #[.int .i64 p, .int .i64 q, .int .u64 r, .int .u64 t], .int .u64 n] w fun e w' => e = .returned (.agg #[.int .i64 p, .int .i64 q, .int .u64 (max r n), .int .u64 t]) ∧ Up w w' := by
  go_enter Try.func24, Try.ntmps24
  go_wp2_with (first | (go_at_call 32; refine (c_in _ _ _ _ _).mono ?_; rintro e w1 ⟨rfl, h1⟩; have c1 := h1.cells; have f1 := h1.frozens) | (go_at_call 37; refine (c_LUnsignedMin _ _ _ _ _ _).mono ?_; rintro e w2 ⟨rfl, g2⟩; have h2 := Up.via h1 g2 (by (repeat (first | exact Up.refl _ | assumption | refine Up.setCell ?_ (by first | omega | (dsimp only; omega) | simp) _ | refine Up.alloc ?_ _ | refine Up.drew ?_ | refine Up.trans ?_ (by assumption)))); have c2 := h2.cells; have f2 := h2.frozens) | (go_at_call 31; refine (c_out _ _ _ _ _).mono ?_; rintro e w3 ⟨rfl, g3⟩; have h3 := Up.via h2 g3 (by (repeat (first | exact Up.refl _ | assumption | refine Up.setCell ?_ (by first | omega | (dsimp only; omega) | simp) _ | refine Up.alloc ?_ _ | refine Up.drew ?_ | refine Up.trans ?_ (by assumption)))); have c3 := h3.cells; have f3 := h3.frozens))
  refine bodyPost_ret (v := .agg #[.int .i64 p, .int .i64 q, .int .u64 (max r n), .int .u64 t]) ?_ rfl ⟨rfl, ?_⟩
  · simp [results, Try.results24, go_sem, c3]
  · (repeat (first | exact Up.refl _ | assumption | refine Up.setCell ?_ (by first | omega | (dsimp only; omega) | simp) _ | refine Up.alloc ?_ _ | refine Up.drew ?_ | refine Up.trans ?_ (by assumption)))
theorem c_lunsignedMax (p q r t n : Int) (w : World) :
    Calls Try.prog 46 #[.agg #[.int .i64 p, .int .i64 q, .int .u64 r, .int .u64 t], .int .u64 n] w fun e w' => e = .returned (.agg #[.int .i64 p, .int .i64 q, .int .u64 r, .int .u64 (min t n)]) ∧ Up w w' := by
  go_enter Try.func46, Try.ntmps46
  go_wp2
  all_goals
    refine bodyPost_ret (v := .agg #[.int .i64 p, .int .i64 q, .int .u64 r, .int .u64 (min t n)]) ?_ rfl ⟨rfl, ?_⟩
    · first | (simp [results, Try.results46, go_sem]; done) | (simp [results, Try.results46, go_sem]; omega)
    · (repeat (first | exact Up.refl _ | assumption | refine Up.setCell ?_ (by first | omega | (dsimp only; omega) | simp) _ | refine Up.alloc ?_ _ | refine Up.drew ?_ | refine Up.trans ?_ (by assumption)))
theorem c_LUnsignedMax (p q r t n : Int) (w : World) :
    Calls Try.prog 36 #[.agg #[.int .i64 p, .int .i64 q, .int .u64 r, .int .u64 t], .int .u64 n] w fun e w' => e = .returned (.agg #[.int .i64 p, .int .i64 q, .int .u64 r, .int .u64 (min t n)]) ∧ Up w w' := by
  go_enter Try.func36, Try.ntmps36
  go_wp2_with (first | (go_at_call 41; refine (c_Lin _ _ _ _ _).mono ?_; rintro e w1 ⟨rfl, h1⟩; have c1 := h1.cells; have f1 := h1.frozens) | (go_at_call 46; refine (c_lunsignedMax _ _ _ _ _ _).mono ?_; rintro e w2 ⟨rfl, g2⟩; have h2 := Up.via h1 g2 (by (repeat (first | exact Up.refl _ | assumption | refine Up.setCell ?_ (by first | omega | (dsimp only; omega) | simp) _ | refine Up.alloc ?_ _ | refine Up.drew ?_ | refine Up.trans ?_ (by assumption)))); have c2 := h2.cells; have f2 := h2.frozens) | (go_at_call 43; refine (c_lout _ _ _ _ _).mono ?_; rintro e w3 ⟨rfl, g3⟩; have h3 := Up.via h2 g3 (by (repeat (first | exact Up.refl _ | assumption | refine Up.setCell ?_ (by first | omega | (dsimp only; omega) | simp) _ | refine Up.alloc ?_ _ | refine Up.drew ?_ | refine Up.trans ?_ (by assumption)))); have c3 := h3.cells; have f3 := h3.frozens))
  refine bodyPost_ret (v := .agg #[.int .i64 p, .int .i64 q, .int .u64 r, .int .u64 (min t n)]) ?_ rfl ⟨rfl, ?_⟩
  · simp [results, Try.results36, go_sem, c3]
  · (repeat (first | exact Up.refl _ | assumption | refine Up.setCell ?_ (by first | omega | (dsimp only; omega) | simp) _ | refine Up.alloc ?_ _ | refine Up.drew ?_ | refine Up.trans ?_ (by assumption)))
theorem c_UnsignedMax (p q r t n : Int) (w : World) :
    Calls Try.prog 23 #[.agg #[.int .i64 p, .int .i64 q, .int .u64 r, .int .u64 t], .int .u64 n] w fun e w' => e = .returned (.agg #[.int .i64 p, .int .i64 q, .int .u64 r, .int .u64 (min t n)]) ∧ Up w w' := by
  go_enter Try.func23, Try.ntmps23
  go_wp2_with (first | (go_at_call 32; refine (c_in _ _ _ _ _).mono ?_; rintro e w1 ⟨rfl, h1⟩; have c1 := h1.cells; have f1 := h1.frozens) | (go_at_call 36; refine (c_LUnsignedMax _ _ _ _ _ _).mono ?_; rintro e w2 ⟨rfl, g2⟩; have h2 := Up.via h1 g2 (by (repeat (first | exact Up.refl _ | assumption | refine Up.setCell ?_ (by first | omega | (dsimp only; omega) | simp) _ | refine Up.alloc ?_ _ | refine Up.drew ?_ | refine Up.trans ?_ (by assumption)))); have c2 := h2.cells; have f2 := h2.frozens) | (go_at_call 31; refine (c_out _ _ _ _ _).mono ?_; rintro e w3 ⟨rfl, g3⟩; have h3 := Up.via h2 g3 (by (repeat (first | exact Up.refl _ | assumption | refine Up.setCell ?_ (by first | omega | (dsimp only; omega) | simp) _ | refine Up.alloc ?_ _ | refine Up.drew ?_ | refine Up.trans ?_ (by assumption)))); have c3 := h3.cells; have f3 := h3.frozens))
  refine bodyPost_ret (v := .agg #[.int .i64 p, .int .i64 q, .int .u64 r, .int .u64 (min t n)]) ?_ rfl ⟨rfl, ?_⟩
  · simp [results, Try.results23, go_sem, c3]
  · (repeat (first | exact Up.refl _ | assumption | refine Up.setCell ?_ (by first | omega | (dsimp only; omega) | simp) _ | refine Up.alloc ?_ _ | refine Up.drew ?_ | refine Up.trans ?_ (by assumption)))
theorem c_lunsignedMinMax (p q r t n m : Int) (w : World) :
    Calls Try.prog 49 #[.agg #[.int .i64 p, .int .i64 q, .int .u64 r, .int .u64 t], .int .u64 n, .int .u64 m] w fun e w' => e = .returned (.agg #[.int .i64 p, .int .i64 q, .int .u64 (max r n), .int .u64 (min t m)]) ∧ Up w w' := by
  go_enter Try.func49, Try.ntmps49
  go_wp2
  all_goals
    refine bodyPost_ret (v := .agg #[.int .i64 p, .int .i64 q, .int .u64 (max r n), .int .u64 (min t m)]) ?_ rfl ⟨rfl, ?_⟩
    · first | (simp [results, Try.results49, go_sem]; done) | (simp [results, Try.results49, go_sem]; omega)
    · (repeat (first | exact Up.refl _ | assumption | refine Up.setCell ?_ (by first | omega | (dsimp only; omega) | simp) _ | refine Up.alloc ?_ _ | refine Up.drew ?_ | refine Up.trans ?_ (by assumption)))
theorem c_LUnsignedMinMax (p q r t n m : Int) (w : World) :
    Calls Try.prog 39 #[.agg #[.int .i64 p, .int .i64 q, .int .u64 r, .int .u64 t], .int .u64 n, .int .u64 m] w fun e w' => e = .returned (.agg #[.int .i64 p, .int .i64 q, .int .u64 (max r n), .int .u64 (min t m)]) ∧ Up w w' := by
  go_enter Try.func39, Try.ntmps39
  go_wp2_with (first | (go_at_call 41; refine (c_Lin _ _ _ _ _).mono ?_; rintro e w1 ⟨rfl, h1⟩; have c1 := h1.cells; have f1 := h1.frozens) | (go_at_call 49; refine (c_lunsignedMinMax _ _ _ _ _ _ _).mono ?_; rintro e w2 ⟨rfl, g2⟩; have h2 := Up.via h1 g2 (by (repeat (first | exact Up.refl _ | assumption | refine Up.setCell ?_ (by first | omega | (dsimp only; omega) | simp) _ | refine Up.alloc ?_ _ | refine Up.drew ?_ | refine Up.trans ?_ (by assumption)))); have c2 := h2.cells; have f2 := h2.frozens) | (go_at_call 43; refine (c_lout _ _ _ _ _).mono ?_; rintro e w3 ⟨rfl, g3⟩; have h3 := Up.via h2 g3 (by (repeat (first | exact Up.refl _ | assumption | refine Up.setCell ?_ (by first | omega | (dsimp only; omega) | simp) _ | refine Up.alloc ?_ _ | refine Up.drew ?_ | refine Up.trans ?_ (by assumption)))); have c3 := h3.cells; have f3 := h3.frozens))
  refine bodyPost_ret (v := .agg #[.int .i64 p, .int .i64 q, .int .u64 (max r n), .int .u64 (min t m)]) ?_ rfl ⟨rfl, ?_⟩
  · simp [results, Try.results39, go_sem, c3]
  · (repeat (first | exact Up.refl _ | assumption | refine Up.setCell ?_ (by first | omega | (dsimp only; omega) | simp) _ | refine Up.alloc ?_ _ | refine Up.drew ?_ | refine Up.trans ?_ (by assumption)))
theorem c_UnsignedMinMax (p q r t n m : Int) (w : World) :
    Calls Try.prog 26 #[.agg #[.int .i64 p, .int .i64 q, .int .u64 r, .int .u64 t], .int .u64 n, .int .u64 m] w fun e w' => e = .returned (.agg #[.int .i64 p, .int .i64 q, .int .u64 (max r n), .int .u64 (min t m)]) ∧ Up w w' := by
  go_enter Try.func26, Try.ntmps26
  go_wp2_with (first | (go_at_call 32; refine (c_in _ _ _ _ _).mono ?_; rintro e w1 ⟨rfl, h1⟩; have c1 := h1.cells; have f1 := h1.frozens) | (go_at_call 39; refine (c_LUnsignedMinMax _ _ _ _ _ _ _).mono ?_; rintro e w2 ⟨rfl, g2⟩; have h2 := Up.via h1 g2 (by (repeat (first | exact Up.refl _ | assumption | refine Up.setCell ?_ (by first | omega | (dsimp only; omega) | simp) _ | refine Up.alloc ?_ _ | refine Up.drew ?_ | refine Up.trans ?_ (by assumption)))); have c2 := h2.cells; have f2 := h2.frozens) | (go_at_call 31; refine (c_out _ _ _ _ _).mono ?_; rintro e w3 ⟨rfl, g3⟩; have h3 := Up.via h2 g3 (by (repeat (first | exact Up.refl _ | assumption | refine Up.setCell ?_ (by first | omega | (dsimp only; omega) | simp) _ | refine Up.alloc ?_ _ | refine Up.drew ?_ | refine Up.trans ?_ (by assumption)))); have c3 := h3.cells; have f3 := h3.frozens))
  refine bodyPost_ret (v := .agg #[.int .i64 p, .int .i64 q, .int .u64 (max r n), .int .u64 (min t m)]) ?_ rfl ⟨rfl, ?_⟩
  · simp [results, Try.results26, go_sem, c3]
  · (repeat (first | exact Up.refl _ | assumption | refine Up.setCell ?_ (by first | omega | (dsimp only; omega) | simp) _ | refine Up.alloc ?_ _ | refine Up.drew ?_ | refine Up.trans ?_ (by assumption)))
theorem c_lintersect (p q r t p' q' r' t' : Int) (w : World) :
    Calls Try.prog 50 #[.agg #[.int .i64 p, .int .i64 q, .int .u64 r, .int .u64 t], .agg #[.int .i64 p', .int .i64 q', .int .u64 r', .int .u64 t']] w fun e w' => e = .returned (.agg #[.int .i64 (max p p'), .int .i64 (min q q'), .int .u64 (max r r'), .int .u64 (min t t')]) ∧ Up w w' := by
  go_enter Try.func50, Try.ntmps50
  go_wp2
  all_goals
    refine bodyPost_ret (v := .agg #[.int .i64 (max p p'), .int .i64 (min q q'), .int .u64 (max r r'), .int .u64 (min t t')]) ?_ rfl ⟨rfl, ?_⟩
    · first | (simp [results, Try.results50, go_sem]; done) | (simp [results, Try.results50, go_sem]; omega)
    · (repeat (first | exact Up.refl _ | assumption | refine Up.setCell ?_ (by first | omega | (dsimp only; omega) | simp) _ | refine Up.alloc ?_ _ | refine Up.drew ?_ | refine Up.trans ?_ (by assumption)))
theorem c_LIntersect (p q r t p' q' r' t' : Int) (w : World) :
    Calls Try.prog 40 #[.agg #[.int .i64 p, .int .i64 q, .int .u64 r, .int .u64 t], .agg #[.int .i64 p', .int .i64 q', .int .u64 r', .int .u64 t']] w fun e w' => e = .returned (.agg #[.int .i64 (max p p'), .int .i64 (min q q'), .int .u64 (max r r'), .int .u64 (min t t')]) ∧ Up w w' := by
  have hne : w.heap.size + 1 + 1 ≠ w.heap.size := by omega
  have hall := Up.refl (((w.alloc (.cells #[.int .i64 p, .int .i64 q, .int .u64 r, .int .u64 t] 52)).alloc (.cells #[.int .i64 p', .int .i64 q', .int .u64 r', .int .u64 t'] 52)).alloc (.cells #[.int .i64 0, .int .i64 0, .int .u64 0, .int .u64 0] 52))
  go_enter Try.func40, Try.ntmps40
  go_wp2_with fail
  go_region_held3 (fun w' => w'.cell? ⟨w.heap.size, 0, none⟩ = some (.int .i64 p) ∧ w'.cell? ⟨w.heap.size, 1, none⟩ = some (.int .i64 q) ∧ w'.cell? ⟨w.heap.size, 2, none⟩ = some (.int .u64 r) ∧ w'.cell? ⟨w.heap.size, 3, none⟩ = some (.int .u64 t) ∧ w'.cell? ⟨(w.heap.size + 1), 0, none⟩ = some (.int .i64 p') ∧ w'.cell? ⟨(w.heap.size + 1), 1, none⟩ = some (.int .i64 q') ∧ w'.cell? ⟨(w.heap.size + 1), 2, none⟩ = some (.int .u64 r') ∧ w'.cell? ⟨(w.heap.size + 1), 3, none⟩ = some (.int .u64 t')) (first | (exact keep8 hup (by assumption)) | go_keep) (first | (go_at_call 41; refine (c_Lin _ _ _ _ _).mono ?_; rintro e wh ⟨rfl, hup⟩; replace hall := Up.via hall hup (by (repeat (first | exact Up.refl _ | assumption | refine Up.setCell ?_ (by first | omega | (dsimp only; omega) | simp) _ | refine Up.alloc ?_ _ | refine Up.drew ?_ | refine Up.trans ?_ (by assumption)))); have hc := hall.cells; have hf := hall.frozens) | (go_at_call 50; refine (c_lintersect _ _ _ _ _ _ _ _ _).mono ?_; rintro e wh ⟨rfl, hup⟩; replace hall := Up.via hall hup (by (repeat (first | exact Up.refl _ | assumption | refine Up.setCell ?_ (by first | omega | (dsimp only; omega) | simp) _ | refine Up.alloc ?_ _ | refine Up.drew ?_ | refine Up.trans ?_ (by assumption)))); have hc := hall.cells; have hf := hall.frozens) | (go_at_call 43; refine (c_lout _ _ _ _ _).mono ?_; rintro e wh ⟨rfl, hup⟩; replace hall := Up.via hall hup (by (repeat (first | exact Up.refl _ | assumption | refine Up.setCell ?_ (by first | omega | (dsimp only; omega) | simp) _ | refine Up.alloc ?_ _ | refine Up.drew ?_ | refine Up.trans ?_ (by assumption)))); have hc := hall.cells; have hf := hall.frozens))
  go_wp2
  refine bodyPost_ret (v := .agg #[.int .i64 (max p p'), .int .i64 (min q q'), .int .u64 (max r r'), .int .u64 (min t t')]) ?_ rfl ⟨rfl, ?_⟩
  · simp [results, Try.results40, go_sem, hc]
  · (repeat (first | exact Up.refl _ | assumption | refine Up.setCell ?_ (by first | omega | (dsimp only; omega) | simp) _ | refine Up.alloc ?_ _ | refine Up.drew ?_ | refine Up.trans ?_ (by assumption)))
theorem c_Intersect (p q r t p' q' r' t' : Int) (w : World) :
    Calls Try.prog 27 #[.agg #[.int .i64 p, .int .i64 q, .int .u64 r, .int .u64 t], .agg #[.int .i64 p', .int .i64 q', .int .u64 r', .int .u64 t']] w fun e w' => e = .returned (.agg #[.int .i64 (max p p'), .int .i64 (min q q'), .int .u64 (max r r'), .int .u64 (min t t')]) ∧ Up w w' := by
  have hne : w.heap.size + 1 + 1 ≠ w.heap.size := by omega
  have hall := Up.refl (((w.alloc (.cells #[.int .i64 p, .int .i64 q, .int .u64 r, .int .u64 t] 24)).alloc (.cells #[.int .i64 p', .int .i64 q', .int .u64 r', .int .u64 t'] 24)).alloc (.cells #[.int .i64 0, .int .i64 0, .int .u64 0, .int .u64 0] 24))
  go_enter Try.func27, Try.ntmps27
  go_wp2_with fail
  go_region_held3 (fun w' => w'.cell? ⟨w.heap.size, 0, none⟩ = some (.int .i64 p) ∧ w'.cell? ⟨w.heap.size, 1, none⟩ = some (.int .i64 q) ∧ w'.cell? ⟨w.heap.size, 2, none⟩ = some (.int .u64 r) ∧ w'.cell? ⟨w.heap.size, 3, none⟩ = some (.int .u64 t) ∧ w'.cell? ⟨(w.heap.size + 1), 0, none⟩ = some (.int .i64 p') ∧ w'.cell? ⟨(w.heap.size + 1), 1, none⟩ = some (.int .i64 q') ∧ w'.cell? ⟨(w.heap.size + 1), 2, none⟩ = some (.int .u64 r') ∧ w'.cell? ⟨(w.heap.size + 1), 3, none⟩ = some (.int .u64 t')) (first | (exact keep8 hup (by assumption)) | go_keep) (first | (go_at_call 32; refine (c_in _ _ _ _ _).mono ?_; rintro e wh ⟨rfl, hup⟩; replace hall := Up.via hall hup (by (repeat (first | exact Up.refl _ | assumption | refine Up.setCell ?_ (by first | omega | (dsimp only; omega) | simp) _ | refine Up.alloc ?_ _ | refine Up.drew ?_ | refine Up.trans ?_ (by assumption)))); have hc := hall.cells; have hf := hall.frozens) | (go_at_call 40; refine (c_LIntersect _ _ _ _ _ _ _ _ _).mono ?_; rintro e wh ⟨rfl, hup⟩; replace hall := Up.via hall hup (by (repeat (first | exact Up.refl _ | assumption | refine Up.setCell ?_ (by first | omega | (dsimp only; omega) | simp) _ | refine Up.alloc ?_ _ | refine Up.drew ?_ | refine Up.trans ?_ (by assumption)))); have hc := hall.cells; have hf := hall.frozens) | (go_at_call 31; refine (c_out _ _ _ _ _).mono ?_; rintro e wh ⟨rfl, hup⟩; replace hall := Up.via hall hup (by (repeat (first | exact Up.refl _ | assumption | refine Up.setCell ?_ (by first | omega | (dsimp only; omega) | simp) _ | refine Up.alloc ?_ _ | refine Up.drew ?_ | refine Up.trans ?_ (by assumption)))); have hc := hall.cells; have hf := hall.frozens))
  go_wp2
  refine bodyPost_ret (v := .agg #[.int .i64 (max p p'), .int .i64 (min q q'), .int .u64 (max r r'), .int .u64 (min t t')]) ?_ rfl ⟨rfl, ?_⟩
  · simp [results, Try.results27, go_sem, hc]
  · (repeat (first | exact Up.refl _ | assumption | refine Up.setCell ?_ (by first | omega | (dsimp only; omega) | simp) _ | refine Up.alloc ?_ _ | refine Up.drew ?_ | refine Up.trans ?_ (by assumption)))

end Go.Proofs.Ytlophbgeclojdaa
