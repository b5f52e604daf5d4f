/-
  What bounds that are added to a limit, and an intersection, give: contracts, one a function.
-/
import Derived.Test.YtjfpjcaidjblnaaDoorConv
namespace Go.Proofs.YtjfpjcaidjblnaaDoor
open Go.RowKit
set_option linter.unusedVariables false

theorem c_lunsignedMax (p q r t n : Int) (w : World) :
    Calls Tryd.prog 42 #[.agg #[.int .i64 p, .int .i64 q, .int .u64 r, .int .u64 t], .int .u64 n] w fun e w' => e = .returned (.agg #[.int .i64 p, .int .i64 q, .int .u64 r, .int .u64 (min t n)]) ∧ Up w w' := by
  go_enter Tryd.func42, Tryd.ntmps42
  go_wp2
  all_goals
    refine bodyPost_ret (v := .agg #[.int .i64 p, .int .i64 q, .int .u64 r, .int .u64 (min t n)]) ?_ rfl ⟨rfl, ?_⟩
    · first | (simp [results, Tryd.results42, go_sem]; done) | (simp [results, Tryd.results42, go_sem]; omega)
    · (repeat (first | exact Up.refl _ | assumption | refine Up.setCell ?_ (by first | omega | (dsimp only; omega) | simp) _ | refine Up.alloc ?_ _ | refine Up.drew ?_ | refine Up.trans ?_ (by assumption)))
theorem c_lunsignedMinMax (p q r t n m : Int) (w : World) :
    Calls Tryd.prog 37 #[.agg #[.int .i64 p, .int .i64 q, .int .u64 r, .int .u64 t], .int .u64 n, .int .u64 m] w fun e w' => e = .returned (.agg #[.int .i64 p, .int .i64 q, .int .u64 (max r n), .int .u64 (min t m)]) ∧ Up w w' := by
  go_enter Tryd.func37, Tryd.ntmps37
  go_wp2
  all_goals
    refine bodyPost_ret (v := .agg #[.int .i64 p, .int .i64 q, .int .u64 (max r n), .int .u64 (min t m)]) ?_ rfl ⟨rfl, ?_⟩
    · first | (simp [results, Tryd.results37, go_sem]; done) | (simp [results, Tryd.results37, go_sem]; omega)
    · (repeat (first | exact Up.refl _ | assumption | refine Up.setCell ?_ (by first | omega | (dsimp only; omega) | simp) _ | refine Up.alloc ?_ _ | refine Up.drew ?_ | refine Up.trans ?_ (by assumption)))

end Go.Proofs.YtjfpjcaidjblnaaDoor
