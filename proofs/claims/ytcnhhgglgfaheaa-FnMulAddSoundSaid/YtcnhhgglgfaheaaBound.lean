/-
  What bounds that are added to a limit, and an intersection, give: contracts, one a function.
-/
import Derived.Test.YtcnhhgglgfaheaaConv
namespace Go.Proofs.Ytcnhhgglgfaheaa
open Go.RowKit
set_option linter.unusedVariables false

theorem c_lintersect (p q r t p' q' r' t' : Int) (w : World) :
    Calls Try.prog 41 #[.agg #[.int .i64 p, .int .i64 q, .int .u64 r, .int .u64 t], .agg #[.int .i64 p', .int .i64 q', .int .u64 r', .int .u64 t']] w fun e w' => e = .returned (.agg #[.int .i64 (max p p'), .int .i64 (min q q'), .int .u64 (max r r'), .int .u64 (min t t')]) ∧ Up w w' := by
  go_enter Try.func41, Try.ntmps41
  go_wp2
  all_goals
    refine bodyPost_ret (v := .agg #[.int .i64 (max p p'), .int .i64 (min q q'), .int .u64 (max r r'), .int .u64 (min t t')]) ?_ rfl ⟨rfl, ?_⟩
    · first | (simp [results, Try.results41, go_sem]; done) | (simp [results, Try.results41, go_sem]; omega)
    · (repeat (first | exact Up.refl _ | assumption | refine Up.setCell ?_ (by first | omega | (dsimp only; omega) | simp) _ | refine Up.alloc ?_ _ | refine Up.drew ?_ | refine Up.trans ?_ (by assumption)))
theorem c_LIntersect (p q r t p' q' r' t' : Int) (w : World) :
    Calls Try.prog 32 #[.agg #[.int .i64 p, .int .i64 q, .int .u64 r, .int .u64 t], .agg #[.int .i64 p', .int .i64 q', .int .u64 r', .int .u64 t']] w fun e w' => e = .returned (.agg #[.int .i64 (max p p'), .int .i64 (min q q'), .int .u64 (max r r'), .int .u64 (min t t')]) ∧ Up w w' := by
  have hne : w.heap.size + 1 + 1 ≠ w.heap.size := by omega
  have hall := Up.refl (((w.alloc (.cells #[.int .i64 p, .int .i64 q, .int .u64 r, .int .u64 t] 45)).alloc (.cells #[.int .i64 p', .int .i64 q', .int .u64 r', .int .u64 t'] 45)).alloc (.cells #[.int .i64 0, .int .i64 0, .int .u64 0, .int .u64 0] 45))
  go_enter Try.func32, Try.ntmps32
  go_wp2_with fail
  go_region_held3 (fun w' => w'.cell? ⟨w.heap.size, 0, none⟩ = some (.int .i64 p) ∧ w'.cell? ⟨w.heap.size, 1, none⟩ = some (.int .i64 q) ∧ w'.cell? ⟨w.heap.size, 2, none⟩ = some (.int .u64 r) ∧ w'.cell? ⟨w.heap.size, 3, none⟩ = some (.int .u64 t) ∧ w'.cell? ⟨(w.heap.size + 1), 0, none⟩ = some (.int .i64 p') ∧ w'.cell? ⟨(w.heap.size + 1), 1, none⟩ = some (.int .i64 q') ∧ w'.cell? ⟨(w.heap.size + 1), 2, none⟩ = some (.int .u64 r') ∧ w'.cell? ⟨(w.heap.size + 1), 3, none⟩ = some (.int .u64 t')) (first | (exact keep8 hup (by assumption)) | go_keep) (first | (go_at_call 38; refine (c_Lin _ _ _ _ _).mono ?_; rintro e wh ⟨rfl, hup⟩; have hall := Up.via hall hup (by (repeat (first | exact Up.refl _ | assumption | refine Up.setCell ?_ (by first | omega | (dsimp only; omega) | simp) _ | refine Up.alloc ?_ _ | refine Up.drew ?_ | refine Up.trans ?_ (by assumption)))); have hc := hall.cells; have hf := hall.frozens) | (go_at_call 41; refine (c_lintersect _ _ _ _ _ _ _ _ _).mono ?_; rintro e wh ⟨rfl, hup⟩; have hall := Up.via hall hup (by (repeat (first | exact Up.refl _ | assumption | refine Up.setCell ?_ (by first | omega | (dsimp only; omega) | simp) _ | refine Up.alloc ?_ _ | refine Up.drew ?_ | refine Up.trans ?_ (by assumption)))); have hc := hall.cells; have hf := hall.frozens) | (go_at_call 40; refine (c_lout _ _ _ _ _).mono ?_; rintro e wh ⟨rfl, hup⟩; have hall := Up.via hall hup (by (repeat (first | exact Up.refl _ | assumption | refine Up.setCell ?_ (by first | omega | (dsimp only; omega) | simp) _ | refine Up.alloc ?_ _ | refine Up.drew ?_ | refine Up.trans ?_ (by assumption)))); have hc := hall.cells; have hf := hall.frozens))
  go_wp2
  refine bodyPost_ret (v := .agg #[.int .i64 (max p p'), .int .i64 (min q q'), .int .u64 (max r r'), .int .u64 (min t t')]) ?_ rfl ⟨rfl, ?_⟩
  · simp [results, Try.results32, go_sem, hc]
  · (repeat (first | exact Up.refl _ | assumption | refine Up.setCell ?_ (by first | omega | (dsimp only; omega) | simp) _ | refine Up.alloc ?_ _ | refine Up.drew ?_ | refine Up.trans ?_ (by assumption)))
theorem c_Intersect (p q r t p' q' r' t' : Int) (w : World) :
    Calls Try.prog 21 #[.agg #[.int .i64 p, .int .i64 q, .int .u64 r, .int .u64 t], .agg #[.int .i64 p', .int .i64 q', .int .u64 r', .int .u64 t']] w fun e w' => e = .returned (.agg #[.int .i64 (max p p'), .int .i64 (min q q'), .int .u64 (max r r'), .int .u64 (min t t')]) ∧ Up w w' := by
  have hne : w.heap.size + 1 + 1 ≠ w.heap.size := by omega
  have hall := Up.refl (((w.alloc (.cells #[.int .i64 p, .int .i64 q, .int .u64 r, .int .u64 t] 24)).alloc (.cells #[.int .i64 p', .int .i64 q', .int .u64 r', .int .u64 t'] 24)).alloc (.cells #[.int .i64 0, .int .i64 0, .int .u64 0, .int .u64 0] 24))
  go_enter Try.func21, Try.ntmps21
  go_wp2_with fail
  go_region_held3 (fun w' => w'.cell? ⟨w.heap.size, 0, none⟩ = some (.int .i64 p) ∧ w'.cell? ⟨w.heap.size, 1, none⟩ = some (.int .i64 q) ∧ w'.cell? ⟨w.heap.size, 2, none⟩ = some (.int .u64 r) ∧ w'.cell? ⟨w.heap.size, 3, none⟩ = some (.int .u64 t) ∧ w'.cell? ⟨(w.heap.size + 1), 0, none⟩ = some (.int .i64 p') ∧ w'.cell? ⟨(w.heap.size + 1), 1, none⟩ = some (.int .i64 q') ∧ w'.cell? ⟨(w.heap.size + 1), 2, none⟩ = some (.int .u64 r') ∧ w'.cell? ⟨(w.heap.size + 1), 3, none⟩ = some (.int .u64 t')) (first | (exact keep8 hup (by assumption)) | go_keep) (first | (go_at_call 30; refine (c_in _ _ _ _ _).mono ?_; rintro e wh ⟨rfl, hup⟩; have hall := Up.via hall hup (by (repeat (first | exact Up.refl _ | assumption | refine Up.setCell ?_ (by first | omega | (dsimp only; omega) | simp) _ | refine Up.alloc ?_ _ | refine Up.drew ?_ | refine Up.trans ?_ (by assumption)))); have hc := hall.cells; have hf := hall.frozens) | (go_at_call 32; refine (c_LIntersect _ _ _ _ _ _ _ _ _).mono ?_; rintro e wh ⟨rfl, hup⟩; have hall := Up.via hall hup (by (repeat (first | exact Up.refl _ | assumption | refine Up.setCell ?_ (by first | omega | (dsimp only; omega) | simp) _ | refine Up.alloc ?_ _ | refine Up.drew ?_ | refine Up.trans ?_ (by assumption)))); have hc := hall.cells; have hf := hall.frozens) | (go_at_call 29; refine (c_out _ _ _ _ _).mono ?_; rintro e wh ⟨rfl, hup⟩; have hall := Up.via hall hup (by (repeat (first | exact Up.refl _ | assumption | refine Up.setCell ?_ (by first | omega | (dsimp only; omega) | simp) _ | refine Up.alloc ?_ _ | refine Up.drew ?_ | refine Up.trans ?_ (by assumption)))); have hc := hall.cells; have hf := hall.frozens))
  go_wp2
  refine bodyPost_ret (v := .agg #[.int .i64 (max p p'), .int .i64 (min q q'), .int .u64 (max r r'), .int .u64 (min t t')]) ?_ rfl ⟨rfl, ?_⟩
  · simp [results, Try.results21, go_sem, hc]
  · (repeat (first | exact Up.refl _ | assumption | refine Up.setCell ?_ (by first | omega | (dsimp only; omega) | simp) _ | refine Up.alloc ?_ _ | refine Up.drew ?_ | refine Up.trans ?_ (by assumption)))

end Go.Proofs.Ytcnhhgglgfaheaa
