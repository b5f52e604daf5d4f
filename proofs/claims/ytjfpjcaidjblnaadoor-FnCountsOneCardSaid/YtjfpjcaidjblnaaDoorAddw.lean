/-
  What Add of a limit is, through the package's and the thin package's doors; and that lmWorks is true.
-/
import Derived.Test.YtjfpjcaidjblnaaDoorAdd
namespace Go.Proofs.YtjfpjcaidjblnaaDoor
open Go.RowKit
set_option linter.unusedVariables false

theorem c_LAdd (p q r t p' q' r' t' b : Int) (w : World) (hb : B4 b) (x1 : I64 p) (x2 : I64 q) (x3 : U64 r) (x4 : U64 t) (y1 : I64 p') (y2 : I64 q') (y3 : U64 r') (y4 : U64 t') :
    Calls Tryd.prog 29 #[.agg #[.int .i64 p, .int .i64 q, .int .u64 r, .int .u64 t], .agg #[.int .i64 p', .int .i64 q', .int .u64 r', .int .u64 t'], .int .u64 b] w fun e w' => e = .returned (.agg #[.int .i64 (addL b ⟨p, q, r, t⟩ ⟨p', q', r', t'⟩).a, .int .i64 (addL b ⟨p, q, r, t⟩ ⟨p', q', r', t'⟩).b, .int .u64 (addL b ⟨p, q, r, t⟩ ⟨p', q', r', t'⟩).c, .int .u64 (addL b ⟨p, q, r, t⟩ ⟨p', q', r', t'⟩).d]) ∧ Up w w' := by
  have H := Lib.hid hb
  clear hb
  have hne : w.heap.size + 1 + 1 ≠ w.heap.size := by omega
  have hall := Up.refl (((w.alloc (.cells #[.int .i64 p, .int .i64 q, .int .u64 r, .int .u64 t] 40)).alloc (.cells #[.int .i64 p', .int .i64 q', .int .u64 r', .int .u64 t'] 40)).alloc (.cells #[.int .i64 0, .int .i64 0, .int .u64 0, .int .u64 0] 40))
  go_enter Tryd.func29, Tryd.ntmps29
  go_wp2_with fail
  go_region_held3 (fun w' => w'.cell? ⟨w.heap.size, 0, none⟩ = some (.int .i64 p) ∧ w'.cell? ⟨w.heap.size, 1, none⟩ = some (.int .i64 q) ∧ w'.cell? ⟨w.heap.size, 2, none⟩ = some (.int .u64 r) ∧ w'.cell? ⟨w.heap.size, 3, none⟩ = some (.int .u64 t) ∧ w'.cell? ⟨(w.heap.size + 1), 0, none⟩ = some (.int .i64 p') ∧ w'.cell? ⟨(w.heap.size + 1), 1, none⟩ = some (.int .i64 q') ∧ w'.cell? ⟨(w.heap.size + 1), 2, none⟩ = some (.int .u64 r') ∧ w'.cell? ⟨(w.heap.size + 1), 3, none⟩ = some (.int .u64 t')) (first | (exact keep8 hup (by assumption)) | go_keep) (first | (go_at_call 30; refine (c_Lin _ _ _ _ _).mono ?_; rintro e wh ⟨rfl, hup⟩; have hall := Up.via hall hup (by (repeat (first | exact Up.refl _ | assumption | refine Up.setCell ?_ (by first | omega | (dsimp only; omega) | simp) _ | refine Up.alloc ?_ _ | refine Up.drew ?_ | refine Up.trans ?_ (by assumption)))); have hc := hall.cells; have hf := hall.frozens) | (go_at_call 35; refine (c_ladd _ _ _ _ _ _ _ _ _ _ H.out x1 x2 x3 x4 y1 y2 y3 y4).mono ?_; rintro e wh ⟨rfl, hup⟩; have hall := Up.via hall hup (by (repeat (first | exact Up.refl _ | assumption | refine Up.setCell ?_ (by first | omega | (dsimp only; omega) | simp) _ | refine Up.alloc ?_ _ | refine Up.drew ?_ | refine Up.trans ?_ (by assumption)))); have hc := hall.cells; have hf := hall.frozens) | (go_at_call 32; refine (c_lout _ _ _ _ _).mono ?_; rintro e wh ⟨rfl, hup⟩; have hall := Up.via hall hup (by (repeat (first | exact Up.refl _ | assumption | refine Up.setCell ?_ (by first | omega | (dsimp only; omega) | simp) _ | refine Up.alloc ?_ _ | refine Up.drew ?_ | refine Up.trans ?_ (by assumption)))); have hc := hall.cells; have hf := hall.frozens))
  go_wp2
  refine bodyPost_ret (v := .agg #[.int .i64 (addL b ⟨p, q, r, t⟩ ⟨p', q', r', t'⟩).a, .int .i64 (addL b ⟨p, q, r, t⟩ ⟨p', q', r', t'⟩).b, .int .u64 (addL b ⟨p, q, r, t⟩ ⟨p', q', r', t'⟩).c, .int .u64 (addL b ⟨p, q, r, t⟩ ⟨p', q', r', t'⟩).d]) ?_ rfl ⟨rfl, ?_⟩
  · simp [results, Tryd.results29, go_sem, hc]
  · (repeat (first | exact Up.refl _ | assumption | refine Up.setCell ?_ (by first | omega | (dsimp only; omega) | simp) _ | refine Up.alloc ?_ _ | refine Up.drew ?_ | refine Up.trans ?_ (by assumption)))
theorem c_Add (p q r t p' q' r' t' b : Int) (w : World) (hb : B4 b) (x1 : I64 p) (x2 : I64 q) (x3 : U64 r) (x4 : U64 t) (y1 : I64 p') (y2 : I64 q') (y3 : U64 r') (y4 : U64 t') :
    Calls Tryd.prog 22 #[.agg #[.int .i64 p, .int .i64 q, .int .u64 r, .int .u64 t], .agg #[.int .i64 p', .int .i64 q', .int .u64 r', .int .u64 t'], .int .u64 b] w fun e w' => e = .returned (.agg #[.int .i64 (addL b ⟨p, q, r, t⟩ ⟨p', q', r', t'⟩).a, .int .i64 (addL b ⟨p, q, r, t⟩ ⟨p', q', r', t'⟩).b, .int .u64 (addL b ⟨p, q, r, t⟩ ⟨p', q', r', t'⟩).c, .int .u64 (addL b ⟨p, q, r, t⟩ ⟨p', q', r', t'⟩).d]) ∧ Up w w' := by
  have H := Lib.hid hb
  clear hb
  have hne : w.heap.size + 1 + 1 ≠ w.heap.size := by omega
  have hall := Up.refl (((w.alloc (.cells #[.int .i64 p, .int .i64 q, .int .u64 r, .int .u64 t] 24)).alloc (.cells #[.int .i64 p', .int .i64 q', .int .u64 r', .int .u64 t'] 24)).alloc (.cells #[.int .i64 0, .int .i64 0, .int .u64 0, .int .u64 0] 24))
  go_enter Tryd.func22, Tryd.ntmps22
  go_wp2_with fail
  go_region_held3 (fun w' => w'.cell? ⟨w.heap.size, 0, none⟩ = some (.int .i64 p) ∧ w'.cell? ⟨w.heap.size, 1, none⟩ = some (.int .i64 q) ∧ w'.cell? ⟨w.heap.size, 2, none⟩ = some (.int .u64 r) ∧ w'.cell? ⟨w.heap.size, 3, none⟩ = some (.int .u64 t) ∧ w'.cell? ⟨(w.heap.size + 1), 0, none⟩ = some (.int .i64 p') ∧ w'.cell? ⟨(w.heap.size + 1), 1, none⟩ = some (.int .i64 q') ∧ w'.cell? ⟨(w.heap.size + 1), 2, none⟩ = some (.int .u64 r') ∧ w'.cell? ⟨(w.heap.size + 1), 3, none⟩ = some (.int .u64 t')) (first | (exact keep8 hup (by assumption)) | go_keep) (first | (go_at_call 24; refine (c_in _ _ _ _ _).mono ?_; rintro e wh ⟨rfl, hup⟩; have hall := Up.via hall hup (by (repeat (first | exact Up.refl _ | assumption | refine Up.setCell ?_ (by first | omega | (dsimp only; omega) | simp) _ | refine Up.alloc ?_ _ | refine Up.drew ?_ | refine Up.trans ?_ (by assumption)))); have hc := hall.cells; have hf := hall.frozens) | (go_at_call 29; refine (c_LAdd _ _ _ _ _ _ _ _ _ _ H.out x1 x2 x3 x4 y1 y2 y3 y4).mono ?_; rintro e wh ⟨rfl, hup⟩; have hall := Up.via hall hup (by (repeat (first | exact Up.refl _ | assumption | refine Up.setCell ?_ (by first | omega | (dsimp only; omega) | simp) _ | refine Up.alloc ?_ _ | refine Up.drew ?_ | refine Up.trans ?_ (by assumption)))); have hc := hall.cells; have hf := hall.frozens) | (go_at_call 23; refine (c_out _ _ _ _ _).mono ?_; rintro e wh ⟨rfl, hup⟩; have hall := Up.via hall hup (by (repeat (first | exact Up.refl _ | assumption | refine Up.setCell ?_ (by first | omega | (dsimp only; omega) | simp) _ | refine Up.alloc ?_ _ | refine Up.drew ?_ | refine Up.trans ?_ (by assumption)))); have hc := hall.cells; have hf := hall.frozens))
  go_wp2
  refine bodyPost_ret (v := .agg #[.int .i64 (addL b ⟨p, q, r, t⟩ ⟨p', q', r', t'⟩).a, .int .i64 (addL b ⟨p, q, r, t⟩ ⟨p', q', r', t'⟩).b, .int .u64 (addL b ⟨p, q, r, t⟩ ⟨p', q', r', t'⟩).c, .int .u64 (addL b ⟨p, q, r, t⟩ ⟨p', q', r', t'⟩).d]) ?_ rfl ⟨rfl, ?_⟩
  · simp [results, Tryd.results22, go_sem, hc]
  · (repeat (first | exact Up.refl _ | assumption | refine Up.setCell ?_ (by first | omega | (dsimp only; omega) | simp) _ | refine Up.alloc ?_ _ | refine Up.drew ?_ | refine Up.trans ?_ (by assumption)))

theorem c_lmWorks (w : World) : Calls Tryd.prog 12 #[] w fun e w' => e = .returned (.bool true) ∧ Up w w' := by
  have e0 : addL 64 ⟨sg 64 2, sg 64 2, us 64 2, us 64 2⟩ ⟨sg 64 3, sg 64 3, us 64 3, us 64 3⟩ = ⟨sg 64 5, sg 64 5, us 64 5, us 64 5⟩ := by rfl
  have E0 := Lib.hid e0
  clear e0
  go_enter Tryd.func12, Tryd.ntmps12
  go_wp2_with fail
  refine (c_One _ _ _ b64 ⟨by decide, by decide⟩).mono ?_
  rintro e w1 ⟨rfl, h1⟩
  go_wp2_with fail
  refine (c_One _ _ _ b64 ⟨by decide, by decide⟩).mono ?_
  rintro e w2 ⟨rfl, h2⟩
  go_wp2_with fail
  refine (c_Add _ _ _ _ _ _ _ _ _ _ b64 (sg_I64 b64) (sg_I64 b64) (us_U64 b64) (us_U64 b64) (sg_I64 b64) (sg_I64 b64) (us_U64 b64) (us_U64 b64)).mono ?_
  rintro e w3 ⟨rfl, h3⟩
  rw [E0.out]
  go_wp2_with fail
  refine (c_One _ _ _ b64 ⟨by decide, by decide⟩).mono ?_
  rintro e w4 ⟨rfl, h4⟩
  go_wp2_with fail
  go_ret
  refine ⟨rfl, ?_⟩
  (repeat (first | exact Up.refl _ | assumption | refine Up.setCell ?_ (by first | omega | (dsimp only; omega) | simp) _ | refine Up.alloc ?_ _ | refine Up.drew ?_ | refine Up.trans ?_ (by assumption)))

end Go.Proofs.YtjfpjcaidjblnaaDoor
