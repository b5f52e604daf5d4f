/-
  What a difference of two limits is: contracts of sub and of the functions around it.
-/
import Derived.Test.YtcnhhgglgfaheaaSafe
import Derived.Test.YtcnhhgglgfaheaaAdd
import Derived.Deep.DeepCutAuto
namespace Go.Proofs.Ytcnhhgglgfaheaa
open Go.RowKit
set_option linter.unusedVariables false

/-- The difference of two limits, as sub makes it. -/
def subL (b : Int) (l m : Lm) : Lm :=
  ⟨pick2 (fitB b (l.a - m.b) && fitB b (l.b - m.a)) (l.a - m.b) (-9223372036854775808), pick2 (fitB b (l.a - m.b) && fitB b (l.b - m.a)) (l.b - m.a) 9223372036854775807,
    pick2 (subU b l.c m.d && subU b l.d m.c) (l.c - m.d) 0, pick2 (subU b l.c m.d && subU b l.d m.c) (l.d - m.c) 18446744073709551615⟩
set_option maxRecDepth 100000 in
set_option maxHeartbeats 1000000 in
theorem c_lsub (p q r t p' q' r' t' b : Int) (w : World) (hb : B4 b) (x1 : I64 p) (x2 : I64 q) (x3 : U64 r) (x4 : U64 t) (y1 : I64 p') (y2 : I64 q') (y3 : U64 r') (y4 : U64 t') :
    Calls Try.prog 43 #[.agg #[.int .i64 p, .int .i64 q, .int .u64 r, .int .u64 t], .agg #[.int .i64 p', .int .i64 q', .int .u64 r', .int .u64 t'], .int .u64 b] w fun e w' => e = .returned (.agg #[.int .i64 (subL b ⟨p, q, r, t⟩ ⟨p', q', r', t'⟩).a, .int .i64 (subL b ⟨p, q, r, t⟩ ⟨p', q', r', t'⟩).b, .int .u64 (subL b ⟨p, q, r, t⟩ ⟨p', q', r', t'⟩).c, .int .u64 (subL b ⟨p, q, r, t⟩ ⟨p', q', r', t'⟩).d]) ∧ Up w w' := by
  have H := Lib.hid hb
  clear hb
  go_enter Try.func43, Try.ntmps43
  go_upto_region 4 with (first | (go_at_call 44; refine (c_noLimit _).mono ?_; rintro e w1 ⟨rfl, rfl⟩) | (go_at_call 51; refine (c_safeSub _ _ _ _ H.out (by first | exact x1 | exact x2) (by first | exact y1 | exact y2)).mono ?_; rintro e w1 ⟨rfl, rfl⟩))
  generalize hfa : fitB b (p - q') = fa
  generalize hfb : fitB b (q - p') = fb
  have HFA := Lib.hid hfa
  have HFB := Lib.hid hfb
  clear hfa hfb
  go_cut [38] (fun s38 wx => s38 = .bool (fa && fb) ∧ (((((w.alloc (.cells #[.int .i64 p, .int .i64 q, .int .u64 r, .int .u64 t] 52)).alloc (.cells #[.int .i64 p', .int .i64 q', .int .u64 r', .int .u64 t'] 52)).alloc (.cells #[.int .i64 0, .int .i64 0, .int .u64 0, .int .u64 0] 52)).alloc (.cells #[.int .i64 (-9223372036854775808), .int .i64 9223372036854775807, .int .u64 0, .int .u64 18446744073709551615] 52)).alloc (.cells #[.int .i64 (-9223372036854775808), .int .i64 9223372036854775807, .int .u64 0, .int .u64 18446744073709551615] 52)).alloc (.cells #[.int .i64 (-9223372036854775808), .int .i64 9223372036854775807, .int .u64 0, .int .u64 18446744073709551615] 52) = wx)
  case first =>
    cases fa <;> cases fb
    all_goals
      go_wp2_with fail
      go_meet
      case rel => exact ⟨rfl, rfl⟩
  case rest =>
    obtain ⟨rfl, rfl⟩ := hcut
    go_upto_if 38 with (fail)
    go_cut [38] (fun s38 wx => s38 = .bool (fa && fb) ∧ (((((w.alloc (.cells #[.int .i64 p, .int .i64 q, .int .u64 r, .int .u64 t] 52)).alloc (.cells #[.int .i64 p', .int .i64 q', .int .u64 r', .int .u64 t'] 52)).alloc (.cells #[.int .i64 0, .int .i64 0, .int .u64 0, .int .u64 0] 52)).alloc (.cells #[.int .i64 (-9223372036854775808), .int .i64 9223372036854775807, .int .u64 0, .int .u64 18446744073709551615] 52)).alloc (.cells #[.int .i64 (-9223372036854775808), .int .i64 9223372036854775807, .int .u64 0, .int .u64 18446744073709551615] 52)).alloc (.cells #[.int .i64 (pick2 (fa && fb) (p - q') (-9223372036854775808)), .int .i64 (pick2 (fa && fb) (q - p') 9223372036854775807), .int .u64 0, .int .u64 18446744073709551615] 52) = wx)
    case first =>
      cases fa <;> cases fb
      all_goals
        go_wp2_with fail
        go_meet
        case rel => exact ⟨rfl, rfl⟩
    case rest =>
      obtain ⟨rfl, rfl⟩ := hcut
      go_upto_region 9 with (first | (go_at_call 52; refine (c_safeSubU _ _ _ _ H.out (by first | exact x3 | exact x4) (by first | exact y3 | exact y4)).mono ?_; rintro e w1 ⟨rfl, rfl⟩))
      generalize hfc : subU b r t' = fc
      generalize hfd : subU b t r' = fd
      have HFC := Lib.hid hfc
      have HFD := Lib.hid hfd
      clear hfc hfd
      go_cut [64] (fun s64 wx => s64 = .bool (fc && fd) ∧ (((((w.alloc (.cells #[.int .i64 p, .int .i64 q, .int .u64 r, .int .u64 t] 52)).alloc (.cells #[.int .i64 p', .int .i64 q', .int .u64 r', .int .u64 t'] 52)).alloc (.cells #[.int .i64 0, .int .i64 0, .int .u64 0, .int .u64 0] 52)).alloc (.cells #[.int .i64 (-9223372036854775808), .int .i64 9223372036854775807, .int .u64 0, .int .u64 18446744073709551615] 52)).alloc (.cells #[.int .i64 (-9223372036854775808), .int .i64 9223372036854775807, .int .u64 0, .int .u64 18446744073709551615] 52)).alloc (.cells #[.int .i64 (pick2 (fa && fb) (p - q') (-9223372036854775808)), .int .i64 (pick2 (fa && fb) (q - p') 9223372036854775807), .int .u64 0, .int .u64 18446744073709551615] 52) = wx)
      case first =>
        cases fc <;> cases fd
        all_goals
          go_wp2_with fail
          go_meet
          case rel => exact ⟨rfl, rfl⟩
      case rest =>
        obtain ⟨rfl, rfl⟩ := hcut
        go_upto_if 64 with (fail)
        go_cut [64] (fun s64 wx => s64 = .bool (fc && fd) ∧ (((((w.alloc (.cells #[.int .i64 p, .int .i64 q, .int .u64 r, .int .u64 t] 52)).alloc (.cells #[.int .i64 p', .int .i64 q', .int .u64 r', .int .u64 t'] 52)).alloc (.cells #[.int .i64 0, .int .i64 0, .int .u64 0, .int .u64 0] 52)).alloc (.cells #[.int .i64 (-9223372036854775808), .int .i64 9223372036854775807, .int .u64 0, .int .u64 18446744073709551615] 52)).alloc (.cells #[.int .i64 (-9223372036854775808), .int .i64 9223372036854775807, .int .u64 0, .int .u64 18446744073709551615] 52)).alloc (.cells #[.int .i64 (pick2 (fa && fb) (p - q') (-9223372036854775808)), .int .i64 (pick2 (fa && fb) (q - p') 9223372036854775807), .int .u64 (pick2 (fc && fd) (r - t') 0), .int .u64 (pick2 (fc && fd) (t - r') 18446744073709551615)] 52) = wx)
        case first =>
          cases fc <;> cases fd
          all_goals
            go_wp2_with fail
            go_meet
            case rel => exact ⟨rfl, rfl⟩
        case rest =>
          obtain ⟨rfl, rfl⟩ := hcut
          go_wp2_with fail
          refine bodyPost_ret (v := .agg #[.int .i64 (pick2 (fa && fb) (p - q') (-9223372036854775808)), .int .i64 (pick2 (fa && fb) (q - p') 9223372036854775807), .int .u64 (pick2 (fc && fd) (r - t') 0), .int .u64 (pick2 (fc && fd) (t - r') 18446744073709551615)]) ?_ rfl ⟨by unfold subL; dsimp only; rw [HFA.out, HFB.out, HFC.out, HFD.out], ?_⟩
          · simp [results, Try.results43, go_sem]
          · (repeat (first | exact Up.refl _ | assumption | refine Up.setCell ?_ (by first | omega | (dsimp only; omega) | simp) _ | refine Up.alloc ?_ _ | refine Up.drew ?_ | refine Up.trans ?_ (by assumption)))
theorem c_LSub (p q r t p' q' r' t' b : Int) (w : World) (hb : B4 b) (x1 : I64 p) (x2 : I64 q) (x3 : U64 r) (x4 : U64 t) (y1 : I64 p') (y2 : I64 q') (y3 : U64 r') (y4 : U64 t') :
    Calls Try.prog 37 #[.agg #[.int .i64 p, .int .i64 q, .int .u64 r, .int .u64 t], .agg #[.int .i64 p', .int .i64 q', .int .u64 r', .int .u64 t'], .int .u64 b] w fun e w' => e = .returned (.agg #[.int .i64 (subL b ⟨p, q, r, t⟩ ⟨p', q', r', t'⟩).a, .int .i64 (subL b ⟨p, q, r, t⟩ ⟨p', q', r', t'⟩).b, .int .u64 (subL b ⟨p, q, r, t⟩ ⟨p', q', r', t'⟩).c, .int .u64 (subL b ⟨p, q, r, t⟩ ⟨p', q', r', t'⟩).d]) ∧ Up w w' := by
  have H := Lib.hid hb
  clear hb
  have hne : w.heap.size + 1 + 1 ≠ w.heap.size := by omega
  have hall := Up.refl (((w.alloc (.cells #[.int .i64 p, .int .i64 q, .int .u64 r, .int .u64 t] 45)).alloc (.cells #[.int .i64 p', .int .i64 q', .int .u64 r', .int .u64 t'] 45)).alloc (.cells #[.int .i64 0, .int .i64 0, .int .u64 0, .int .u64 0] 45))
  go_enter Try.func37, Try.ntmps37
  go_wp2_with fail
  go_region_held3 (fun w' => w'.cell? ⟨w.heap.size, 0, none⟩ = some (.int .i64 p) ∧ w'.cell? ⟨w.heap.size, 1, none⟩ = some (.int .i64 q) ∧ w'.cell? ⟨w.heap.size, 2, none⟩ = some (.int .u64 r) ∧ w'.cell? ⟨w.heap.size, 3, none⟩ = some (.int .u64 t) ∧ w'.cell? ⟨(w.heap.size + 1), 0, none⟩ = some (.int .i64 p') ∧ w'.cell? ⟨(w.heap.size + 1), 1, none⟩ = some (.int .i64 q') ∧ w'.cell? ⟨(w.heap.size + 1), 2, none⟩ = some (.int .u64 r') ∧ w'.cell? ⟨(w.heap.size + 1), 3, none⟩ = some (.int .u64 t')) (first | (exact keep8 hup (by assumption)) | go_keep) (first | (go_at_call 38; refine (c_Lin _ _ _ _ _).mono ?_; rintro e wh ⟨rfl, hup⟩; have hall := Up.via hall hup (by (repeat (first | exact Up.refl _ | assumption | refine Up.setCell ?_ (by first | omega | (dsimp only; omega) | simp) _ | refine Up.alloc ?_ _ | refine Up.drew ?_ | refine Up.trans ?_ (by assumption)))); have hc := hall.cells; have hf := hall.frozens) | (go_at_call 43; refine (c_lsub _ _ _ _ _ _ _ _ _ _ H.out x1 x2 x3 x4 y1 y2 y3 y4).mono ?_; rintro e wh ⟨rfl, hup⟩; have hall := Up.via hall hup (by (repeat (first | exact Up.refl _ | assumption | refine Up.setCell ?_ (by first | omega | (dsimp only; omega) | simp) _ | refine Up.alloc ?_ _ | refine Up.drew ?_ | refine Up.trans ?_ (by assumption)))); have hc := hall.cells; have hf := hall.frozens) | (go_at_call 40; refine (c_lout _ _ _ _ _).mono ?_; rintro e wh ⟨rfl, hup⟩; have hall := Up.via hall hup (by (repeat (first | exact Up.refl _ | assumption | refine Up.setCell ?_ (by first | omega | (dsimp only; omega) | simp) _ | refine Up.alloc ?_ _ | refine Up.drew ?_ | refine Up.trans ?_ (by assumption)))); have hc := hall.cells; have hf := hall.frozens))
  go_wp2
  refine bodyPost_ret (v := .agg #[.int .i64 (subL b ⟨p, q, r, t⟩ ⟨p', q', r', t'⟩).a, .int .i64 (subL b ⟨p, q, r, t⟩ ⟨p', q', r', t'⟩).b, .int .u64 (subL b ⟨p, q, r, t⟩ ⟨p', q', r', t'⟩).c, .int .u64 (subL b ⟨p, q, r, t⟩ ⟨p', q', r', t'⟩).d]) ?_ rfl ⟨rfl, ?_⟩
  · simp [results, Try.results37, go_sem, hc]
  · (repeat (first | exact Up.refl _ | assumption | refine Up.setCell ?_ (by first | omega | (dsimp only; omega) | simp) _ | refine Up.alloc ?_ _ | refine Up.drew ?_ | refine Up.trans ?_ (by assumption)))
theorem c_Sub (p q r t p' q' r' t' b : Int) (w : World) (hb : B4 b) (x1 : I64 p) (x2 : I64 q) (x3 : U64 r) (x4 : U64 t) (y1 : I64 p') (y2 : I64 q') (y3 : U64 r') (y4 : U64 t') :
    Calls Try.prog 24 #[.agg #[.int .i64 p, .int .i64 q, .int .u64 r, .int .u64 t], .agg #[.int .i64 p', .int .i64 q', .int .u64 r', .int .u64 t'], .int .u64 b] w fun e w' => e = .returned (.agg #[.int .i64 (subL b ⟨p, q, r, t⟩ ⟨p', q', r', t'⟩).a, .int .i64 (subL b ⟨p, q, r, t⟩ ⟨p', q', r', t'⟩).b, .int .u64 (subL b ⟨p, q, r, t⟩ ⟨p', q', r', t'⟩).c, .int .u64 (subL b ⟨p, q, r, t⟩ ⟨p', q', r', t'⟩).d]) ∧ Up w w' := by
  have H := Lib.hid hb
  clear hb
  have hne : w.heap.size + 1 + 1 ≠ w.heap.size := by omega
  have hall := Up.refl (((w.alloc (.cells #[.int .i64 p, .int .i64 q, .int .u64 r, .int .u64 t] 24)).alloc (.cells #[.int .i64 p', .int .i64 q', .int .u64 r', .int .u64 t'] 24)).alloc (.cells #[.int .i64 0, .int .i64 0, .int .u64 0, .int .u64 0] 24))
  go_enter Try.func24, Try.ntmps24
  go_wp2_with fail
  go_region_held3 (fun w' => w'.cell? ⟨w.heap.size, 0, none⟩ = some (.int .i64 p) ∧ w'.cell? ⟨w.heap.size, 1, none⟩ = some (.int .i64 q) ∧ w'.cell? ⟨w.heap.size, 2, none⟩ = some (.int .u64 r) ∧ w'.cell? ⟨w.heap.size, 3, none⟩ = some (.int .u64 t) ∧ w'.cell? ⟨(w.heap.size + 1), 0, none⟩ = some (.int .i64 p') ∧ w'.cell? ⟨(w.heap.size + 1), 1, none⟩ = some (.int .i64 q') ∧ w'.cell? ⟨(w.heap.size + 1), 2, none⟩ = some (.int .u64 r') ∧ w'.cell? ⟨(w.heap.size + 1), 3, none⟩ = some (.int .u64 t')) (first | (exact keep8 hup (by assumption)) | go_keep) (first | (go_at_call 30; refine (c_in _ _ _ _ _).mono ?_; rintro e wh ⟨rfl, hup⟩; have hall := Up.via hall hup (by (repeat (first | exact Up.refl _ | assumption | refine Up.setCell ?_ (by first | omega | (dsimp only; omega) | simp) _ | refine Up.alloc ?_ _ | refine Up.drew ?_ | refine Up.trans ?_ (by assumption)))); have hc := hall.cells; have hf := hall.frozens) | (go_at_call 37; refine (c_LSub _ _ _ _ _ _ _ _ _ _ H.out x1 x2 x3 x4 y1 y2 y3 y4).mono ?_; rintro e wh ⟨rfl, hup⟩; have hall := Up.via hall hup (by (repeat (first | exact Up.refl _ | assumption | refine Up.setCell ?_ (by first | omega | (dsimp only; omega) | simp) _ | refine Up.alloc ?_ _ | refine Up.drew ?_ | refine Up.trans ?_ (by assumption)))); have hc := hall.cells; have hf := hall.frozens) | (go_at_call 29; refine (c_out _ _ _ _ _).mono ?_; rintro e wh ⟨rfl, hup⟩; have hall := Up.via hall hup (by (repeat (first | exact Up.refl _ | assumption | refine Up.setCell ?_ (by first | omega | (dsimp only; omega) | simp) _ | refine Up.alloc ?_ _ | refine Up.drew ?_ | refine Up.trans ?_ (by assumption)))); have hc := hall.cells; have hf := hall.frozens))
  go_wp2
  refine bodyPost_ret (v := .agg #[.int .i64 (subL b ⟨p, q, r, t⟩ ⟨p', q', r', t'⟩).a, .int .i64 (subL b ⟨p, q, r, t⟩ ⟨p', q', r', t'⟩).b, .int .u64 (subL b ⟨p, q, r, t⟩ ⟨p', q', r', t'⟩).c, .int .u64 (subL b ⟨p, q, r, t⟩ ⟨p', q', r', t'⟩).d]) ?_ rfl ⟨rfl, ?_⟩
  · simp [results, Try.results24, go_sem, hc]
  · (repeat (first | exact Up.refl _ | assumption | refine Up.setCell ?_ (by first | omega | (dsimp only; omega) | simp) _ | refine Up.alloc ?_ _ | refine Up.drew ?_ | refine Up.trans ?_ (by assumption)))

end Go.Proofs.Ytcnhhgglgfaheaa
