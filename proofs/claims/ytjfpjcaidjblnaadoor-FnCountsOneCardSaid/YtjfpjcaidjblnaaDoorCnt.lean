/-
  Lengths and numbers of ones of a limit: contracts.
-/
import Derived.Test.YtjfpjcaidjblnaaDoorFixed
import Derived.Test.YtjfpjcaidjblnaaDoorBitl
namespace Go.Proofs.YtjfpjcaidjblnaaDoor
open Go.RowKit
set_option linter.unusedVariables false
theorem c_noLimitU (w : World) :
    Calls Tryd.prog 36 #[] w fun e w' => e = .returned (.agg #[.int .i64 (-9223372036854775808), .int .i64 9223372036854775807, .int .u64 0, .int .u64 18446744073709551615]) ∧ Up w w' :=
  (c_noLimit w).mono fun e w' ⟨h1, h2⟩ => ⟨h1, by rw [← h2]; exact ((Up.refl _).alloc _).alloc _⟩
set_option maxHeartbeats 4000000 in
theorem c_lbitlen (p q r t b : Int) (w : World) (hr : U64 r) (ht : U64 t) :
    Calls Tryd.prog 31 #[.agg #[.int .i64 p, .int .i64 q, .int .u64 r, .int .u64 t], .int .u64 b] w fun e w' => e = .returned (.agg #[.int .i64 (lst 64), .int .i64 (grt 64), .int .u64 (Lib.bitLen r.toNat : Int), .int .u64 (Lib.bitLen t.toNat : Int)]) ∧ Up w w' := by
  have l1 := bitLen_le64 hr
  have l2 := bitLen_le64 ht
  have HR := Lib.hid hr
  have HT := Lib.hid ht
  clear hr ht
  have hall := Up.refl ((w.alloc (.cells #[.int .i64 p, .int .i64 q, .int .u64 r, .int .u64 t] 45)).alloc (.cells #[.int .i64 0, .int .i64 0, .int .u64 0, .int .u64 0] 45))
  go_enter Tryd.func31, Tryd.ntmps31
  go_wp2_with fail
  go_region_held3 (fun w' => w'.cell? ⟨w.heap.size, 0, none⟩ = some (.int .i64 p) ∧ w'.cell? ⟨w.heap.size, 1, none⟩ = some (.int .i64 q) ∧ w'.cell? ⟨w.heap.size, 2, none⟩ = some (.int .u64 r) ∧ w'.cell? ⟨w.heap.size, 3, none⟩ = some (.int .u64 t)) (first | (exact keep4 hup (by assumption)) | assumption | go_keep) (first | (go_at_call 36; refine (c_noLimitU _).mono ?_; rintro e wh ⟨rfl, hup⟩; have hall := Up.via hall hup (by (repeat (first | exact Up.refl _ | assumption | refine Up.setCell ?_ (by first | omega | (dsimp only; omega) | simp) _ | refine Up.alloc ?_ _ | refine Up.drew ?_ | refine Up.trans ?_ (by assumption)))); have hc := hall.cells; have hf := hall.frozens) | (go_at_call 38; refine (c_Len64 _ _ (by first | exact HR.out | exact HT.out)).mono ?_; rintro e wh ⟨rfl, rfl⟩) | (go_at_call 37; refine (c_lunsignedMinMax _ _ _ _ _ _ _).mono ?_; rintro e wh ⟨rfl, hup⟩; have hall := Up.via hall hup (by (repeat (first | exact Up.refl _ | assumption | refine Up.setCell ?_ (by first | omega | (dsimp only; omega) | simp) _ | refine Up.alloc ?_ _ | refine Up.drew ?_ | refine Up.trans ?_ (by assumption)))); have hc := hall.cells; have hf := hall.frozens))
  go_wp2
  refine bodyPost_ret (v := .agg #[.int .i64 (lst 64), .int .i64 (grt 64), .int .u64 (Lib.bitLen r.toNat : Int), .int .u64 (Lib.bitLen t.toNat : Int)]) ?_ rfl ⟨rfl, ?_⟩
  · rw [lst64, grt64]
    have q1 : IntKind.u64.wrap (Lib.bitLen r.toNat : Int) = (Lib.bitLen r.toNat : Int) := by rw [IntKind.wrap_u64]; omega
    have q2 : IntKind.u64.wrap (Lib.bitLen t.toNat : Int) = (Lib.bitLen t.toNat : Int) := by rw [IntKind.wrap_u64]; omega
    have q3 : max (0 : Int) (Lib.bitLen r.toNat : Int) = (Lib.bitLen r.toNat : Int) := by omega
    have q4 : min (18446744073709551615 : Int) (Lib.bitLen t.toNat : Int) = (Lib.bitLen t.toNat : Int) := by omega
    simp [results, Tryd.results31, go_sem, hc, q1, q2, q3, q4]
  · (repeat (first | exact Up.refl _ | assumption | refine Up.setCell ?_ (by first | omega | (dsimp only; omega) | simp) _ | refine Up.alloc ?_ _ | refine Up.drew ?_ | refine Up.trans ?_ (by assumption)))
theorem c_LBitlen (p q r t b : Int) (w : World) (hr : U64 r) (ht : U64 t) :
    Calls Tryd.prog 25 #[.agg #[.int .i64 p, .int .i64 q, .int .u64 r, .int .u64 t], .int .u64 b] w fun e w' => e = .returned (.agg #[.int .i64 (lst 64), .int .i64 (grt 64), .int .u64 (Lib.bitLen r.toNat : Int), .int .u64 (Lib.bitLen t.toNat : Int)]) ∧ Up w w' := by
  have HR := Lib.hid hr
  have HT := Lib.hid ht
  clear hr ht
  go_enter Tryd.func25, Tryd.ntmps25
  go_wp2_with (first | (go_at_call 30; refine (c_Lin _ _ _ _ _).mono ?_; rintro e w1 ⟨rfl, h1⟩; have c1 := h1.cells; have f1 := h1.frozens) | (go_at_call 31; refine (c_lbitlen _ _ _ _ _ _ HR.out HT.out).mono ?_; rintro e w2 ⟨rfl, g2⟩; have h2 := Up.via h1 g2 (by (repeat (first | exact Up.refl _ | assumption | refine Up.setCell ?_ (by first | omega | (dsimp only; omega) | simp) _ | refine Up.alloc ?_ _ | refine Up.drew ?_ | refine Up.trans ?_ (by assumption)))); have c2 := h2.cells; have f2 := h2.frozens) | (go_at_call 32; refine (c_lout _ _ _ _ _).mono ?_; rintro e w3 ⟨rfl, g3⟩; have h3 := Up.via h2 g3 (by (repeat (first | exact Up.refl _ | assumption | refine Up.setCell ?_ (by first | omega | (dsimp only; omega) | simp) _ | refine Up.alloc ?_ _ | refine Up.drew ?_ | refine Up.trans ?_ (by assumption)))); have c3 := h3.cells; have f3 := h3.frozens))
  refine bodyPost_ret (v := .agg #[.int .i64 (lst 64), .int .i64 (grt 64), .int .u64 (Lib.bitLen r.toNat : Int), .int .u64 (Lib.bitLen t.toNat : Int)]) ?_ rfl ⟨rfl, ?_⟩
  · simp [results, Tryd.results25, go_sem, c3]
  · (repeat (first | exact Up.refl _ | assumption | refine Up.setCell ?_ (by first | omega | (dsimp only; omega) | simp) _ | refine Up.alloc ?_ _ | refine Up.drew ?_ | refine Up.trans ?_ (by assumption)))
theorem c_Bitlen (p q r t b : Int) (w : World) (hr : U64 r) (ht : U64 t) :
    Calls Tryd.prog 13 #[.agg #[.int .i64 p, .int .i64 q, .int .u64 r, .int .u64 t], .int .u64 b] w fun e w' => e = .returned (.agg #[.int .i64 (lst 64), .int .i64 (grt 64), .int .u64 (Lib.bitLen r.toNat : Int), .int .u64 (Lib.bitLen t.toNat : Int)]) ∧ Up w w' := by
  have HR := Lib.hid hr
  have HT := Lib.hid ht
  clear hr ht
  go_enter Tryd.func13, Tryd.ntmps13
  go_wp2_with (first | (go_at_call 24; refine (c_in _ _ _ _ _).mono ?_; rintro e w1 ⟨rfl, h1⟩; have c1 := h1.cells; have f1 := h1.frozens) | (go_at_call 25; refine (c_LBitlen _ _ _ _ _ _ HR.out HT.out).mono ?_; rintro e w2 ⟨rfl, g2⟩; have h2 := Up.via h1 g2 (by (repeat (first | exact Up.refl _ | assumption | refine Up.setCell ?_ (by first | omega | (dsimp only; omega) | simp) _ | refine Up.alloc ?_ _ | refine Up.drew ?_ | refine Up.trans ?_ (by assumption)))); have c2 := h2.cells; have f2 := h2.frozens) | (go_at_call 23; refine (c_out _ _ _ _ _).mono ?_; rintro e w3 ⟨rfl, g3⟩; have h3 := Up.via h2 g3 (by (repeat (first | exact Up.refl _ | assumption | refine Up.setCell ?_ (by first | omega | (dsimp only; omega) | simp) _ | refine Up.alloc ?_ _ | refine Up.drew ?_ | refine Up.trans ?_ (by assumption)))); have c3 := h3.cells; have f3 := h3.frozens))
  refine bodyPost_ret (v := .agg #[.int .i64 (lst 64), .int .i64 (grt 64), .int .u64 (Lib.bitLen r.toNat : Int), .int .u64 (Lib.bitLen t.toNat : Int)]) ?_ rfl ⟨rfl, ?_⟩
  · simp [results, Tryd.results13, go_sem, c3]
  · (repeat (first | exact Up.refl _ | assumption | refine Up.setCell ?_ (by first | omega | (dsimp only; omega) | simp) _ | refine Up.alloc ?_ _ | refine Up.drew ?_ | refine Up.trans ?_ (by assumption)))
end Go.Proofs.YtjfpjcaidjblnaaDoor
