/-
  What a product of two limits is: contracts of bits.Mul64, of mul and of the functions around it.
-/
import Derived.Test.YtcnhhgglgfaheaaConv
import Derived.Test.YtcnhhgglgfaheaaAdd
import Derived.Lib.Mul64
import Derived.Laws.BitsAllLaws
namespace Go.Proofs.Ytcnhhgglgfaheaa
open Go.RowKit
set_option linter.unusedVariables false

/-! ### bits.Mul64 (the walk's numbers folded as the library's own proof folds them) -/
theorem maskN (a : Nat) (ha : a < 18446744073709551616) : bits .and .u64 (a : Int) 4294967295 = ((a % 4294967296 : Nat) : Int) := by
  have h := u64_and_nat a 4294967295 ha (by omega)
  have e : a &&& 4294967295 = a % 4294967296 := Nat.and_two_pow_sub_one_eq_mod a 32
  rw [e] at h
  exact h
theorem divN (a : Nat) : (a : Int) / 4294967296 = ((a / 4294967296 : Nat) : Int) := by omega
theorem mulN (a b : Nat) : (a : Int) * (b : Int) = ((a * b : Nat) : Int) := (Int.natCast_mul a b).symm
theorem addN (a b : Nat) : (a : Int) + (b : Int) = ((a + b : Nat) : Int) := (Int.natCast_add a b).symm
theorem wrapN (a : Nat) (ha : a < 18446744073709551616) : IntKind.u64.wrap (a : Int) = (a : Int) := by rw [IntKind.wrap_u64]; omega
theorem wrapM (a : Nat) : IntKind.u64.wrap (a : Int) = ((a % 18446744073709551616 : Nat) : Int) := by rw [IntKind.wrap_u64]; omega
set_option maxHeartbeats 1000000 in
theorem c_Mul64 (x y : Nat) (hx : x < 18446744073709551616) (hy : y < 18446744073709551616) (w : World) :
    Calls Try.prog 45 #[.int .u64 x, .int .u64 y] w fun e w' => e = .returned (.tuple #[.int .u64 ((x * y / 18446744073709551616 : Nat) : Int), .int .u64 ((x * y % 18446744073709551616 : Nat) : Int)]) ∧ w = w' := by
  obtain ⟨bd, bt, bw, hhi⟩ := Lib.mul64_hi x y hx hy
  have ba := Lib.half_mul_le (a := x / 4294967296) (b := y / 4294967296) (by omega) (by omega)
  have bb := Lib.half_mul_le (a := x / 4294967296) (b := y % 4294967296) (by omega) (by omega)
  have bc := Lib.half_mul_le (a := x % 4294967296) (b := y / 4294967296) (by omega) (by omega)
  have ba' : x / 4294967296 * (y / 4294967296) < 18446744073709551616 := by omega
  have bb' : x / 4294967296 * (y % 4294967296) < 18446744073709551616 := by omega
  have bc' : x % 4294967296 * (y / 4294967296) < 18446744073709551616 := by omega
  have bh1 : x / 4294967296 * (y / 4294967296) + (x / 4294967296 * (y % 4294967296) + x % 4294967296 * (y % 4294967296) / 4294967296) / 4294967296 < 18446744073709551616 := by omega
  have bh : x / 4294967296 * (y / 4294967296) + (x / 4294967296 * (y % 4294967296) + x % 4294967296 * (y % 4294967296) / 4294967296) / 4294967296 + ((x / 4294967296 * (y % 4294967296) + x % 4294967296 * (y % 4294967296) / 4294967296) % 4294967296 + x % 4294967296 * (y / 4294967296)) / 4294967296 < 18446744073709551616 := by omega
  have HH := Lib.hid hhi
  clear hhi
  go_enter Try.func45, Try.ntmps45
  go_wp2
  simp only [maskN x hx, maskN y hy, divN, mulN, addN, wrapN _ bd, wrapN _ bb', wrapN _ bt, maskN _ bt, wrapN _ bc', wrapN _ bw, wrapN _ ba', wrapN _ bh1, wrapN _ bh, wrapM (x * y)]
  rw [HH.out]
  go_ret2
  exact ⟨rfl, rfl⟩
theorem c_Mul64_lo (x y : Int) (w : World) (hx : U64 x) (hy : U64 y) (h : x * y ≤ 18446744073709551615) :
    Calls Try.prog 45 #[.int .u64 x, .int .u64 y] w fun e w' => e = .returned (.tuple #[.int .u64 0, .int .u64 (x * y)]) ∧ w = w' := by
  obtain ⟨n, rfl⟩ := Int.eq_ofNat_of_zero_le hx.1
  obtain ⟨m, rfl⟩ := Int.eq_ofNat_of_zero_le hy.1
  have h1 := hx.2
  have h2 := hy.2
  rw [mulN] at h ⊢
  refine (c_Mul64 n m (by omega) (by omega) w).mono fun e w' ⟨he, hw⟩ => ⟨?_, hw⟩
  rw [he, Nat.div_eq_of_lt (by omega), Nat.mod_eq_of_lt (by omega)]
  rfl
/-- A product that is greater than every word: its upper half is not 0. -/
def SomeHi (w : World) (e : Ending) (w' : World) : Prop := ∃ h l : Int, 0 < h ∧ e = .returned (.tuple #[.int .u64 h, .int .u64 l]) ∧ w = w'
theorem c_Mul64_hi (x y : Int) (w : World) (hx : U64 x) (hy : U64 y) (h : 18446744073709551615 < x * y) :
    Calls Try.prog 45 #[.int .u64 x, .int .u64 y] w (SomeHi w) := by
  obtain ⟨n, rfl⟩ := Int.eq_ofNat_of_zero_le hx.1
  obtain ⟨m, rfl⟩ := Int.eq_ofNat_of_zero_le hy.1
  have h1 := hx.2
  have h2 := hy.2
  rw [mulN] at h
  refine (c_Mul64 n m (by omega) (by omega) w).mono fun e w' ⟨he, hw⟩ => ⟨_, _, ?_, he, hw⟩
  have := Nat.div_pos (a := n * m) (b := 18446744073709551616) (by omega) (by omega)
  omega
/-! ### Products of limits -/
/-- The product of two limits, as mul makes it. -/
def mulL (b : Int) (l m : Lm) : Lm :=
  ⟨-9223372036854775808, 9223372036854775807, pick2 (decide (l.d * m.d ≤ top b)) (IntKind.u64.wrap (l.c * m.c)) 0, pick2 (decide (l.d * m.d ≤ top b)) (l.d * m.d) 18446744073709551615⟩
theorem mulL_t {b : Int} {l m : Lm} (h : l.d * m.d ≤ top b) : mulL b l m = ⟨-9223372036854775808, 9223372036854775807, IntKind.u64.wrap (l.c * m.c), l.d * m.d⟩ := by
  unfold mulL
  rw [decide_eq_true h]
  rfl
theorem mulL_f {b : Int} {l m : Lm} (h : ¬ l.d * m.d ≤ top b) : mulL b l m = ⟨-9223372036854775808, 9223372036854775807, 0, 18446744073709551615⟩ := by
  unfold mulL
  rw [decide_eq_false h]
  rfl
set_option maxHeartbeats 1000000 in
theorem c_lmul (p q r t p' q' r' t' b : Int) (w : World) (hb : B4 b) (x1 : I64 p) (x2 : I64 q) (x3 : U64 r) (x4 : U64 t) (y1 : I64 p') (y2 : I64 q') (y3 : U64 r') (y4 : U64 t') :
    Calls Try.prog 39 #[.agg #[.int .i64 p, .int .i64 q, .int .u64 r, .int .u64 t], .agg #[.int .i64 p', .int .i64 q', .int .u64 r', .int .u64 t'], .int .u64 b] w fun e w' => e = .returned (.agg #[.int .i64 (mulL b ⟨p, q, r, t⟩ ⟨p', q', r', t'⟩).a, .int .i64 (mulL b ⟨p, q, r, t⟩ ⟨p', q', r', t'⟩).b, .int .u64 (mulL b ⟨p, q, r, t⟩ ⟨p', q', r', t'⟩).c, .int .u64 (mulL b ⟨p, q, r, t⟩ ⟨p', q', r', t'⟩).d]) ∧ Up w w' := by
  obtain ⟨g1, g2⟩ := top_bd hb
  have hpos : 0 ≤ t * t' := Int.mul_nonneg x4.1 y4.1
  rcases Int.lt_or_le 18446744073709551615 (t * t') with h | h
  · have e0 := mulL_f (b := b) (l := ⟨p, q, r, t⟩) (m := ⟨p', q', r', t'⟩) (by dsimp only; omega)
    have E0 := Lib.hid e0
    have H := Lib.hid hb
    have HP := Lib.hid h
    clear e0 hb h hpos g1 g2
    go_enter Try.func39, Try.ntmps39
    go_upto_region 3 with (first | (go_at_call 44; refine (c_noLimit _).mono ?_; rintro e w1 ⟨rfl, rfl⟩) | (go_at_call 45; refine (c_Mul64_hi _ _ _ x4 y4 HP.out).mono ?_; rintro e w1 ⟨hi, lo, hh, rfl, rfl⟩))
    have hz : (hi == 0) = false := by rw [beq_eq_false_iff_ne]; omega
    go_wp2_with fail
    refine bodyPost_ret (v := .agg #[.int .i64 (-9223372036854775808), .int .i64 9223372036854775807, .int .u64 0, .int .u64 18446744073709551615]) ?_ rfl ⟨by rw [E0.out], ?_⟩
    · simp [results, Try.results39, go_sem]
    · (repeat (first | exact Up.refl _ | assumption | refine Up.setCell ?_ (by first | omega | (dsimp only; omega) | simp) _ | refine Up.alloc ?_ _ | refine Up.drew ?_ | refine Up.trans ?_ (by assumption)))
  · have hu : U64 (t * t') := ⟨hpos, h⟩
    cases hf : fitU b (t * t')
    · have e0 := mulL_f (b := b) (l := ⟨p, q, r, t⟩) (m := ⟨p', q', r', t'⟩) (by rw [← Bool.not_eq_true, fitU_iff] at hf; exact hf)
      have E0 := Lib.hid e0
      have H := Lib.hid hb
      have HP := Lib.hid h
      clear e0 hb h hpos g1 g2
      go_enter Try.func39, Try.ntmps39
      go_wp2_with (first | (go_at_call 44; refine (c_noLimit _).mono ?_; rintro e w1 ⟨rfl, rfl⟩) | (go_at_call 45; refine (c_Mul64_lo _ _ _ x4 y4 HP.out).mono ?_; rintro e w1 ⟨rfl, rfl⟩) | (go_at_call 46; refine (c_fitsU _ _ _ H.out hu).mono ?_; rintro e w1 ⟨rfl, rfl⟩))
      refine bodyPost_ret (v := .agg #[.int .i64 (-9223372036854775808), .int .i64 9223372036854775807, .int .u64 0, .int .u64 18446744073709551615]) ?_ rfl ⟨by rw [E0.out], ?_⟩
      · simp [results, Try.results39, go_sem]
      · (repeat (first | exact Up.refl _ | assumption | refine Up.setCell ?_ (by first | omega | (dsimp only; omega) | simp) _ | refine Up.alloc ?_ _ | refine Up.drew ?_ | refine Up.trans ?_ (by assumption)))
    · have e0 := mulL_t (b := b) (l := ⟨p, q, r, t⟩) (m := ⟨p', q', r', t'⟩) (by rw [fitU_iff] at hf; exact hf)
      have E0 := Lib.hid e0
      have H := Lib.hid hb
      have HP := Lib.hid h
      clear e0 hb h hpos g1 g2
      go_enter Try.func39, Try.ntmps39
      go_wp2_with (first | (go_at_call 44; refine (c_noLimit _).mono ?_; rintro e w1 ⟨rfl, rfl⟩) | (go_at_call 45; refine (c_Mul64_lo _ _ _ x4 y4 HP.out).mono ?_; rintro e w1 ⟨rfl, rfl⟩) | (go_at_call 46; refine (c_fitsU _ _ _ H.out hu).mono ?_; rintro e w1 ⟨rfl, rfl⟩))
      refine bodyPost_ret (v := .agg #[.int .i64 (-9223372036854775808), .int .i64 9223372036854775807, .int .u64 (IntKind.u64.wrap (r * r')), .int .u64 (t * t')]) ?_ rfl ⟨by rw [E0.out], ?_⟩
      · simp [results, Try.results39, go_sem]
      · (repeat (first | exact Up.refl _ | assumption | refine Up.setCell ?_ (by first | omega | (dsimp only; omega) | simp) _ | refine Up.alloc ?_ _ | refine Up.drew ?_ | refine Up.trans ?_ (by assumption)))
theorem c_LMul (p q r t p' q' r' t' b : Int) (w : World) (hb : B4 b) (x1 : I64 p) (x2 : I64 q) (x3 : U64 r) (x4 : U64 t) (y1 : I64 p') (y2 : I64 q') (y3 : U64 r') (y4 : U64 t') :
    Calls Try.prog 31 #[.agg #[.int .i64 p, .int .i64 q, .int .u64 r, .int .u64 t], .agg #[.int .i64 p', .int .i64 q', .int .u64 r', .int .u64 t'], .int .u64 b] w fun e w' => e = .returned (.agg #[.int .i64 (mulL b ⟨p, q, r, t⟩ ⟨p', q', r', t'⟩).a, .int .i64 (mulL b ⟨p, q, r, t⟩ ⟨p', q', r', t'⟩).b, .int .u64 (mulL b ⟨p, q, r, t⟩ ⟨p', q', r', t'⟩).c, .int .u64 (mulL b ⟨p, q, r, t⟩ ⟨p', q', r', t'⟩).d]) ∧ Up w w' := by
  have H := Lib.hid hb
  clear hb
  have hne : w.heap.size + 1 + 1 ≠ w.heap.size := by omega
  have hall := Up.refl (((w.alloc (.cells #[.int .i64 p, .int .i64 q, .int .u64 r, .int .u64 t] 45)).alloc (.cells #[.int .i64 p', .int .i64 q', .int .u64 r', .int .u64 t'] 45)).alloc (.cells #[.int .i64 0, .int .i64 0, .int .u64 0, .int .u64 0] 45))
  go_enter Try.func31, Try.ntmps31
  go_wp2_with fail
  go_region_held3 (fun w' => w'.cell? ⟨w.heap.size, 0, none⟩ = some (.int .i64 p) ∧ w'.cell? ⟨w.heap.size, 1, none⟩ = some (.int .i64 q) ∧ w'.cell? ⟨w.heap.size, 2, none⟩ = some (.int .u64 r) ∧ w'.cell? ⟨w.heap.size, 3, none⟩ = some (.int .u64 t) ∧ w'.cell? ⟨(w.heap.size + 1), 0, none⟩ = some (.int .i64 p') ∧ w'.cell? ⟨(w.heap.size + 1), 1, none⟩ = some (.int .i64 q') ∧ w'.cell? ⟨(w.heap.size + 1), 2, none⟩ = some (.int .u64 r') ∧ w'.cell? ⟨(w.heap.size + 1), 3, none⟩ = some (.int .u64 t')) (first | (exact keep8 hup (by assumption)) | go_keep) (first | (go_at_call 38; refine (c_Lin _ _ _ _ _).mono ?_; rintro e wh ⟨rfl, hup⟩; have hall := Up.via hall hup (by (repeat (first | exact Up.refl _ | assumption | refine Up.setCell ?_ (by first | omega | (dsimp only; omega) | simp) _ | refine Up.alloc ?_ _ | refine Up.drew ?_ | refine Up.trans ?_ (by assumption)))); have hc := hall.cells; have hf := hall.frozens) | (go_at_call 39; refine (c_lmul _ _ _ _ _ _ _ _ _ _ H.out x1 x2 x3 x4 y1 y2 y3 y4).mono ?_; rintro e wh ⟨rfl, hup⟩; have hall := Up.via hall hup (by (repeat (first | exact Up.refl _ | assumption | refine Up.setCell ?_ (by first | omega | (dsimp only; omega) | simp) _ | refine Up.alloc ?_ _ | refine Up.drew ?_ | refine Up.trans ?_ (by assumption)))); have hc := hall.cells; have hf := hall.frozens) | (go_at_call 40; refine (c_lout _ _ _ _ _).mono ?_; rintro e wh ⟨rfl, hup⟩; have hall := Up.via hall hup (by (repeat (first | exact Up.refl _ | assumption | refine Up.setCell ?_ (by first | omega | (dsimp only; omega) | simp) _ | refine Up.alloc ?_ _ | refine Up.drew ?_ | refine Up.trans ?_ (by assumption)))); have hc := hall.cells; have hf := hall.frozens))
  go_wp2
  refine bodyPost_ret (v := .agg #[.int .i64 (mulL b ⟨p, q, r, t⟩ ⟨p', q', r', t'⟩).a, .int .i64 (mulL b ⟨p, q, r, t⟩ ⟨p', q', r', t'⟩).b, .int .u64 (mulL b ⟨p, q, r, t⟩ ⟨p', q', r', t'⟩).c, .int .u64 (mulL b ⟨p, q, r, t⟩ ⟨p', q', r', t'⟩).d]) ?_ rfl ⟨rfl, ?_⟩
  · simp [results, Try.results31, go_sem, hc]
  · (repeat (first | exact Up.refl _ | assumption | refine Up.setCell ?_ (by first | omega | (dsimp only; omega) | simp) _ | refine Up.alloc ?_ _ | refine Up.drew ?_ | refine Up.trans ?_ (by assumption)))
theorem c_Mul (p q r t p' q' r' t' b : Int) (w : World) (hb : B4 b) (x1 : I64 p) (x2 : I64 q) (x3 : U64 r) (x4 : U64 t) (y1 : I64 p') (y2 : I64 q') (y3 : U64 r') (y4 : U64 t') :
    Calls Try.prog 20 #[.agg #[.int .i64 p, .int .i64 q, .int .u64 r, .int .u64 t], .agg #[.int .i64 p', .int .i64 q', .int .u64 r', .int .u64 t'], .int .u64 b] w fun e w' => e = .returned (.agg #[.int .i64 (mulL b ⟨p, q, r, t⟩ ⟨p', q', r', t'⟩).a, .int .i64 (mulL b ⟨p, q, r, t⟩ ⟨p', q', r', t'⟩).b, .int .u64 (mulL b ⟨p, q, r, t⟩ ⟨p', q', r', t'⟩).c, .int .u64 (mulL b ⟨p, q, r, t⟩ ⟨p', q', r', t'⟩).d]) ∧ Up w w' := by
  have H := Lib.hid hb
  clear hb
  have hne : w.heap.size + 1 + 1 ≠ w.heap.size := by omega
  have hall := Up.refl (((w.alloc (.cells #[.int .i64 p, .int .i64 q, .int .u64 r, .int .u64 t] 24)).alloc (.cells #[.int .i64 p', .int .i64 q', .int .u64 r', .int .u64 t'] 24)).alloc (.cells #[.int .i64 0, .int .i64 0, .int .u64 0, .int .u64 0] 24))
  go_enter Try.func20, Try.ntmps20
  go_wp2_with fail
  go_region_held3 (fun w' => w'.cell? ⟨w.heap.size, 0, none⟩ = some (.int .i64 p) ∧ w'.cell? ⟨w.heap.size, 1, none⟩ = some (.int .i64 q) ∧ w'.cell? ⟨w.heap.size, 2, none⟩ = some (.int .u64 r) ∧ w'.cell? ⟨w.heap.size, 3, none⟩ = some (.int .u64 t) ∧ w'.cell? ⟨(w.heap.size + 1), 0, none⟩ = some (.int .i64 p') ∧ w'.cell? ⟨(w.heap.size + 1), 1, none⟩ = some (.int .i64 q') ∧ w'.cell? ⟨(w.heap.size + 1), 2, none⟩ = some (.int .u64 r') ∧ w'.cell? ⟨(w.heap.size + 1), 3, none⟩ = some (.int .u64 t')) (first | (exact keep8 hup (by assumption)) | go_keep) (first | (go_at_call 30; refine (c_in _ _ _ _ _).mono ?_; rintro e wh ⟨rfl, hup⟩; have hall := Up.via hall hup (by (repeat (first | exact Up.refl _ | assumption | refine Up.setCell ?_ (by first | omega | (dsimp only; omega) | simp) _ | refine Up.alloc ?_ _ | refine Up.drew ?_ | refine Up.trans ?_ (by assumption)))); have hc := hall.cells; have hf := hall.frozens) | (go_at_call 31; refine (c_LMul _ _ _ _ _ _ _ _ _ _ H.out x1 x2 x3 x4 y1 y2 y3 y4).mono ?_; rintro e wh ⟨rfl, hup⟩; have hall := Up.via hall hup (by (repeat (first | exact Up.refl _ | assumption | refine Up.setCell ?_ (by first | omega | (dsimp only; omega) | simp) _ | refine Up.alloc ?_ _ | refine Up.drew ?_ | refine Up.trans ?_ (by assumption)))); have hc := hall.cells; have hf := hall.frozens) | (go_at_call 29; refine (c_out _ _ _ _ _).mono ?_; rintro e wh ⟨rfl, hup⟩; have hall := Up.via hall hup (by (repeat (first | exact Up.refl _ | assumption | refine Up.setCell ?_ (by first | omega | (dsimp only; omega) | simp) _ | refine Up.alloc ?_ _ | refine Up.drew ?_ | refine Up.trans ?_ (by assumption)))); have hc := hall.cells; have hf := hall.frozens))
  go_wp2
  refine bodyPost_ret (v := .agg #[.int .i64 (mulL b ⟨p, q, r, t⟩ ⟨p', q', r', t'⟩).a, .int .i64 (mulL b ⟨p, q, r, t⟩ ⟨p', q', r', t'⟩).b, .int .u64 (mulL b ⟨p, q, r, t⟩ ⟨p', q', r', t'⟩).c, .int .u64 (mulL b ⟨p, q, r, t⟩ ⟨p', q', r', t'⟩).d]) ?_ rfl ⟨rfl, ?_⟩
  · simp [results, Try.results20, go_sem, hc]
  · (repeat (first | exact Up.refl _ | assumption | refine Up.setCell ?_ (by first | omega | (dsimp only; omega) | simp) _ | refine Up.alloc ?_ _ | refine Up.drew ?_ | refine Up.trans ?_ (by assumption)))

end Go.Proofs.Ytcnhhgglgfaheaa
