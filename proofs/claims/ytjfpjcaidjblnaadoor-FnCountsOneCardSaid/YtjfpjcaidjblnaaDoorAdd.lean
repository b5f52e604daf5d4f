/-
  What a sum of two limits is: contracts of add and of the functions around it; and that lmWorks is true.
-/
import Derived.Test.YtjfpjcaidjblnaaDoorSpec
import Derived.Test.YtjfpjcaidjblnaaDoorSafe
import Derived.Deep.DeepCutAuto
import Derived.Laws.BitsAllLaws
namespace Go.Proofs.YtjfpjcaidjblnaaDoor
open Go.RowKit
set_option linter.unusedVariables false

/-- A limit has one value alone, by its bounds; this value as a word. -/
def isCB (p q r t : Int) : Bool := decide (p = q ∨ r = t)
def cstv (b p q r t : Int) : Int := if p = q then us 64 (sg b p) else if r = t then r else 0
def pick2 (ok : Bool) (x y : Int) : Int := if ok = true then x else y
/-- The sum of two limits, as add makes it. -/
def addL (b : Int) (l m : Lm) : Lm :=
  if (isCB l.a l.b l.c l.d && isCB m.a m.b m.c m.d) = true then
    ⟨sg b (us b (cstv b l.a l.b l.c l.d + cstv b m.a m.b m.c m.d)), sg b (us b (cstv b l.a l.b l.c l.d + cstv b m.a m.b m.c m.d)), us b (cstv b l.a l.b l.c l.d + cstv b m.a m.b m.c m.d), us b (cstv b l.a l.b l.c l.d + cstv b m.a m.b m.c m.d)⟩
  else
    ⟨pick2 (fitB b (l.a + m.a) && fitB b (l.b + m.b)) (l.a + m.a) (-9223372036854775808), pick2 (fitB b (l.a + m.a) && fitB b (l.b + m.b)) (l.b + m.b) 9223372036854775807,
      pick2 (fitU b (l.c + m.c) && fitU b (l.d + m.d)) (l.c + m.c) 0, pick2 (fitU b (l.c + m.c) && fitU b (l.d + m.d)) (l.d + m.d) 18446744073709551615⟩
theorem addL_c {b : Int} {l m : Lm} (h1 : isCB l.a l.b l.c l.d = true) (h2 : isCB m.a m.b m.c m.d = true) :
    addL b l m = ⟨sg b (us b (cstv b l.a l.b l.c l.d + cstv b m.a m.b m.c m.d)), sg b (us b (cstv b l.a l.b l.c l.d + cstv b m.a m.b m.c m.d)), us b (cstv b l.a l.b l.c l.d + cstv b m.a m.b m.c m.d), us b (cstv b l.a l.b l.c l.d + cstv b m.a m.b m.c m.d)⟩ := by
  unfold addL
  rw [h1, h2]
  rfl
theorem addL_n {b : Int} {l m : Lm} (h : (isCB l.a l.b l.c l.d && isCB m.a m.b m.c m.d) = false) :
    addL b l m = ⟨pick2 (fitB b (l.a + m.a) && fitB b (l.b + m.b)) (l.a + m.a) (-9223372036854775808), pick2 (fitB b (l.a + m.a) && fitB b (l.b + m.b)) (l.b + m.b) 9223372036854775807,
      pick2 (fitU b (l.c + m.c) && fitU b (l.d + m.d)) (l.c + m.c) 0, pick2 (fitU b (l.c + m.c) && fitU b (l.d + m.d)) (l.d + m.d) 18446744073709551615⟩ := by
  unfold addL
  rw [h]
  rfl
/-- '&' with 2 to the size less 1 takes the low bits. -/
theorem mask_us {b x : Int} (hb : B4 b) (hx : U64 x) : bits BinOp.and IntKind.u64 x (IntKind.u64.wrap (IntKind.u64.wrap (2 ^ min b.toNat 64) - 1)) = us b x := by
  obtain ⟨n, rfl⟩ := Int.eq_ofNat_of_zero_le hx.1
  have hn : n < 18446744073709551616 := by have := hx.2; omega
  rcases hb with rfl | rfl | rfl | rfl
  · rw [show (IntKind.u64.wrap (IntKind.u64.wrap (2 ^ min (8 : Int).toNat 64) - 1)) = ((255 : Nat) : Int) from by decide, u64_and_nat n 255 hn (by decide), show (255 : Nat) = 2 ^ 8 - 1 from rfl, Nat.and_two_pow_sub_one_eq_mod]
    unfold us
    rw [pw8]
    omega
  · rw [show (IntKind.u64.wrap (IntKind.u64.wrap (2 ^ min (16 : Int).toNat 64) - 1)) = ((65535 : Nat) : Int) from by decide, u64_and_nat n 65535 hn (by decide), show (65535 : Nat) = 2 ^ 16 - 1 from rfl, Nat.and_two_pow_sub_one_eq_mod]
    unfold us
    rw [pw16]
    omega
  · rw [show (IntKind.u64.wrap (IntKind.u64.wrap (2 ^ min (32 : Int).toNat 64) - 1)) = ((4294967295 : Nat) : Int) from by decide, u64_and_nat n 4294967295 hn (by decide), show (4294967295 : Nat) = 2 ^ 32 - 1 from rfl, Nat.and_two_pow_sub_one_eq_mod]
    unfold us
    rw [pw32]
    omega
  · rw [show (IntKind.u64.wrap (IntKind.u64.wrap (2 ^ min (64 : Int).toNat 64) - 1)) = ((18446744073709551615 : Nat) : Int) from by decide, u64_and_nat n 18446744073709551615 hn (by decide), show (18446744073709551615 : Nat) = 2 ^ 64 - 1 from rfl, Nat.and_two_pow_sub_one_eq_mod]
    unfold us
    rw [pw64]
    omega
theorem cstv_U64 {b p q r t : Int} (hb : B4 b) (hr : U64 r) : U64 (cstv b p q r t) := by
  unfold cstv
  split
  · exact us_U64 b64
  · split
    · exact hr
    · exact ⟨by decide, by decide⟩

set_option maxRecDepth 100000 in
set_option maxHeartbeats 1000000 in
theorem c_ladd (p q r t p' q' r' t' b : Int) (w : World) (hb : B4 b) (x1 : I64 p) (x2 : I64 q) (x3 : U64 r) (x4 : U64 t) (y1 : I64 p') (y2 : I64 q') (y3 : U64 r') (y4 : U64 t') :
    Calls Tryd.prog 35 #[.agg #[.int .i64 p, .int .i64 q, .int .u64 r, .int .u64 t], .agg #[.int .i64 p', .int .i64 q', .int .u64 r', .int .u64 t'], .int .u64 b] w fun e w' => e = .returned (.agg #[.int .i64 (addL b ⟨p, q, r, t⟩ ⟨p', q', r', t'⟩).a, .int .i64 (addL b ⟨p, q, r, t⟩ ⟨p', q', r', t'⟩).b, .int .u64 (addL b ⟨p, q, r, t⟩ ⟨p', q', r', t'⟩).c, .int .u64 (addL b ⟨p, q, r, t⟩ ⟨p', q', r', t'⟩).d]) ∧ Up w w' := by
  have hb0 : 0 ≤ b := by unfold B4 at hb; omega
  have H := Lib.hid hb
  clear hb
  go_enter Tryd.func35, Tryd.ntmps35
  go_upto_if 26 with (fail)
  go_cut [7, 9] (fun s7 s9 wx => s7 = .bool (isCB p q r t) ∧ s9 = .int .u64 (cstv b p q r t) ∧ ((w.alloc (.cells #[.int .i64 p, .int .i64 q, .int .u64 r, .int .u64 t] 45)).alloc (.cells #[.int .i64 p', .int .i64 q', .int .u64 r', .int .u64 t'] 45)).alloc (.cells #[.int .i64 0, .int .i64 0, .int .u64 0, .int .u64 0] 45) = wx)
  case first =>
    by_cases h1 : p = q
    · have e1 : isCB p q r t = true := by simp [isCB, h1]
      have e2 : cstv b p q r t = us 64 (sg b p) := by simp [cstv, h1]
      have hq : (p == q) = true := by simp [h1]
      have E1 := Lib.hid e1
      have E2 := Lib.hid e2
      clear h1 e1 e2
      go_wp2_with (first | (go_at_call 43; refine (c_convU _ _ _ H.out x1).mono ?_; rintro e w1 ⟨rfl, rfl⟩))
      go_meet
      case rel => exact ⟨by rw [E1.out], by rw [E2.out], rfl⟩
    · by_cases h2 : r = t
      · have e1 : isCB p q r t = true := by simp [isCB, h2]
        have e2 : cstv b p q r t = r := by simp [cstv, h1, h2]
        have hq : (p == q) = false := by simp [h1]
        have hr : (r == t) = true := by simp [h2]
        have E1 := Lib.hid e1
        have E2 := Lib.hid e2
        clear h1 h2 e1 e2
        go_wp2_with fail
        go_meet
        case rel => exact ⟨by rw [E1.out], by rw [E2.out], rfl⟩
      · have e1 : isCB p q r t = false := by simp [isCB, h1, h2]
        have e2 : cstv b p q r t = 0 := by simp [cstv, h1, h2]
        have hq : (p == q) = false := by simp [h1]
        have hr : (r == t) = false := by simp [h2]
        have E1 := Lib.hid e1
        have E2 := Lib.hid e2
        clear h1 h2 e1 e2
        go_wp2_with fail
        go_meet
        case rel => exact ⟨by rw [E1.out], by rw [E2.out], rfl⟩
  case rest =>
    obtain ⟨rfl, rfl, rfl⟩ := hcut
    have k1 := cstv_U64 (b := b) (p := p) (q := q) (t := t) H.out x3
    have k2 := cstv_U64 (b := b) (p := p') (q := q') (t := t') H.out y3
    generalize hc1 : isCB p q r t = c1
    generalize hv1 : cstv b p q r t = v1 at k1
    have HC1 := Lib.hid hc1
    have HV1 := Lib.hid hv1
    clear hc1 hv1
    go_upto_if 42 with (fail)
    go_cut [8, 10] (fun s8 s10 wx => s8 = .bool (isCB p' q' r' t') ∧ s10 = .int .u64 (cstv b p' q' r' t') ∧ ((w.alloc (.cells #[.int .i64 p, .int .i64 q, .int .u64 r, .int .u64 t] 45)).alloc (.cells #[.int .i64 p', .int .i64 q', .int .u64 r', .int .u64 t'] 45)).alloc (.cells #[.int .i64 0, .int .i64 0, .int .u64 0, .int .u64 0] 45) = wx)
    case first =>
      by_cases h1 : p' = q'
      · have e1 : isCB p' q' r' t' = true := by simp [isCB, h1]
        have e2 : cstv b p' q' r' t' = us 64 (sg b p') := by simp [cstv, h1]
        have hq : (p' == q') = true := by simp [h1]
        have E1 := Lib.hid e1
        have E2 := Lib.hid e2
        clear h1 e1 e2
        go_wp2_with (first | (go_at_call 43; refine (c_convU _ _ _ H.out y1).mono ?_; rintro e w1 ⟨rfl, rfl⟩))
        go_meet
        case rel => exact ⟨by rw [E1.out], by rw [E2.out], rfl⟩
      · by_cases h2 : r' = t'
        · have e1 : isCB p' q' r' t' = true := by simp [isCB, h2]
          have e2 : cstv b p' q' r' t' = r' := by simp [cstv, h1, h2]
          have hq : (p' == q') = false := by simp [h1]
          have hr : (r' == t') = true := by simp [h2]
          have E1 := Lib.hid e1
          have E2 := Lib.hid e2
          clear h1 h2 e1 e2
          go_wp2_with fail
          go_meet
          case rel => exact ⟨by rw [E1.out], by rw [E2.out], rfl⟩
        · have e1 : isCB p' q' r' t' = false := by simp [isCB, h1, h2]
          have e2 : cstv b p' q' r' t' = 0 := by simp [cstv, h1, h2]
          have hq : (p' == q') = false := by simp [h1]
          have hr : (r' == t') = false := by simp [h2]
          have E1 := Lib.hid e1
          have E2 := Lib.hid e2
          clear h1 h2 e1 e2
          go_wp2_with fail
          go_meet
          case rel => exact ⟨by rw [E1.out], by rw [E2.out], rfl⟩
    case rest =>
      obtain ⟨rfl, rfl, rfl⟩ := hcut
      generalize hc2 : isCB p' q' r' t' = c2
      generalize hv2 : cstv b p' q' r' t' = v2 at k2
      have HC2 := Lib.hid hc2
      have HV2 := Lib.hid hv2
      clear hc2 hv2
      cases hcc : (c1 && c2)
      · have e0 := addL_n (b := b) (l := ⟨p, q, r, t⟩) (m := ⟨p', q', r', t'⟩) (by rw [HC1.out, HC2.out]; exact hcc)
        have E0 := Lib.hid e0
        have HCC := Lib.hid hcc
        clear e0 hcc
        go_upto_region 15 with (fail)
        go_cut [57] (fun s57 wx => s57 = .bool false ∧ ((w.alloc (.cells #[.int .i64 p, .int .i64 q, .int .u64 r, .int .u64 t] 45)).alloc (.cells #[.int .i64 p', .int .i64 q', .int .u64 r', .int .u64 t'] 45)).alloc (.cells #[.int .i64 0, .int .i64 0, .int .u64 0, .int .u64 0] 45) = wx)
        case first =>
          cases c1
          · go_wp2_with fail
            go_meet
            case rel => exact ⟨rfl, rfl⟩
          · obtain rfl : c2 = false := by simpa using HCC.out
            go_wp2_with fail
            go_meet
            case rel => exact ⟨rfl, rfl⟩
        case rest =>
          obtain ⟨rfl, rfl⟩ := hcut
          go_upto_region 23 with (first | (go_at_call 36; refine (c_noLimit _).mono ?_; rintro e w1 ⟨rfl, rfl⟩) | (go_at_call 45; refine (c_safeAdd _ _ _ _ H.out (by first | exact x1 | exact x2) (by first | exact y1 | exact y2)).mono ?_; rintro e w1 ⟨rfl, rfl⟩))
          generalize hfa : fitB b (p + p') = fa
          generalize hfb : fitB b (q + q') = fb
          have HFA := Lib.hid hfa
          have HFB := Lib.hid hfb
          clear hfa hfb
          go_cut [96] (fun s96 wx => s96 = .bool (fa && fb) ∧ (((((w.alloc (.cells #[.int .i64 p, .int .i64 q, .int .u64 r, .int .u64 t] 45)).alloc (.cells #[.int .i64 p', .int .i64 q', .int .u64 r', .int .u64 t'] 45)).alloc (.cells #[.int .i64 0, .int .i64 0, .int .u64 0, .int .u64 0] 45)).alloc (.cells #[.int .i64 (-9223372036854775808), .int .i64 9223372036854775807, .int .u64 0, .int .u64 18446744073709551615] 45)).alloc (.cells #[.int .i64 (-9223372036854775808), .int .i64 9223372036854775807, .int .u64 0, .int .u64 18446744073709551615] 45)).alloc (.cells #[.int .i64 (-9223372036854775808), .int .i64 9223372036854775807, .int .u64 0, .int .u64 18446744073709551615] 45) = wx)
          case first =>
            cases fa <;> cases fb
            all_goals
              go_wp2_with fail
              go_meet
              case rel => exact ⟨rfl, rfl⟩
          case rest =>
            obtain ⟨rfl, rfl⟩ := hcut
            go_upto_if 96 with (fail)
            go_cut [96] (fun s96 wx => s96 = .bool (fa && fb) ∧ (((((w.alloc (.cells #[.int .i64 p, .int .i64 q, .int .u64 r, .int .u64 t] 45)).alloc (.cells #[.int .i64 p', .int .i64 q', .int .u64 r', .int .u64 t'] 45)).alloc (.cells #[.int .i64 0, .int .i64 0, .int .u64 0, .int .u64 0] 45)).alloc (.cells #[.int .i64 (-9223372036854775808), .int .i64 9223372036854775807, .int .u64 0, .int .u64 18446744073709551615] 45)).alloc (.cells #[.int .i64 (-9223372036854775808), .int .i64 9223372036854775807, .int .u64 0, .int .u64 18446744073709551615] 45)).alloc (.cells #[.int .i64 (pick2 (fa && fb) (p + p') (-9223372036854775808)), .int .i64 (pick2 (fa && fb) (q + q') 9223372036854775807), .int .u64 0, .int .u64 18446744073709551615] 45) = wx)
            case first =>
              cases fa <;> cases fb
              all_goals
                go_wp2_with fail
                go_meet
                case rel => exact ⟨rfl, rfl⟩
            case rest =>
              obtain ⟨rfl, rfl⟩ := hcut
              go_upto_region 28 with (first | (go_at_call 46; refine (c_safeAddU _ _ _ _ H.out (by first | exact x3 | exact x4) (by first | exact y3 | exact y4)).mono ?_; rintro e w1 ⟨rfl, rfl⟩))
              generalize hfc : fitU b (r + r') = fc
              generalize hfd : fitU b (t + t') = fd
              have HFC := Lib.hid hfc
              have HFD := Lib.hid hfd
              clear hfc hfd
              go_cut [122] (fun s122 wx => s122 = .bool (fc && fd) ∧ (((((w.alloc (.cells #[.int .i64 p, .int .i64 q, .int .u64 r, .int .u64 t] 45)).alloc (.cells #[.int .i64 p', .int .i64 q', .int .u64 r', .int .u64 t'] 45)).alloc (.cells #[.int .i64 0, .int .i64 0, .int .u64 0, .int .u64 0] 45)).alloc (.cells #[.int .i64 (-9223372036854775808), .int .i64 9223372036854775807, .int .u64 0, .int .u64 18446744073709551615] 45)).alloc (.cells #[.int .i64 (-9223372036854775808), .int .i64 9223372036854775807, .int .u64 0, .int .u64 18446744073709551615] 45)).alloc (.cells #[.int .i64 (pick2 (fa && fb) (p + p') (-9223372036854775808)), .int .i64 (pick2 (fa && fb) (q + q') 9223372036854775807), .int .u64 0, .int .u64 18446744073709551615] 45) = wx)
              case first =>
                cases fc <;> cases fd
                all_goals
                  go_wp2_with fail
                  go_meet
                  case rel => exact ⟨rfl, rfl⟩
              case rest =>
                obtain ⟨rfl, rfl⟩ := hcut
                go_upto_if 122 with (fail)
                go_cut [122] (fun s122 wx => s122 = .bool (fc && fd) ∧ (((((w.alloc (.cells #[.int .i64 p, .int .i64 q, .int .u64 r, .int .u64 t] 45)).alloc (.cells #[.int .i64 p', .int .i64 q', .int .u64 r', .int .u64 t'] 45)).alloc (.cells #[.int .i64 0, .int .i64 0, .int .u64 0, .int .u64 0] 45)).alloc (.cells #[.int .i64 (-9223372036854775808), .int .i64 9223372036854775807, .int .u64 0, .int .u64 18446744073709551615] 45)).alloc (.cells #[.int .i64 (-9223372036854775808), .int .i64 9223372036854775807, .int .u64 0, .int .u64 18446744073709551615] 45)).alloc (.cells #[.int .i64 (pick2 (fa && fb) (p + p') (-9223372036854775808)), .int .i64 (pick2 (fa && fb) (q + q') 9223372036854775807), .int .u64 (pick2 (fc && fd) (r + r') 0), .int .u64 (pick2 (fc && fd) (t + t') 18446744073709551615)] 45) = wx)
                case first =>
                  cases fc <;> cases fd
                  all_goals
                    go_wp2_with fail
                    go_meet
                    case rel => exact ⟨rfl, rfl⟩
                case rest =>
                  obtain ⟨rfl, rfl⟩ := hcut
                  go_wp2_with fail
                  refine bodyPost_ret (v := .agg #[.int .i64 (pick2 (fa && fb) (p + p') (-9223372036854775808)), .int .i64 (pick2 (fa && fb) (q + q') 9223372036854775807), .int .u64 (pick2 (fc && fd) (r + r') 0), .int .u64 (pick2 (fc && fd) (t + t') 18446744073709551615)]) ?_ rfl ⟨by rw [E0.out, HFA.out, HFB.out, HFC.out, HFD.out], ?_⟩
                  · simp [results, Tryd.results35, go_sem]
                  · (repeat (first | exact Up.refl _ | assumption | refine Up.setCell ?_ (by first | omega | (dsimp only; omega) | simp) _ | refine Up.alloc ?_ _ | refine Up.drew ?_ | refine Up.trans ?_ (by assumption)))
      · obtain ⟨rfl, rfl⟩ : c1 = true ∧ c2 = true := by simpa using hcc
        have e0 := addL_c (b := b) (l := ⟨p, q, r, t⟩) (m := ⟨p', q', r', t'⟩) HC1.out HC2.out
        have E0 := Lib.hid e0
        have em := mask_us (x := IntKind.u64.wrap (v1 + v2)) H.out (wrap_U64 _)
        have ew := us_wrap (x := v1 + v2) H.out
        rw [ew] at em
        have hu := us_U64 (x := v1 + v2) H.out
        have EM := Lib.hid em
        clear e0 hcc em ew
        go_wp2_with fail
        rw [EM.out]
        go_wp2_with (first | (go_at_call 44; refine (c_convS _ _ _ H.out hu).mono ?_; rintro e w1 ⟨rfl, rfl⟩))
        refine bodyPost_ret (v := .agg #[.int .i64 (sg b (us b (v1 + v2))), .int .i64 (sg b (us b (v1 + v2))), .int .u64 (us b (v1 + v2)), .int .u64 (us b (v1 + v2))]) ?_ rfl ⟨by rw [E0.out, HV1.out, HV2.out], ?_⟩
        · simp [results, Tryd.results35, go_sem]
        · (repeat (first | exact Up.refl _ | assumption | refine Up.setCell ?_ (by first | omega | (dsimp only; omega) | simp) _ | refine Up.alloc ?_ _ | refine Up.drew ?_ | refine Up.trans ?_ (by assumption)))

end Go.Proofs.YtjfpjcaidjblnaaDoor
