/-
  spec.Counts: a contract; and the plain laws on counts as the walks spell them.
-/
import Derived.Test.YtjfpjcaidjblnaaDoorPlainFix
import Derived.Test.YtjfpjcaidjblnaaDoorBitl
namespace Go.Proofs.YtjfpjcaidjblnaaDoor
open Go.RowKit
set_option linter.unusedVariables false
theorem c_Counts (p q r t n : Int) (w : World) (h0 : 0 ≤ n) (h1 : n ≤ 64) :
    Calls Tryd.prog 20 #[.agg #[.int .i64 p, .int .i64 q, .int .u64 r, .int .u64 t], .int .i64 n] w fun e w' => e = .returned (.bool (mt ⟨p, q, r, t⟩ n n)) ∧ Up w w' := by
  have e1 : sg 64 n = n := sg64 (by unfold I64; omega)
  have e2 : us 64 n = n := us64 (by unfold U64; omega)
  have c := fun w => c_Meets p q r t n 64 w b64 (by unfold U64; omega)
  rw [e1, e2] at c
  clear e1 e2
  go_enter Tryd.func20, Tryd.ntmps20
  go_wp2_with fail
  refine (c _).mono ?_
  rintro e w1 ⟨rfl, h1⟩
  go_wp2_with fail
  go_ret
  refine ⟨rfl, ?_⟩
  (repeat (first | exact Up.refl _ | assumption | refine Up.setCell ?_ (by first | omega | (dsimp only; omega) | simp) _ | refine Up.alloc ?_ _ | refine Up.drew ?_ | refine Up.trans ?_ (by assumption)))
theorem keepA {w w' : World} {a0 a1 a2 a3 : Addr} {v0 v1 v2 v3 : Value} (h : Up w w') (k : w.cell? a0 = some v0 ∧ w.cell? a1 = some v1 ∧ w.cell? a2 = some v2 ∧ w.cell? a3 = some v3) :
    w'.cell? a0 = some v0 ∧ w'.cell? a1 = some v1 ∧ w'.cell? a2 = some v2 ∧ w'.cell? a3 = some v3 := ⟨h.later k.1, h.later k.2.1, h.later k.2.2.1, h.later k.2.2.2⟩
/-- A number of fewer bits. -/
theorem us_lt {b x : Int} (hb : B4 b) (h : U64 x) : (us b x).toNat < 2 ^ b.toNat := by
  rw [hb.us h, Int.toNat_natCast]
  exact Nat.mod_lt _ (two_pos _)
theorem us_us {b x : Int} (hb : B4 b) : us b (us b x) = us b x := by
  unfold us
  rcases hb with rfl | rfl | rfl | rfl
  · rw [pw8]; omega
  · rw [pw16]; omega
  · rw [pw32]; omega
  · rw [pw64]; omega
theorem len_bd {x : Int} (h : U64 x) : Lib.bitLen x.toNat ≤ 64 := bitLen_le64 h
theorem len_sound {r t u : Int} (hr : U64 r) (ht : U64 t) (h1 : r ≤ u) (h2 : u ≤ t) :
    mt ⟨lst 64, grt 64, Lib.bitLen r.toNat, Lib.bitLen t.toNat⟩ (Lib.bitLen u.toNat) (Lib.bitLen u.toNat) = true := by
  have r0 := hr.1
  have t1 := ht.lt
  have a := len_mono (x := r.toNat) (y := u.toNat) (by omega) (by omega)
  have b := len_mono (x := u.toNat) (y := t.toNat) (by omega) (by omega)
  have c := bitLen_le64 ht
  rw [mt_iff]
  dsimp only
  rw [lst64, grt64]
  omega
theorem ones_is {b x : Int} (hb : B4 b) (h : U64 x) : Lib.popAux b.toNat x.toNat = Lib.popAux 64 (us b x).toNat := by
  obtain ⟨b1, b2⟩ := hb.bd
  rw [hb.us h, Int.toNat_natCast, ← pop_bits (by omega)]
theorem pop_meets {r t u : Int} (hr : U64 r) (ht : U64 t) (h1 : r ≤ u) (h2 : u ≤ t) :
    mt ⟨lst 64, grt 64, pmn r.toNat t.toNat, pmx r.toNat t.toNat⟩ (Lib.popAux 64 u.toNat) (Lib.popAux 64 u.toNat) = true := by
  have r0 := hr.1
  have a := pop_sound (u := u.toNat) hr.lt ht.lt (by omega) (by omega)
  have c := pop_le 64 u.toNat
  rw [mt_iff]
  dsimp only
  rw [lst64, grt64]
  omega
end Go.Proofs.YtjfpjcaidjblnaaDoor
