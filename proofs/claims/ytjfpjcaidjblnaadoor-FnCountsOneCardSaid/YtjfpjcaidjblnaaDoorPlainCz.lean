/-
  Plain laws on what Ctz of a limit is. No program in sight.
-/
import Derived.Test.YtjfpjcaidjblnaaDoorCtz
import Derived.Test.YtjfpjcaidjblnaaDoorCounts
namespace Go.Proofs.YtjfpjcaidjblnaaDoor
set_option linter.unusedVariables false
/-- A bound of a limit that is a value. -/
theorem fld2 (p q r t : Int) (w : World) : (Instr.field 24 (.agg #[.int .i64 p, .int .i64 q, .int .u64 r, .int .u64 t]) 2).run Tryd.prog w = .ok (.int .u64 r) w := by kernel_rfl
theorem fld3 (p q r t : Int) (w : World) : (Instr.field 24 (.agg #[.int .i64 p, .int .i64 q, .int .u64 r, .int .u64 t]) 3).run Tryd.prog w = .ok (.int .u64 t) w := by kernel_rfl
theorem keep5 {w w' : World} {a0 a1 a2 a3 a4 : Addr} {v0 v1 v2 v3 v4 : Value} (h : Up w w') (k : w.cell? a0 = some v0 ∧ w.cell? a1 = some v1 ∧ w.cell? a2 = some v2 ∧ w.cell? a3 = some v3 ∧ w.cell? a4 = some v4) :
    w'.cell? a0 = some v0 ∧ w'.cell? a1 = some v1 ∧ w'.cell? a2 = some v2 ∧ w'.cell? a3 = some v3 ∧ w'.cell? a4 = some v4 := ⟨h.later k.1, h.later k.2.1, h.later k.2.2.1, h.later k.2.2.2.1, h.later k.2.2.2.2⟩
theorem trail_is {b x : Int} (hb : B4 b) (h : U64 x) : Lib.ctzFrom b.toNat x.toNat = min (Lib.ctz 64 (us b x).toNat) b.toNat := by
  obtain ⟨b1, b2⟩ := hb.bd
  rw [← from_is (by omega) (us_lt hb h), hb.us h, Int.toNat_natCast, from_mod]
theorem trail_bd {b x : Int} (hb : B4 b) (h : U64 x) : Lib.ctzFrom b.toNat x.toNat ≤ 64 := by
  obtain ⟨b1, b2⟩ := hb.bd
  rw [trail_is hb h]
  omega
theorem cz_sound {b x r t : Int} (hb : B4 b) (h : U64 x) (hr : U64 r) (ht : U64 t) (h1 : r ≤ us b x) (h2 : us b x ≤ t) :
    mt ⟨(cz b r t).a, (cz b r t).b, (cz b r t).c, (cz b r t).d⟩ (Lib.ctzFrom b.toNat x.toNat) (Lib.ctzFrom b.toNat x.toNat) = true := by
  obtain ⟨b1, b2⟩ := hb.bd
  have bd := trail_bd hb h
  have e := trail_is hb h
  have r0 := hr.1
  have ub := us_U64 (x := x) hb
  have k1 : r.toNat ≤ (us b x).toNat := by omega
  have k2 : (us b x).toNat ≤ t.toNat := by omega
  have tz : (us b x).toNat % 2 ^ Lib.ctzFrom b.toNat x.toNat = 0 := by
    rw [e]
    exact mod_less (ctz_mod _ ub.lt) (by omega)
  rw [mt_iff]
  dsimp only
  unfold cz
  by_cases h0 : vr r t = 0
  · rw [if_pos h0]
    have hq : r.toNat = t.toNat := vn_eq hr.lt ht.lt (by rw [← vr_vn]; exact h0)
    have hu : (us b x).toNat = r.toNat := by omega
    rw [hu] at e
    rw [e]
    dsimp only
    omega
  · rw [if_neg h0]
    by_cases hl : r % 2 ^ vr r t = 0
    · rw [if_pos hl]
      dsimp only
      have f := ctz_fixed (b := b.toNat) hr.lt ht.lt k1 k2
      rw [← e, ← vr_vn] at f
      rw [hi_nat r0, Int.toNat_natCast, lst64, grt64]
      omega
    · rw [if_neg hl]
      dsimp only
      have f := ctz_low (T := Lib.ctzFrom b.toNat x.toNat) hr.lt ht.lt k1 k2 (by rw [← vr_vn]; rw [mod_nat r0] at hl; omega) tz
      rw [← vr_vn] at f
      rw [lst64, grt64]
      omega
theorem cz_fits {b r t : Int} (hb : B4 b) (hr : r.toNat < 2 ^ b.toNat) (ht : t.toNat < 2 ^ b.toNat) : (cz b r t).d ≤ b := by
  obtain ⟨b1, b2⟩ := hb.bd
  have v := vn_fits hr ht
  rw [← vr_vn] at v
  unfold cz
  split
  · dsimp only; omega
  · split <;> dsimp only <;> omega
theorem cz_agree {b r t u : Int} (hb : B4 b) (hr : U64 r) (ht : U64 t) (h1 : r ≤ u) (h2 : u ≤ t) (hu : 0 < u) : (cz b r t).c < (Lib.bitLen t.toNat : Int) := by
  have r0 := hr.1
  have ht' := ht.lt
  unfold cz
  by_cases h0 : vr r t = 0
  · rw [if_pos h0]
    dsimp only
    have hq : r.toNat = t.toNat := vn_eq hr.lt ht.lt (by rw [← vr_vn]; exact h0)
    have c := ctz_len (u := t.toNat) (by omega) ht'
    rw [hq]
    omega
  · rw [if_neg h0]
    have g : 0 < Lib.bitLen t.toNat := by
      obtain ⟨k, e, _⟩ := len_ge (x := t.toNat) (by omega) ht'
      omega
    split <;> dsimp only <;> omega
theorem pop_agree {r t u : Int} (hr : U64 r) (ht : U64 t) (h1 : r ≤ u) (h2 : u ≤ t) : (pmn r.toNat t.toNat : Int) ≤ (Lib.bitLen t.toNat : Int) := by
  have r0 := hr.1
  have ht' := ht.lt
  have a := pop_sound (u := u.toNat) hr.lt ht.lt (by omega) (by omega)
  have c := pop_len (u := u.toNat) (by omega)
  have d := len_mono (x := u.toNat) (y := t.toNat) (by omega) ht'
  omega
theorem pop_fit {b r t u : Int} (hb : B4 b) (hr0 : 0 ≤ r) (hr : r.toNat < 2 ^ b.toNat) (ht : t.toNat < 2 ^ b.toNat) (h1 : r ≤ u) (h2 : u ≤ t) : (pmx r.toNat t.toNat : Int) ≤ b := by
  obtain ⟨b1, b2⟩ := hb.bd
  have a := pmx_fits (b := b.toNat) (by omega) hr ht (by omega)
  omega
theorem len_fit {b t : Int} (hb : B4 b) (ht : t.toNat < 2 ^ b.toNat) : (Lib.bitLen t.toNat : Int) ≤ b := by
  obtain ⟨b1, b2⟩ := hb.bd
  have := len_le ht
  omega
theorem cz_one {b x : Int} (hb : B4 b) (h : U64 x) : cz b (us b x) (us b x) = ⟨Lib.ctzFrom b.toNat x.toNat, Lib.ctzFrom b.toNat x.toNat, Lib.ctzFrom b.toNat x.toNat, Lib.ctzFrom b.toNat x.toNat⟩ := by
  obtain ⟨b1, b2⟩ := hb.bd
  have e : min (Lib.ctz 64 (us b x).toNat : Int) b = (Lib.ctzFrom b.toNat x.toNat : Int) := by
    rw [trail_is hb h]
    omega
  unfold cz
  rw [if_pos (by rw [vr_vn, vn_self]), e]
theorem pmn_one (u : Nat) (h : u < 2 ^ 64) : pmn u u = Lib.popAux 64 u ∧ pmx u u = Lib.popAux 64 u := by
  obtain ⟨v, a, c, e⟩ := pop_least h h (Nat.le_refl u)
  obtain rfl : v = u := by omega
  obtain ⟨y, a2, c2, e2⟩ := pop_most h h (Nat.le_refl v)
  obtain rfl : y = v := by omega
  exact ⟨e.symm, e2.symm⟩
end Go.Proofs.YtjfpjcaidjblnaaDoor
