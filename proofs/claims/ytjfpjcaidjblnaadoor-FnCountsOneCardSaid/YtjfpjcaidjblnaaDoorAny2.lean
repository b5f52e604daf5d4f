/-
  A region that draws its order and holds two calls in a row (numbers 2, 5) beside two new blocks (6, 7) that may come up at any time: whatever the order, one end. No program in sight.
-/
import Derived.Test.YtjfpjcaidjblnaaDoorBase
namespace Go.Proofs.YtjfpjcaidjblnaaDoor
open Go.RowKit

/-- The four slots, set. -/
def put4 (a : Act) (d0 d1 k0 k1 : Nat) (p0 p1 q0 q1 : Value) : Act :=
  (((a.put (some d0) p0).put (some d1) p1).put (some k0) q0).put (some k1) q1
/-- Who has come up. -/
def who (c0 c1 e0 e1 : Bool) : Array Bool := #[true, true, c0, true, true, c1, e0, e1, false, false]
/-- What may come up, told. -/
def mayB (c0 c1 e0 e1 : Bool) (i : Nat) : Bool :=
  (i == 2 && !c0) || (i == 5 && c0 && !c1) || (i == 6 && !e0) || (i == 7 && !e1) || (i == 8 && c0 && c1 && e0 && e1)
def bools : List Bool := [false, true]
def readyOk (ops : Array Oper) : Bool :=
  bools.all fun c0 => bools.all fun c1 => bools.all fun e0 => bools.all fun e1 =>
    (c1 && !c0) || ((Region.ready .any ops (who c0 c1 e0 e1)).all (mayB c0 c1 e0 e1) && ((c0 && c1 && e0 && e1) || !(Region.ready .any ops (who c0 c1 e0 e1)).isEmpty))
theorem mem_bools (b : Bool) : b ∈ bools := by cases b <;> simp [bools]
theorem readyOk_spec {ops : Array Oper} (h : readyOk ops = true) (c0 c1 e0 e1 : Bool) (h1 : c1 = true → c0 = true) :
    (∀ i ∈ Region.ready .any ops (who c0 c1 e0 e1), mayB c0 c1 e0 e1 i = true) ∧
    (¬ (c0 = true ∧ c1 = true ∧ e0 = true ∧ e1 = true) → Region.ready .any ops (who c0 c1 e0 e1) ≠ []) := by
  unfold readyOk at h
  have h := List.all_eq_true.1 (List.all_eq_true.1 (List.all_eq_true.1 (List.all_eq_true.1 h c0 (mem_bools _)) c1 (mem_bools _)) e0 (mem_bools _)) e1 (mem_bools _)
  have g1 : (c1 && !c0) = false := by revert h1; cases c0 <;> cases c1 <;> simp
  rw [g1, Bool.false_or, Bool.and_eq_true] at h
  refine ⟨fun i hi => List.all_eq_true.1 h.1 i hi, fun h3 e => ?_⟩
  have h := h.2
  rw [e] at h
  revert h3 h
  cases c0 <;> cases c1 <;> cases e0 <;> cases e1 <;> simp

/-- A block of four zeros, made by the call. -/
def Zb (w0 w : World) (B : Nat) : Prop :=
  w0.heap.size ≤ B ∧ Blk w B 0 0 0 0 ∧ ∀ o, w.frozen? ⟨B, o, none⟩ = false
theorem Zb.later {w0 w w' : World} {B : Nat} (k : Zb w0 w B) (h : Up w w') : Zb w0 w' B :=
  ⟨k.1, k.2.1.later h, fun o => by rw [h.frozens B o k.2.1.lt]; exact k.2.2 o⟩
theorem Zb.new {w0 w : World} (h : Up w0 w) (T : TypeId) : Zb w0 (w.alloc (.cells #[.int .i64 0, .int .i64 0, .int .u64 0, .int .u64 0] T)) w.heap.size :=
  ⟨h.le, by unfold Blk; simp [go_sem], fun o => by simp [go_sem]⟩
theorem Zb.lt {w0 w : World} {B : Nat} (k : Zb w0 w B) : B < w.heap.size := k.2.1.lt

theorem wpOp_stepS {P : Program} {ops : Array Oper} {Q : Exit → Act → World → Prop} {i : Nat} {o : Oper} {K : Act → World → Prop} {a : Act} {w : World} (ho : ops[i]? = some o)
    (h : ∀ K' : Act → World → Prop, Shut (∀ a w, K a w → K' a w) → if Region.wanted o (yielded ops a.tmps) = true then Oper.wp P o a w K' Q else K' (a.put o.dst undef) w) : wpOp P ops Q i K a w :=
  wpOp_step ho fun K' hK => h K' hK

def ptr (B : Nat) : Value := .pointer (some ⟨B, 0, none⟩)

theorem any2 {P : Program} {ops : Array Oper} {Q : Exit → Act → World → Prop} {S : World → Prop} (hr : readyOk ops = true) (a : Act) (d0 d1 k0 k1 : Nat) (T : TypeId) (w0 : World) (A0 A1 : Value)
    (hc0 : ∀ p0 p1 q0 q1 w, S w → Up w0 w → wpOp P ops Q 2 (fun a' w' => a' = put4 a d0 d1 k0 k1 p0 p1 A0 q1 ∧ S w' ∧ Up w w') (put4 a d0 d1 k0 k1 p0 p1 q0 q1) w)
    (hc1 : ∀ p0 p1 q0 q1 w, S w → Up w0 w → wpOp P ops Q 5 (fun a' w' => a' = put4 a d0 d1 k0 k1 p0 p1 q0 A1 ∧ S w' ∧ Up w w') (put4 a d0 d1 k0 k1 p0 p1 q0 q1) w)
    (he0 : ∀ p0 p1 q0 q1 w, S w → wpOp P ops Q 6 (fun a' w' => a' = put4 a d0 d1 k0 k1 (ptr w.heap.size) p1 q0 q1 ∧ S w' ∧ w' = w.alloc (.cells #[.int .i64 0, .int .i64 0, .int .u64 0, .int .u64 0] T)) (put4 a d0 d1 k0 k1 p0 p1 q0 q1) w)
    (he1 : ∀ p0 p1 q0 q1 w, S w → wpOp P ops Q 7 (fun a' w' => a' = put4 a d0 d1 k0 k1 p0 (ptr w.heap.size) q0 q1 ∧ S w' ∧ w' = w.alloc (.cells #[.int .i64 0, .int .i64 0, .int .u64 0, .int .u64 0] T)) (put4 a d0 d1 k0 k1 p0 p1 q0 q1) w)
    (hfin : ∀ B0 B1 w, S w → Up w0 w → Zb w0 w B0 → Zb w0 w B1 → B0 ≠ B1 → wpAnyH P .any ops Q S 2 (who true true true true) (put4 a d0 d1 k0 k1 (ptr B0) (ptr B1) A0 A1) w) :
    ∀ (n : Nat) (c0 c1 e0 e1 : Bool) (p0 p1 q0 q1 : Value) (B0 B1 : Nat) (w : World),
      n + c0.toNat + c1.toNat + e0.toNat + e1.toNat = 6 → (c1 = true → c0 = true) → S w → Up w0 w →
      (c0 = true → q0 = A0) → (c1 = true → q1 = A1) →
      (e0 = true → p0 = ptr B0 ∧ Zb w0 w B0) → (e1 = true → p1 = ptr B1 ∧ Zb w0 w B1) →
      (e0 = true → e1 = true → B0 ≠ B1) →
      wpAnyH P .any ops Q S n (who c0 c1 e0 e1) (put4 a d0 d1 k0 k1 p0 p1 q0 q1) w := by
  intro n
  induction n with
  | zero =>
    intro c0 c1 e0 e1 p0 p1 q0 q1 B0 B1 w hn
    exfalso
    have := Bool.toNat_le c0
    have := Bool.toNat_le c1
    have := Bool.toNat_le e0
    have := Bool.toNat_le e1
    omega
  | succ n ih =>
    intro c0 c1 e0 e1 p0 p1 q0 q1 B0 B1 w hn h10 hS hU hq0 hq1 hp0 hp1 h01
    by_cases hall : c0 = true ∧ c1 = true ∧ e0 = true ∧ e1 = true
    · obtain ⟨rfl, rfl, rfl, rfl⟩ := hall
      obtain rfl : n = 1 := by simp at hn; omega
      obtain rfl := hq0 rfl
      obtain rfl := hq1 rfl
      obtain ⟨rfl, z0⟩ := hp0 rfl
      obtain ⟨rfl, z1⟩ := hp1 rfl
      exact hfin B0 B1 w hS hU z0 z1 (h01 rfl rfl)
    · obtain ⟨hm, hne⟩ := readyOk_spec hr c0 c1 e0 e1 h10
      refine wpAnyH_all rfl (hne hall) fun i hi => ?_
      have hmi := hm i hi
      simp only [mayB, Bool.or_eq_true, Bool.and_eq_true, beq_iff_eq, Bool.not_eq_true'] at hmi
      rcases hmi with ((((⟨rfl, rfl⟩ | ⟨⟨rfl, rfl⟩, rfl⟩) | ⟨rfl, rfl⟩) | ⟨rfl, rfl⟩) | hlast)
      · refine wpOp_mono ?_ (hc0 p0 p1 q0 q1 w hS hU)
        rintro a' w' ⟨rfl, hS', hup⟩
        exact ⟨hS', ih true c1 e0 e1 p0 p1 A0 q1 B0 B1 w' (by simp at hn ⊢; omega) (fun _ => rfl) hS' (hU.trans hup) (fun _ => rfl) hq1 (fun h => ⟨(hp0 h).1, (hp0 h).2.later hup⟩) (fun h => ⟨(hp1 h).1, (hp1 h).2.later hup⟩) h01⟩
      · refine wpOp_mono ?_ (hc1 p0 p1 q0 q1 w hS hU)
        rintro a' w' ⟨rfl, hS', hup⟩
        exact ⟨hS', ih true true e0 e1 p0 p1 q0 A1 B0 B1 w' (by simp at hn ⊢; omega) (fun _ => rfl) hS' (hU.trans hup) hq0 (fun _ => rfl) (fun h => ⟨(hp0 h).1, (hp0 h).2.later hup⟩) (fun h => ⟨(hp1 h).1, (hp1 h).2.later hup⟩) h01⟩
      · refine wpOp_mono ?_ (he0 p0 p1 q0 q1 w hS)
        rintro a' w' ⟨rfl, hS', rfl⟩
        have hup := (Up.refl w).alloc (.cells #[.int .i64 0, .int .i64 0, .int .u64 0, .int .u64 0] T)
        exact ⟨hS', ih c0 c1 true e1 _ p1 q0 q1 w.heap.size B1 _ (by simp at hn ⊢; omega) h10 hS' (hU.trans hup) hq0 hq1 (fun _ => ⟨rfl, Zb.new hU T⟩) (fun h => ⟨(hp1 h).1, (hp1 h).2.later hup⟩) (fun _ h => by have := (hp1 h).2.lt; omega)⟩
      · refine wpOp_mono ?_ (he1 p0 p1 q0 q1 w hS)
        rintro a' w' ⟨rfl, hS', rfl⟩
        have hup := (Up.refl w).alloc (.cells #[.int .i64 0, .int .i64 0, .int .u64 0, .int .u64 0] T)
        exact ⟨hS', ih c0 c1 e0 true p0 _ q0 q1 B0 w.heap.size _ (by simp at hn ⊢; omega) h10 hS' (hU.trans hup) hq0 hq1 (fun h => ⟨(hp0 h).1, (hp0 h).2.later hup⟩) (fun _ => ⟨rfl, Zb.new hU T⟩) (fun h _ => by have := (hp0 h).2.lt; omega)⟩
      · exact absurd ⟨hlast.1.1.1.2, hlast.1.1.2, hlast.1.2, hlast.2⟩ hall
/-- From the beginning. -/
theorem any2' {P : Program} {ops : Array Oper} {Q : Exit → Act → World → Prop} {S : World → Prop} {n : Nat} {listed : Array Bool} {a : Act} {w : World} (d0 d1 k0 k1 : Nat) (T : TypeId) (A0 A1 : Value) (W : World) (hn : n = 6) (hl : listed = who false false false false) (hr : readyOk ops = true)
    (ha : a = put4 a d0 d1 k0 k1 undef undef undef undef) (hS : S w) (hW : Up W w)
    (hc0 : ∀ p0 p1 q0 q1 w, S w → Up W w → wpOp P ops Q 2 (fun a' w' => a' = put4 a d0 d1 k0 k1 p0 p1 A0 q1 ∧ S w' ∧ Up w w') (put4 a d0 d1 k0 k1 p0 p1 q0 q1) w)
    (hc1 : ∀ p0 p1 q0 q1 w, S w → Up W w → wpOp P ops Q 5 (fun a' w' => a' = put4 a d0 d1 k0 k1 p0 p1 q0 A1 ∧ S w' ∧ Up w w') (put4 a d0 d1 k0 k1 p0 p1 q0 q1) w)
    (he0 : ∀ p0 p1 q0 q1 w, S w → wpOp P ops Q 6 (fun a' w' => a' = put4 a d0 d1 k0 k1 (ptr w.heap.size) p1 q0 q1 ∧ S w' ∧ w' = w.alloc (.cells #[.int .i64 0, .int .i64 0, .int .u64 0, .int .u64 0] T)) (put4 a d0 d1 k0 k1 p0 p1 q0 q1) w)
    (he1 : ∀ p0 p1 q0 q1 w, S w → wpOp P ops Q 7 (fun a' w' => a' = put4 a d0 d1 k0 k1 p0 (ptr w.heap.size) q0 q1 ∧ S w' ∧ w' = w.alloc (.cells #[.int .i64 0, .int .i64 0, .int .u64 0, .int .u64 0] T)) (put4 a d0 d1 k0 k1 p0 p1 q0 q1) w)
    (hfin : ∀ w0, S w0 → Up W w0 → ∀ B0 B1 w, S w → Up w0 w → Zb w0 w B0 → Zb w0 w B1 → B0 ≠ B1 → wpAnyH P .any ops Q S 2 (who true true true true) (put4 a d0 d1 k0 k1 (ptr B0) (ptr B1) A0 A1) w) :
    wpAnyH P .any ops Q S n listed a w := by
  subst hn hl
  have := any2 hr a d0 d1 k0 k1 T w A0 A1 (fun p0 p1 q0 q1 w' h u => hc0 p0 p1 q0 q1 w' h (hW.trans u)) (fun p0 p1 q0 q1 w' h u => hc1 p0 p1 q0 q1 w' h (hW.trans u)) he0 he1 (hfin w hS hW) 6 false false false false undef undef undef undef 0 0 w rfl (fun h => by cases h) hS (Up.refl _) (fun h => by cases h) (fun h => by cases h) (fun h => by cases h) (fun h => by cases h) (fun h => by cases h)
  rwa [← ha] at this
/-! ### A limit stored in its block -/
theorem st4_blk {w0 w : World} {B : Nat} (k : Zb w0 w B) (p q r t : Int) :
    Blk ((((w.setCell ⟨B, 0, none⟩ (.int .i64 p)).setCell ⟨B, 1, none⟩ (.int .i64 q)).setCell ⟨B, 2, none⟩ (.int .u64 r)).setCell ⟨B, 3, none⟩ (.int .u64 t)) B p q r t := by
  obtain ⟨_, ⟨z0, z1, z2, z3⟩, fz⟩ := k
  have f0 := fz 0
  have f1 := fz 1
  have f2 := fz 2
  have f3 := fz 3
  clear fz
  unfold Blk
  simp [go_sem, *]
theorem st4_other {w : World} {B C : Nat} (h : B ≠ C) {a b c d : Int} (k : Blk w C a b c d) (p q r t : Int) :
    Blk ((((w.setCell ⟨B, 0, none⟩ (.int .i64 p)).setCell ⟨B, 1, none⟩ (.int .i64 q)).setCell ⟨B, 2, none⟩ (.int .u64 r)).setCell ⟨B, 3, none⟩ (.int .u64 t)) C a b c d := by
  obtain ⟨z0, z1, z2, z3⟩ := k
  refine ⟨?_, ?_, ?_, ?_⟩ <;> (rw [World.cell?_setCell_far _ _ _ _ h, World.cell?_setCell_far _ _ _ _ h, World.cell?_setCell_far _ _ _ _ h, World.cell?_setCell_far _ _ _ _ h]; assumption)
theorem st4_up {w0 w : World} {B : Nat} (h : Up w0 w) (ge : w0.heap.size ≤ B) (p q r t : Int) :
    Up w0 ((((w.setCell ⟨B, 0, none⟩ (.int .i64 p)).setCell ⟨B, 1, none⟩ (.int .i64 q)).setCell ⟨B, 2, none⟩ (.int .u64 r)).setCell ⟨B, 3, none⟩ (.int .u64 t)) :=
  (((h.setCell (p := ⟨B, 0, none⟩) ge _).setCell (p := ⟨B, 1, none⟩) ge _).setCell (p := ⟨B, 2, none⟩) ge _).setCell (p := ⟨B, 3, none⟩) ge _
theorem st4_zb {w0 w : World} {B C : Nat} (h : B ≠ C) (k : Zb w0 w C) (p q r t : Int) :
    Zb w0 ((((w.setCell ⟨B, 0, none⟩ (.int .i64 p)).setCell ⟨B, 1, none⟩ (.int .i64 q)).setCell ⟨B, 2, none⟩ (.int .u64 r)).setCell ⟨B, 3, none⟩ (.int .u64 t)) C :=
  ⟨k.1, st4_other h k.2.1 p q r t, fun o => by have := k.2.2 o; simp [go_sem, this]⟩
section
variable {P : Program} {md : Region.Mode} {ops : Array Oper} {Q : Exit → Act → World → Prop} {S : World → Prop} {n : Nat} {listed : Array Bool} {a : Act} {w0 w : World} {B0 B1 : Nat} {p q r t p0 q0 r0 t0 : Int}
theorem then_st1 (hu : Up w0 w) (z0 : Zb w0 w B0) (z1 : Zb w0 w B1) (n01 : B0 ≠ B1)
    (h : ∀ w1, Up w0 w1 → Blk w1 B0 p q r t → Zb w0 w1 B1 → wpAnyH P md ops Q S n listed a w1) :
    wpAnyH P md ops Q S n listed a ((((w.setCell ⟨B0, 0, none⟩ (.int .i64 p)).setCell ⟨B0, 1, none⟩ (.int .i64 q)).setCell ⟨B0, 2, none⟩ (.int .u64 r)).setCell ⟨B0, 3, none⟩ (.int .u64 t)) :=
  h _ (st4_up hu z0.1 _ _ _ _) (st4_blk z0 _ _ _ _) (st4_zb n01 z1 _ _ _ _)
theorem then_st2 (hu : Up w0 w) (z0 : Blk w B0 p0 q0 r0 t0) (z1 : Zb w0 w B1) (n10 : B1 ≠ B0)
    (h : ∀ w1, Up w0 w1 → Blk w1 B0 p0 q0 r0 t0 → Blk w1 B1 p q r t → wpAnyH P md ops Q S n listed a w1) :
    wpAnyH P md ops Q S n listed a ((((w.setCell ⟨B1, 0, none⟩ (.int .i64 p)).setCell ⟨B1, 1, none⟩ (.int .i64 q)).setCell ⟨B1, 2, none⟩ (.int .u64 r)).setCell ⟨B1, 3, none⟩ (.int .u64 t)) :=
  h _ (st4_up hu z1.1 _ _ _ _) (st4_other n10 z0 _ _ _ _) (st4_blk z1 _ _ _ _)
end
end Go.Proofs.YtjfpjcaidjblnaaDoor
