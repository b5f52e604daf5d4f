/-
  More small lemmas for the walks.
-/
import Derived.Test.YtlophbgeclojdaaBase
namespace Go.Proofs.Ytlophbgeclojdaa
open Go.RowKit

theorem Up.lts {W w1 : World} (h : Up W w1) : ∀ b, b < W.heap.size → b < w1.heap.size := fun _ hb => Nat.lt_of_lt_of_le hb h.le
theorem keep16 {w w' : World} {b c d f : Nat} {v0 v1 v2 v3 v4 v5 v6 v7 v8 v9 v10 v11 v12 v13 v14 v15 : Value} (h : Up w w')
    (k : w.cell? ⟨b, 0, none⟩ = some v0 ∧ w.cell? ⟨b, 1, none⟩ = some v1 ∧ w.cell? ⟨b, 2, none⟩ = some v2 ∧ w.cell? ⟨b, 3, none⟩ = some v3 ∧ w.cell? ⟨c, 0, none⟩ = some v4 ∧ w.cell? ⟨c, 1, none⟩ = some v5 ∧ w.cell? ⟨c, 2, none⟩ = some v6 ∧ w.cell? ⟨c, 3, none⟩ = some v7 ∧ w.cell? ⟨d, 0, none⟩ = some v8 ∧ w.cell? ⟨d, 1, none⟩ = some v9 ∧ w.cell? ⟨d, 2, none⟩ = some v10 ∧ w.cell? ⟨d, 3, none⟩ = some v11 ∧ w.cell? ⟨f, 0, none⟩ = some v12 ∧ w.cell? ⟨f, 1, none⟩ = some v13 ∧ w.cell? ⟨f, 2, none⟩ = some v14 ∧ w.cell? ⟨f, 3, none⟩ = some v15) :
    w'.cell? ⟨b, 0, none⟩ = some v0 ∧ w'.cell? ⟨b, 1, none⟩ = some v1 ∧ w'.cell? ⟨b, 2, none⟩ = some v2 ∧ w'.cell? ⟨b, 3, none⟩ = some v3 ∧ w'.cell? ⟨c, 0, none⟩ = some v4 ∧ w'.cell? ⟨c, 1, none⟩ = some v5 ∧ w'.cell? ⟨c, 2, none⟩ = some v6 ∧ w'.cell? ⟨c, 3, none⟩ = some v7 ∧ w'.cell? ⟨d, 0, none⟩ = some v8 ∧ w'.cell? ⟨d, 1, none⟩ = some v9 ∧ w'.cell? ⟨d, 2, none⟩ = some v10 ∧ w'.cell? ⟨d, 3, none⟩ = some v11 ∧ w'.cell? ⟨f, 0, none⟩ = some v12 ∧ w'.cell? ⟨f, 1, none⟩ = some v13 ∧ w'.cell? ⟨f, 2, none⟩ = some v14 ∧ w'.cell? ⟨f, 3, none⟩ = some v15 :=
  ⟨h.later k.1, h.later k.2.1, h.later k.2.2.1, h.later k.2.2.2.1, h.later k.2.2.2.2.1, h.later k.2.2.2.2.2.1, h.later k.2.2.2.2.2.2.1, h.later k.2.2.2.2.2.2.2.1, h.later k.2.2.2.2.2.2.2.2.1, h.later k.2.2.2.2.2.2.2.2.2.1, h.later k.2.2.2.2.2.2.2.2.2.2.1, h.later k.2.2.2.2.2.2.2.2.2.2.2.1, h.later k.2.2.2.2.2.2.2.2.2.2.2.2.1, h.later k.2.2.2.2.2.2.2.2.2.2.2.2.2.1, h.later k.2.2.2.2.2.2.2.2.2.2.2.2.2.2.1, h.later k.2.2.2.2.2.2.2.2.2.2.2.2.2.2.2⟩
theorem blk_new (w : World) (T : TypeId) (p q r t : Int) : Blk (w.alloc (.cells #[.int .i64 p, .int .i64 q, .int .u64 r, .int .u64 t] T)) w.heap.size p q r t := by
  unfold Blk
  simp [go_sem]
/-- A new block of zeros, not frozen. -/
def Blz (w : World) (b : Nat) : Prop :=
  Blk w b 0 0 0 0 ∧ w.frozen? ⟨b, 0, none⟩ = false ∧ w.frozen? ⟨b, 1, none⟩ = false ∧ w.frozen? ⟨b, 2, none⟩ = false ∧ w.frozen? ⟨b, 3, none⟩ = false
theorem blz_new (w : World) (T : TypeId) : Blz (w.alloc (.cells #[.int .i64 0, .int .i64 0, .int .u64 0, .int .u64 0] T)) w.heap.size := by
  unfold Blz Blk
  simp [go_sem]
theorem blz_new' (w : World) (T : TypeId) {c : Nat} (h : w.heap.size = c) : Blz (w.alloc (.cells #[.int .i64 0, .int .i64 0, .int .u64 0, .int .u64 0] T)) c := h ▸ blz_new w T
theorem Blz.later {w w' : World} {b : Nat} (k : Blz w b) (h : Up w w') : Blz w' b := by
  have hb := k.1.lt
  obtain ⟨k1, k2, k3, k4, k5⟩ := k
  exact ⟨k1.later h, by rw [h.frozens b 0 hb, k2], by rw [h.frozens b 1 hb, k3], by rw [h.frozens b 2 hb, k4], by rw [h.frozens b 3 hb, k5]⟩
theorem far4 {w : World} {b c o : Nat} {p q r t : Int} (h : c ≠ b) : ((((w.setCell ⟨c, 0, none⟩ (.int .i64 p)).setCell ⟨c, 1, none⟩ (.int .i64 q)).setCell ⟨c, 2, none⟩ (.int .u64 r)).setCell ⟨c, 3, none⟩ (.int .u64 t)).cell? ⟨b, o, none⟩ = w.cell? ⟨b, o, none⟩ := by
  rw [World.cell?_setCell_far _ _ _ _ h, World.cell?_setCell_far _ _ _ _ h, World.cell?_setCell_far _ _ _ _ h, World.cell?_setCell_far _ _ _ _ h]
theorem Blk.far {w : World} {b c : Nat} {p q r t p' q' r' t' : Int} (k : Blk w b p' q' r' t') (h : c ≠ b) : Blk ((((w.setCell ⟨c, 0, none⟩ (.int .i64 p)).setCell ⟨c, 1, none⟩ (.int .i64 q)).setCell ⟨c, 2, none⟩ (.int .u64 r)).setCell ⟨c, 3, none⟩ (.int .u64 t)) b p' q' r' t' := by
  unfold Blk at *
  rw [far4 h, far4 h, far4 h, far4 h]
  exact k
theorem keepset12 {w : World} {b0 b1 b2 c : Nat} {v0 v1 v2 v3 v4 v5 v6 v7 v8 v9 v10 v11 : Value} {p q r t : Int} (h0 : c ≠ b0) (h1 : c ≠ b1) (h2 : c ≠ b2)
    (k : w.cell? ⟨b0, 0, none⟩ = some v0 ∧ w.cell? ⟨b0, 1, none⟩ = some v1 ∧ w.cell? ⟨b0, 2, none⟩ = some v2 ∧ w.cell? ⟨b0, 3, none⟩ = some v3 ∧ w.cell? ⟨b1, 0, none⟩ = some v4 ∧ w.cell? ⟨b1, 1, none⟩ = some v5 ∧ w.cell? ⟨b1, 2, none⟩ = some v6 ∧ w.cell? ⟨b1, 3, none⟩ = some v7 ∧ w.cell? ⟨b2, 0, none⟩ = some v8 ∧ w.cell? ⟨b2, 1, none⟩ = some v9 ∧ w.cell? ⟨b2, 2, none⟩ = some v10 ∧ w.cell? ⟨b2, 3, none⟩ = some v11) :
    ((((w.setCell ⟨c, 0, none⟩ (.int .i64 p)).setCell ⟨c, 1, none⟩ (.int .i64 q)).setCell ⟨c, 2, none⟩ (.int .u64 r)).setCell ⟨c, 3, none⟩ (.int .u64 t)).cell? ⟨b0, 0, none⟩ = some v0 ∧ ((((w.setCell ⟨c, 0, none⟩ (.int .i64 p)).setCell ⟨c, 1, none⟩ (.int .i64 q)).setCell ⟨c, 2, none⟩ (.int .u64 r)).setCell ⟨c, 3, none⟩ (.int .u64 t)).cell? ⟨b0, 1, none⟩ = some v1 ∧ ((((w.setCell ⟨c, 0, none⟩ (.int .i64 p)).setCell ⟨c, 1, none⟩ (.int .i64 q)).setCell ⟨c, 2, none⟩ (.int .u64 r)).setCell ⟨c, 3, none⟩ (.int .u64 t)).cell? ⟨b0, 2, none⟩ = some v2 ∧ ((((w.setCell ⟨c, 0, none⟩ (.int .i64 p)).setCell ⟨c, 1, none⟩ (.int .i64 q)).setCell ⟨c, 2, none⟩ (.int .u64 r)).setCell ⟨c, 3, none⟩ (.int .u64 t)).cell? ⟨b0, 3, none⟩ = some v3 ∧ ((((w.setCell ⟨c, 0, none⟩ (.int .i64 p)).setCell ⟨c, 1, none⟩ (.int .i64 q)).setCell ⟨c, 2, none⟩ (.int .u64 r)).setCell ⟨c, 3, none⟩ (.int .u64 t)).cell? ⟨b1, 0, none⟩ = some v4 ∧ ((((w.setCell ⟨c, 0, none⟩ (.int .i64 p)).setCell ⟨c, 1, none⟩ (.int .i64 q)).setCell ⟨c, 2, none⟩ (.int .u64 r)).setCell ⟨c, 3, none⟩ (.int .u64 t)).cell? ⟨b1, 1, none⟩ = some v5 ∧ ((((w.setCell ⟨c, 0, none⟩ (.int .i64 p)).setCell ⟨c, 1, none⟩ (.int .i64 q)).setCell ⟨c, 2, none⟩ (.int .u64 r)).setCell ⟨c, 3, none⟩ (.int .u64 t)).cell? ⟨b1, 2, none⟩ = some v6 ∧ ((((w.setCell ⟨c, 0, none⟩ (.int .i64 p)).setCell ⟨c, 1, none⟩ (.int .i64 q)).setCell ⟨c, 2, none⟩ (.int .u64 r)).setCell ⟨c, 3, none⟩ (.int .u64 t)).cell? ⟨b1, 3, none⟩ = some v7 ∧ ((((w.setCell ⟨c, 0, none⟩ (.int .i64 p)).setCell ⟨c, 1, none⟩ (.int .i64 q)).setCell ⟨c, 2, none⟩ (.int .u64 r)).setCell ⟨c, 3, none⟩ (.int .u64 t)).cell? ⟨b2, 0, none⟩ = some v8 ∧ ((((w.setCell ⟨c, 0, none⟩ (.int .i64 p)).setCell ⟨c, 1, none⟩ (.int .i64 q)).setCell ⟨c, 2, none⟩ (.int .u64 r)).setCell ⟨c, 3, none⟩ (.int .u64 t)).cell? ⟨b2, 1, none⟩ = some v9 ∧ ((((w.setCell ⟨c, 0, none⟩ (.int .i64 p)).setCell ⟨c, 1, none⟩ (.int .i64 q)).setCell ⟨c, 2, none⟩ (.int .u64 r)).setCell ⟨c, 3, none⟩ (.int .u64 t)).cell? ⟨b2, 2, none⟩ = some v10 ∧ ((((w.setCell ⟨c, 0, none⟩ (.int .i64 p)).setCell ⟨c, 1, none⟩ (.int .i64 q)).setCell ⟨c, 2, none⟩ (.int .u64 r)).setCell ⟨c, 3, none⟩ (.int .u64 t)).cell? ⟨b2, 3, none⟩ = some v11 := by
  simp only [far4 h0, far4 h1, far4 h2]
  exact k
theorem blz_set {w : World} {c : Nat} {p q r t : Int} (k : Blz w c) : Blk ((((w.setCell ⟨c, 0, none⟩ (.int .i64 p)).setCell ⟨c, 1, none⟩ (.int .i64 q)).setCell ⟨c, 2, none⟩ (.int .u64 r)).setCell ⟨c, 3, none⟩ (.int .u64 t)) c p q r t := by
  obtain ⟨⟨k0, k1, k2, k3⟩, _⟩ := k
  unfold Blk
  simp [go_sem, k0, k1, k2, k3]

end Go.Proofs.Ytlophbgeclojdaa
