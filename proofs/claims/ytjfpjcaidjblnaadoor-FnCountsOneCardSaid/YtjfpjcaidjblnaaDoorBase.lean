/-
  Small lemmas for the walks of this seat: worlds that only grow, and the plain functions (sizes, signed and unsigned readings of a word, limits as four numbers). Nothing here speaks of the program.
-/
import Derived.Test.YtjfpjcaidjblnaaDoorRows
import Derived.WalkKit
import Derived.WalkLawsBesides
import Derived.WalkSpells
import Derived.Below
import Derived.Lib.Hide
import Derived.Laws.Bits64
import Derived.Deep.RegionHeld3
namespace Go.Proofs.YtjfpjcaidjblnaaDoor
open Go.RowKit

/-! ### Worlds -/
/-- Nothing that was there has changed. -/
def Up (w w' : World) : Prop := Below w.heap.size w w'
theorem Up.refl (w : World) : Up w w := Below.refl _ _
theorem Up.trans {a b c : World} (h : Up a b) (k : Up b c) : Up a c := Below.trans h (Below.mono k h.size)
theorem Up.alloc {a w : World} (h : Up a w) (o : Obj) : Up a (w.alloc o) := Below.alloc h h.size o
theorem Up.setCell {a w : World} (h : Up a w) {p : Addr} (hp : a.heap.size ≤ p.block) (u : Value) : Up a (w.setCell p u) := Below.setCell h hp u
theorem Up.via {a b c d : World} (h : Up a b) (k : Up c d) (m : Up b c) : Up a d := (h.trans m).trans k
theorem Up.drew {a w : World} (h : Up a w) : Up a w.drew := Below.drew h
theorem Up.cells {W w1 : World} (h : Up W w1) : ∀ b o, b < W.heap.size → w1.cell? ⟨b, o, none⟩ = W.cell? ⟨b, o, none⟩ := fun b o hb => Below.cell (p := ⟨b, o, none⟩) h hb
theorem Up.frozens {W w1 : World} (h : Up W w1) : ∀ b o, b < W.heap.size → w1.frozen? ⟨b, o, none⟩ = W.frozen? ⟨b, o, none⟩ := fun b o hb => Below.frozen (p := ⟨b, o, none⟩) h hb
theorem Up.le {W w1 : World} (h : Up W w1) : W.heap.size ≤ w1.heap.size := h.size
theorem Up.later {w wx : World} {a : Addr} {v : Value} (hb : Up w wx) (h : w.cell? a = some v) : wx.cell? a = some v := cell_later hb h

/-- The four cells of a limit are there in a later world. -/
theorem keep4 {w w' : World} {b : Nat} {v0 v1 v2 v3 : Value} (h : Up w w')
    (k : w.cell? ⟨b, 0, none⟩ = some v0 ∧ w.cell? ⟨b, 1, none⟩ = some v1 ∧ w.cell? ⟨b, 2, none⟩ = some v2 ∧ w.cell? ⟨b, 3, none⟩ = some v3) :
    w'.cell? ⟨b, 0, none⟩ = some v0 ∧ w'.cell? ⟨b, 1, none⟩ = some v1 ∧ w'.cell? ⟨b, 2, none⟩ = some v2 ∧ w'.cell? ⟨b, 3, none⟩ = some v3 :=
  ⟨h.later k.1, h.later k.2.1, h.later k.2.2.1, h.later k.2.2.2⟩

/-- A block of a limit's four cells, not frozen. -/
def Blk (w : World) (b : Nat) (p q r t : Int) : Prop :=
  w.cell? ⟨b, 0, none⟩ = some (.int .i64 p) ∧ w.cell? ⟨b, 1, none⟩ = some (.int .i64 q) ∧ w.cell? ⟨b, 2, none⟩ = some (.int .u64 r) ∧ w.cell? ⟨b, 3, none⟩ = some (.int .u64 t)
theorem Blk.lt {w : World} {b : Nat} {p q r t : Int} (k : Blk w b p q r t) : b < w.heap.size := World.block_lt_of_cell? w ⟨b, 0, none⟩ k.1
theorem Blk.later {w w' : World} {b : Nat} {p q r t : Int} (k : Blk w b p q r t) (h : Up w w') : Blk w' b p q r t :=
  ⟨h.later k.1, h.later k.2.1, h.later k.2.2.1, h.later k.2.2.2⟩
theorem keep8 {w w' : World} {b c : Nat} {v0 v1 v2 v3 u0 u1 u2 u3 : Value} (h : Up w w')
    (k : w.cell? ⟨b, 0, none⟩ = some v0 ∧ w.cell? ⟨b, 1, none⟩ = some v1 ∧ w.cell? ⟨b, 2, none⟩ = some v2 ∧ w.cell? ⟨b, 3, none⟩ = some v3 ∧ w.cell? ⟨c, 0, none⟩ = some u0 ∧ w.cell? ⟨c, 1, none⟩ = some u1 ∧ w.cell? ⟨c, 2, none⟩ = some u2 ∧ w.cell? ⟨c, 3, none⟩ = some u3) :
    w'.cell? ⟨b, 0, none⟩ = some v0 ∧ w'.cell? ⟨b, 1, none⟩ = some v1 ∧ w'.cell? ⟨b, 2, none⟩ = some v2 ∧ w'.cell? ⟨b, 3, none⟩ = some v3 ∧ w'.cell? ⟨c, 0, none⟩ = some u0 ∧ w'.cell? ⟨c, 1, none⟩ = some u1 ∧ w'.cell? ⟨c, 2, none⟩ = some u2 ∧ w'.cell? ⟨c, 3, none⟩ = some u3 :=
  ⟨h.later k.1, h.later k.2.1, h.later k.2.2.1, h.later k.2.2.2.1, h.later k.2.2.2.2.1, h.later k.2.2.2.2.2.1, h.later k.2.2.2.2.2.2.1, h.later k.2.2.2.2.2.2.2⟩
theorem two_boxes (w : World) (T : TypeId) (a00 a01 a02 a03 a10 a11 a12 a13 : Int) :
    ((w.alloc (.cells #[.int .i64 a00, .int .i64 a01, .int .u64 a02, .int .u64 a03] T)).alloc (.cells #[.int .i64 a10, .int .i64 a11, .int .u64 a12, .int .u64 a13] T)).cell? ⟨w.heap.size, 0, none⟩ = some (.int .i64 a00) ∧
    ((w.alloc (.cells #[.int .i64 a00, .int .i64 a01, .int .u64 a02, .int .u64 a03] T)).alloc (.cells #[.int .i64 a10, .int .i64 a11, .int .u64 a12, .int .u64 a13] T)).cell? ⟨w.heap.size, 1, none⟩ = some (.int .i64 a01) ∧
    ((w.alloc (.cells #[.int .i64 a00, .int .i64 a01, .int .u64 a02, .int .u64 a03] T)).alloc (.cells #[.int .i64 a10, .int .i64 a11, .int .u64 a12, .int .u64 a13] T)).cell? ⟨w.heap.size, 2, none⟩ = some (.int .u64 a02) ∧
    ((w.alloc (.cells #[.int .i64 a00, .int .i64 a01, .int .u64 a02, .int .u64 a03] T)).alloc (.cells #[.int .i64 a10, .int .i64 a11, .int .u64 a12, .int .u64 a13] T)).cell? ⟨w.heap.size, 3, none⟩ = some (.int .u64 a03) ∧
    ((w.alloc (.cells #[.int .i64 a00, .int .i64 a01, .int .u64 a02, .int .u64 a03] T)).alloc (.cells #[.int .i64 a10, .int .i64 a11, .int .u64 a12, .int .u64 a13] T)).cell? ⟨w.heap.size + 1, 0, none⟩ = some (.int .i64 a10) ∧
    ((w.alloc (.cells #[.int .i64 a00, .int .i64 a01, .int .u64 a02, .int .u64 a03] T)).alloc (.cells #[.int .i64 a10, .int .i64 a11, .int .u64 a12, .int .u64 a13] T)).cell? ⟨w.heap.size + 1, 1, none⟩ = some (.int .i64 a11) ∧
    ((w.alloc (.cells #[.int .i64 a00, .int .i64 a01, .int .u64 a02, .int .u64 a03] T)).alloc (.cells #[.int .i64 a10, .int .i64 a11, .int .u64 a12, .int .u64 a13] T)).cell? ⟨w.heap.size + 1, 2, none⟩ = some (.int .u64 a12) ∧
    ((w.alloc (.cells #[.int .i64 a00, .int .i64 a01, .int .u64 a02, .int .u64 a03] T)).alloc (.cells #[.int .i64 a10, .int .i64 a11, .int .u64 a12, .int .u64 a13] T)).cell? ⟨w.heap.size + 1, 3, none⟩ = some (.int .u64 a13) := by
  simp [go_sem]
theorem keep12 {w w' : World} {b c d : Nat} {v0 v1 v2 v3 v4 v5 v6 v7 v8 v9 v10 v11 : Value} (h : Up w w')
    (k : w.cell? ⟨b, 0, none⟩ = some v0 ∧ w.cell? ⟨b, 1, none⟩ = some v1 ∧ w.cell? ⟨b, 2, none⟩ = some v2 ∧ w.cell? ⟨b, 3, none⟩ = some v3 ∧ w.cell? ⟨c, 0, none⟩ = some v4 ∧ w.cell? ⟨c, 1, none⟩ = some v5 ∧ w.cell? ⟨c, 2, none⟩ = some v6 ∧ w.cell? ⟨c, 3, none⟩ = some v7 ∧ w.cell? ⟨d, 0, none⟩ = some v8 ∧ w.cell? ⟨d, 1, none⟩ = some v9 ∧ w.cell? ⟨d, 2, none⟩ = some v10 ∧ w.cell? ⟨d, 3, none⟩ = some v11) :
    w'.cell? ⟨b, 0, none⟩ = some v0 ∧ w'.cell? ⟨b, 1, none⟩ = some v1 ∧ w'.cell? ⟨b, 2, none⟩ = some v2 ∧ w'.cell? ⟨b, 3, none⟩ = some v3 ∧ w'.cell? ⟨c, 0, none⟩ = some v4 ∧ w'.cell? ⟨c, 1, none⟩ = some v5 ∧ w'.cell? ⟨c, 2, none⟩ = some v6 ∧ w'.cell? ⟨c, 3, none⟩ = some v7 ∧ w'.cell? ⟨d, 0, none⟩ = some v8 ∧ w'.cell? ⟨d, 1, none⟩ = some v9 ∧ w'.cell? ⟨d, 2, none⟩ = some v10 ∧ w'.cell? ⟨d, 3, none⟩ = some v11 :=
  ⟨h.later k.1, h.later k.2.1, h.later k.2.2.1, h.later k.2.2.2.1, h.later k.2.2.2.2.1, h.later k.2.2.2.2.2.1, h.later k.2.2.2.2.2.2.1, h.later k.2.2.2.2.2.2.2.1, h.later k.2.2.2.2.2.2.2.2.1, h.later k.2.2.2.2.2.2.2.2.2.1, h.later k.2.2.2.2.2.2.2.2.2.2.1, h.later k.2.2.2.2.2.2.2.2.2.2.2⟩
theorem three_boxes (w : World) (T : TypeId) (a00 a01 a02 a03 a10 a11 a12 a13 a20 a21 a22 a23 : Int) :
    (((w.alloc (.cells #[.int .i64 a00, .int .i64 a01, .int .u64 a02, .int .u64 a03] T)).alloc (.cells #[.int .i64 a10, .int .i64 a11, .int .u64 a12, .int .u64 a13] T)).alloc (.cells #[.int .i64 a20, .int .i64 a21, .int .u64 a22, .int .u64 a23] T)).cell? ⟨w.heap.size, 0, none⟩ = some (.int .i64 a00) ∧
    (((w.alloc (.cells #[.int .i64 a00, .int .i64 a01, .int .u64 a02, .int .u64 a03] T)).alloc (.cells #[.int .i64 a10, .int .i64 a11, .int .u64 a12, .int .u64 a13] T)).alloc (.cells #[.int .i64 a20, .int .i64 a21, .int .u64 a22, .int .u64 a23] T)).cell? ⟨w.heap.size, 1, none⟩ = some (.int .i64 a01) ∧
    (((w.alloc (.cells #[.int .i64 a00, .int .i64 a01, .int .u64 a02, .int .u64 a03] T)).alloc (.cells #[.int .i64 a10, .int .i64 a11, .int .u64 a12, .int .u64 a13] T)).alloc (.cells #[.int .i64 a20, .int .i64 a21, .int .u64 a22, .int .u64 a23] T)).cell? ⟨w.heap.size, 2, none⟩ = some (.int .u64 a02) ∧
    (((w.alloc (.cells #[.int .i64 a00, .int .i64 a01, .int .u64 a02, .int .u64 a03] T)).alloc (.cells #[.int .i64 a10, .int .i64 a11, .int .u64 a12, .int .u64 a13] T)).alloc (.cells #[.int .i64 a20, .int .i64 a21, .int .u64 a22, .int .u64 a23] T)).cell? ⟨w.heap.size, 3, none⟩ = some (.int .u64 a03) ∧
    (((w.alloc (.cells #[.int .i64 a00, .int .i64 a01, .int .u64 a02, .int .u64 a03] T)).alloc (.cells #[.int .i64 a10, .int .i64 a11, .int .u64 a12, .int .u64 a13] T)).alloc (.cells #[.int .i64 a20, .int .i64 a21, .int .u64 a22, .int .u64 a23] T)).cell? ⟨w.heap.size + 1, 0, none⟩ = some (.int .i64 a10) ∧
    (((w.alloc (.cells #[.int .i64 a00, .int .i64 a01, .int .u64 a02, .int .u64 a03] T)).alloc (.cells #[.int .i64 a10, .int .i64 a11, .int .u64 a12, .int .u64 a13] T)).alloc (.cells #[.int .i64 a20, .int .i64 a21, .int .u64 a22, .int .u64 a23] T)).cell? ⟨w.heap.size + 1, 1, none⟩ = some (.int .i64 a11) ∧
    (((w.alloc (.cells #[.int .i64 a00, .int .i64 a01, .int .u64 a02, .int .u64 a03] T)).alloc (.cells #[.int .i64 a10, .int .i64 a11, .int .u64 a12, .int .u64 a13] T)).alloc (.cells #[.int .i64 a20, .int .i64 a21, .int .u64 a22, .int .u64 a23] T)).cell? ⟨w.heap.size + 1, 2, none⟩ = some (.int .u64 a12) ∧
    (((w.alloc (.cells #[.int .i64 a00, .int .i64 a01, .int .u64 a02, .int .u64 a03] T)).alloc (.cells #[.int .i64 a10, .int .i64 a11, .int .u64 a12, .int .u64 a13] T)).alloc (.cells #[.int .i64 a20, .int .i64 a21, .int .u64 a22, .int .u64 a23] T)).cell? ⟨w.heap.size + 1, 3, none⟩ = some (.int .u64 a13) ∧
    (((w.alloc (.cells #[.int .i64 a00, .int .i64 a01, .int .u64 a02, .int .u64 a03] T)).alloc (.cells #[.int .i64 a10, .int .i64 a11, .int .u64 a12, .int .u64 a13] T)).alloc (.cells #[.int .i64 a20, .int .i64 a21, .int .u64 a22, .int .u64 a23] T)).cell? ⟨w.heap.size + 1 + 1, 0, none⟩ = some (.int .i64 a20) ∧
    (((w.alloc (.cells #[.int .i64 a00, .int .i64 a01, .int .u64 a02, .int .u64 a03] T)).alloc (.cells #[.int .i64 a10, .int .i64 a11, .int .u64 a12, .int .u64 a13] T)).alloc (.cells #[.int .i64 a20, .int .i64 a21, .int .u64 a22, .int .u64 a23] T)).cell? ⟨w.heap.size + 1 + 1, 1, none⟩ = some (.int .i64 a21) ∧
    (((w.alloc (.cells #[.int .i64 a00, .int .i64 a01, .int .u64 a02, .int .u64 a03] T)).alloc (.cells #[.int .i64 a10, .int .i64 a11, .int .u64 a12, .int .u64 a13] T)).alloc (.cells #[.int .i64 a20, .int .i64 a21, .int .u64 a22, .int .u64 a23] T)).cell? ⟨w.heap.size + 1 + 1, 2, none⟩ = some (.int .u64 a22) ∧
    (((w.alloc (.cells #[.int .i64 a00, .int .i64 a01, .int .u64 a02, .int .u64 a03] T)).alloc (.cells #[.int .i64 a10, .int .i64 a11, .int .u64 a12, .int .u64 a13] T)).alloc (.cells #[.int .i64 a20, .int .i64 a21, .int .u64 a22, .int .u64 a23] T)).cell? ⟨w.heap.size + 1 + 1, 3, none⟩ = some (.int .u64 a23) := by
  simp [go_sem]
theorem ret_int {k : IntKind} {a b : Int} (h : a = b) : Ending.returned (.int k a) = .returned (.int k b) := by rw [h]
theorem ret_bool {a b : Bool} (h : a = b) : Ending.returned (.bool a) = .returned (.bool b) := by rw [h]

/-! ### Sizes and readings -/
/-- The four sizes. -/
def B4 (b : Int) : Prop := b = 8 ∨ b = 16 ∨ b = 32 ∨ b = 64
/-- 2 to the size. -/
def pw (b : Int) : Int := if b = 8 then 256 else if b = 16 then 65536 else if b = 32 then 4294967296 else 18446744073709551616
/-- The unsigned number of the low bits. -/
def us (b x : Int) : Int := x % pw b
/-- The signed number of the low bits. -/
def sg (b x : Int) : Int := if us b x < pw b / 2 then us b x else us b x - pw b
def top (b : Int) : Int := pw b - 1
def grt (b : Int) : Int := pw b / 2 - 1
def lst (b : Int) : Int := - (pw b / 2)
/-- Of int64 and of uint64. -/
def I64 (x : Int) : Prop := -9223372036854775808 ≤ x ∧ x ≤ 9223372036854775807
def U64 (x : Int) : Prop := 0 ≤ x ∧ x ≤ 18446744073709551615

theorem pw8 : pw 8 = 256 := rfl
theorem pw16 : pw 16 = 65536 := rfl
theorem pw32 : pw 32 = 4294967296 := rfl
theorem pw64 : pw 64 = 18446744073709551616 := rfl

theorem us_U64 {b x : Int} (hb : B4 b) : U64 (us b x) := by
  unfold U64 us
  rcases hb with rfl | rfl | rfl | rfl
  · rw [pw8]; omega
  · rw [pw16]; omega
  · rw [pw32]; omega
  · rw [pw64]; omega
theorem sg_I64 {b x : Int} (hb : B4 b) : I64 (sg b x) := by
  unfold I64 sg us
  rcases hb with rfl | rfl | rfl | rfl
  · rw [pw8]; split <;> omega
  · rw [pw16]; split <;> omega
  · rw [pw32]; split <;> omega
  · rw [pw64]; split <;> omega
theorem us64 {x : Int} (h : U64 x) : us 64 x = x := by unfold U64 at h; unfold us; rw [pw64]; omega
theorem sg64 {x : Int} (h : I64 x) : sg 64 x = x := by
  unfold I64 at h
  unfold sg us
  rw [pw64]
  split <;> omega

theorem wrap_64_top : IntKind.u64.wrap (IntKind.u64.wrap 18446744073709551616 - 1) = 18446744073709551615 := by decide
theorem wrap_64_min : wrap64 (-wrap64 9223372036854775808) = -9223372036854775808 := by unfold wrap64; omega
theorem wrap_64_max : wrap64 (wrap64 9223372036854775808 - 1) = 9223372036854775807 := by unfold wrap64; omega
/-- What spec.Bits gives: one of the four sizes. -/
def SomeB (w : World) (e : Ending) (w' : World) : Prop := ∃ b : Int, B4 b ∧ e = .returned (.int .u64 b) ∧ w = w'

/-- A signed number fits in so many bits; an unsigned one. -/
def fitB (b x : Int) : Bool := decide (lst b ≤ x ∧ x ≤ grt b)
def fitU (b x : Int) : Bool := decide (x ≤ top b)
theorem fitB_iff {b x : Int} : fitB b x = true ↔ lst b ≤ x ∧ x ≤ grt b := by simp [fitB]
theorem fitU_iff {b x : Int} : fitU b x = true ↔ x ≤ top b := by simp [fitU]
theorem fitB_is {b x : Int} {v : Bool} (h : v = true ↔ lst b ≤ x ∧ x ≤ grt b) : v = fitB b x := by rw [Bool.eq_iff_iff, h, fitB_iff]
theorem fitU_is {b x : Int} {v : Bool} (h : v = true ↔ x ≤ top b) : v = fitU b x := by rw [Bool.eq_iff_iff, h, fitU_iff]
theorem lst8 : lst 8 = -128 := rfl
theorem lst16 : lst 16 = -32768 := rfl
theorem lst32 : lst 32 = -2147483648 := rfl
theorem lst64 : lst 64 = -9223372036854775808 := rfl
theorem grt8 : grt 8 = 127 := rfl
theorem grt16 : grt 16 = 32767 := rfl
theorem grt32 : grt 32 = 2147483647 := rfl
theorem grt64 : grt 64 = 9223372036854775807 := rfl
theorem top8 : top 8 = 255 := rfl
theorem top16 : top 16 = 65535 := rfl
theorem top32 : top 32 = 4294967295 := rfl
theorem top64 : top 64 = 18446744073709551615 := rfl
theorem i8_sg (x : Int) : IntKind.i8.wrap x = sg 8 x := by
  simp [IntKind.wrap, IntKind.bits, IntKind.signed]
  unfold sg us
  rw [pw8]
  split <;> split <;> omega
theorem i16_sg (x : Int) : IntKind.i16.wrap x = sg 16 x := by
  simp [IntKind.wrap, IntKind.bits, IntKind.signed]
  unfold sg us
  rw [pw16]
  split <;> split <;> omega
theorem w32_sg (x : Int) : wrap32 x = sg 32 x := by
  unfold wrap32 sg us
  rw [pw32]
  split <;> omega
theorem w64_sg (x : Int) : wrap64 x = sg 64 x := by
  unfold wrap64 sg us
  rw [pw64]
  split <;> omega
theorem u64_us (x : Int) : IntKind.u64.wrap x = us 64 x := by rw [IntKind.wrap_u64]; rfl
theorem w64_id {x : Int} (h : I64 x) : wrap64 x = x := by rw [w64_sg, sg64 h]

/-! ### Limits -/
structure Lm where
  a : Int
  b : Int
  c : Int
  d : Int
/-- The bounds are of their types. -/
def Lm.ok (l : Lm) : Prop := I64 l.a ∧ I64 l.b ∧ U64 l.c ∧ U64 l.d
/-- A value, read both ways, meets a limit. -/
def mt (l : Lm) (s u : Int) : Bool := decide (l.a ≤ s ∧ s ≤ l.b ∧ l.c ≤ u ∧ u ≤ l.d)
theorem mt_iff {l : Lm} {s u : Int} : mt l s u = true ↔ l.a ≤ s ∧ s ≤ l.b ∧ l.c ≤ u ∧ u ≤ l.d := by simp [mt]

/-! ### Small numbers -/
theorem fitU_5 {b : Int} (hb : B4 b) : fitU b 5 = true := by rcases hb with rfl | rfl | rfl | rfl <;> decide
theorem fitB_5 {b : Int} (hb : B4 b) : fitB b 5 = true := by rcases hb with rfl | rfl | rfl | rfl <;> decide
theorem sg_5 {b : Int} (hb : B4 b) : sg b 5 = 5 := by rcases hb with rfl | rfl | rfl | rfl <;> decide
theorem us_mod {b x : Int} (hb : B4 b) : us b (us 64 x) = us b x := by
  unfold us
  rcases hb with rfl | rfl | rfl | rfl
  · rw [pw64, pw8]; omega
  · rw [pw64, pw16]; omega
  · rw [pw64, pw32]; omega
  · rw [pw64]; omega
theorem sg_mod {b x : Int} (hb : B4 b) : sg b (us 64 x) = sg b x := by unfold sg; rw [us_mod hb]
theorem mt_all {b x : Int} (hb : B4 b) : mt ⟨lst b, grt b, 0, top b⟩ (sg b x) (us b x) = true := by
  rw [mt_iff]
  unfold lst grt top sg us
  rcases hb with rfl | rfl | rfl | rfl
  · rw [pw8]; dsimp only; split <;> omega
  · rw [pw16]; dsimp only; split <;> omega
  · rw [pw32]; dsimp only; split <;> omega
  · rw [pw64]; dsimp only; split <;> omega
theorem grt_bd {b : Int} (hb : B4 b) : 127 ≤ grt b ∧ grt b ≤ 9223372036854775807 := by
  rcases hb with rfl | rfl | rfl | rfl
  · rw [grt8]; omega
  · rw [grt16]; omega
  · rw [grt32]; omega
  · rw [grt64]; omega
theorem lst_grt (b : Int) : lst b = - grt b - 1 := by unfold lst grt; omega
theorem top_bd {b : Int} (hb : B4 b) : 255 ≤ top b ∧ top b ≤ 18446744073709551615 := by
  rcases hb with rfl | rfl | rfl | rfl
  · rw [top8]; omega
  · rw [top16]; omega
  · rw [top32]; omega
  · rw [top64]; omega
theorem sg_bd {b x : Int} (hb : B4 b) : lst b ≤ sg b x ∧ sg b x ≤ grt b := by
  unfold lst grt sg us
  rcases hb with rfl | rfl | rfl | rfl
  · rw [pw8]; split <;> omega
  · rw [pw16]; split <;> omega
  · rw [pw32]; split <;> omega
  · rw [pw64]; split <;> omega
theorem us_bd {b x : Int} (hb : B4 b) : 0 ≤ us b x ∧ us b x ≤ top b := by
  unfold top us
  rcases hb with rfl | rfl | rfl | rfl
  · rw [pw8]; omega
  · rw [pw16]; omega
  · rw [pw32]; omega
  · rw [pw64]; omega
theorem sg_wrap {b x : Int} (hb : B4 b) : sg b (IntKind.u64.wrap x) = sg b x := by rw [u64_us, sg_mod hb]
theorem us_wrap {b x : Int} (hb : B4 b) : us b (IntKind.u64.wrap x) = us b x := by rw [u64_us, us_mod hb]
theorem wrap_U64 (x : Int) : U64 (IntKind.u64.wrap x) := by unfold U64; rw [IntKind.wrap_u64]; omega
theorem b64 : B4 64 := by unfold B4; decide
theorem b8 : B4 8 := by unfold B4; decide

end Go.Proofs.YtjfpjcaidjblnaaDoor
