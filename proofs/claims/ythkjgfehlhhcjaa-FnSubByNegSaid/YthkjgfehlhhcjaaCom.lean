/-
  What a complement of a limit is: contracts.
-/
import Derived.Test.YthkjgfehlhhcjaaConv
import Derived.Laws.BitsAllLaws
namespace Go.Proofs.Ythkjgfehlhhcjaa
open Go.RowKit
set_option linter.unusedVariables false

/-! ### A complement of a number, kind by kind -/
theorem not8 (v : Int) : ((BitVec.ofInt 8 (-1) ^^^ BitVec.ofInt 8 v).toNat : Int) = 255 - v % 256 := by
  rw [show BitVec.ofInt 8 (-1) = BitVec.allOnes 8 from by decide, BitVec.allOnes_xor, BitVec.toNat_not, BitVec.toNat_ofInt]
  simp only [Nat.reducePow]
  omega
theorem com_i8 (v : Int) (h : -128 ≤ v ∧ v ≤ 127) : bits .xor .i8 (-1) v = -1 - v := by
  show IntKind.i8.wrap ((BitVec.ofInt 8 (-1) ^^^ BitVec.ofInt 8 v).toNat : Int) = _
  rw [not8, i8_sg]
  unfold sg us
  rw [pw8]
  split <;> omega
theorem com_u8 (v : Int) (h : 0 ≤ v ∧ v ≤ 255) : bits .xor .u8 IntKind.u8.max v = 255 - v := by
  show IntKind.u8.wrap ((BitVec.ofInt 8 (-1) ^^^ BitVec.ofInt 8 v).toNat : Int) = _
  rw [not8, IntKind.wrap_u8]
  omega
theorem not16 (v : Int) : ((BitVec.ofInt 16 (-1) ^^^ BitVec.ofInt 16 v).toNat : Int) = 65535 - v % 65536 := by
  rw [show BitVec.ofInt 16 (-1) = BitVec.allOnes 16 from by decide, BitVec.allOnes_xor, BitVec.toNat_not, BitVec.toNat_ofInt]
  simp only [Nat.reducePow]
  omega
theorem com_i16 (v : Int) (h : -32768 ≤ v ∧ v ≤ 32767) : bits .xor .i16 (-1) v = -1 - v := by
  show IntKind.i16.wrap ((BitVec.ofInt 16 (-1) ^^^ BitVec.ofInt 16 v).toNat : Int) = _
  rw [not16, i16_sg]
  unfold sg us
  rw [pw16]
  split <;> omega
theorem com_u16 (v : Int) (h : 0 ≤ v ∧ v ≤ 65535) : bits .xor .u16 IntKind.u16.max v = 65535 - v := by
  show IntKind.u16.wrap ((BitVec.ofInt 16 (-1) ^^^ BitVec.ofInt 16 v).toNat : Int) = _
  rw [not16, IntKind.wrap_u16]
  omega
theorem not32 (v : Int) : ((BitVec.ofInt 32 (-1) ^^^ BitVec.ofInt 32 v).toNat : Int) = 4294967295 - v % 4294967296 := by
  rw [show BitVec.ofInt 32 (-1) = BitVec.allOnes 32 from by decide, BitVec.allOnes_xor, BitVec.toNat_not, BitVec.toNat_ofInt]
  simp only [Nat.reducePow]
  omega
theorem com_i32 (v : Int) (h : -2147483648 ≤ v ∧ v ≤ 2147483647) : bits .xor .i32 (-1) v = -1 - v := by
  show IntKind.i32.wrap ((BitVec.ofInt 32 (-1) ^^^ BitVec.ofInt 32 v).toNat : Int) = _
  rw [not32, IntWalk.i32_left, w32_sg]
  unfold sg us
  rw [pw32]
  split <;> omega
theorem com_u32 (v : Int) (h : 0 ≤ v ∧ v ≤ 4294967295) : bits .xor .u32 IntKind.u32.max v = 4294967295 - v := by
  show IntKind.u32.wrap ((BitVec.ofInt 32 (-1) ^^^ BitVec.ofInt 32 v).toNat : Int) = _
  rw [not32, IntKind.wrap_u32]
  omega
theorem not64 (v : Int) : ((BitVec.ofInt 64 (-1) ^^^ BitVec.ofInt 64 v).toNat : Int) = 18446744073709551615 - v % 18446744073709551616 := by
  rw [show BitVec.ofInt 64 (-1) = BitVec.allOnes 64 from by decide, BitVec.allOnes_xor, BitVec.toNat_not, BitVec.toNat_ofInt]
  simp only [Nat.reducePow]
  omega
theorem com_i64 (v : Int) (h : -9223372036854775808 ≤ v ∧ v ≤ 9223372036854775807) : bits .xor .i64 (-1) v = -1 - v := by
  show IntKind.i64.wrap ((BitVec.ofInt 64 (-1) ^^^ BitVec.ofInt 64 v).toNat : Int) = _
  rw [not64, IntWalk.i64_left, w64_sg]
  unfold sg us
  rw [pw64]
  split <;> omega
theorem com_u64 (v : Int) (h : 0 ≤ v ∧ v ≤ 18446744073709551615) : bits .xor .u64 IntKind.u64.max v = 18446744073709551615 - v := by
  show IntKind.u64.wrap ((BitVec.ofInt 64 (-1) ^^^ BitVec.ofInt 64 v).toNat : Int) = _
  rw [not64, IntKind.wrap_u64]
  omega
/-- The complement of a limit, as com makes it. -/
def comL (b : Int) (l : Lm) : Lm := ⟨-1 - sg b l.b, -1 - sg b l.a, top b - us b l.d, top b - us b l.c⟩
theorem c_lcom (p q r t b : Int) (w : World) (hb : B4 b) (x1 : I64 p) (x2 : I64 q) (x3 : U64 r) (x4 : U64 t) :
    Calls Try.prog 37 #[.agg #[.int .i64 p, .int .i64 q, .int .u64 r, .int .u64 t], .int .u64 b] w fun e w' => e = .returned (.agg #[.int .i64 (comL b ⟨p, q, r, t⟩).a, .int .i64 (comL b ⟨p, q, r, t⟩).b, .int .u64 (comL b ⟨p, q, r, t⟩).c, .int .u64 (comL b ⟨p, q, r, t⟩).d]) ∧ Up w w' := by
  obtain ⟨g1, g2⟩ := x3
  obtain ⟨g3, g4⟩ := x4
  obtain ⟨g5, g6⟩ := x1
  obtain ⟨g7, g8⟩ := x2
  rcases hb with rfl | rfl | rfl | rfl
  · go_enter Try.func37, Try.ntmps37
    go_wp2
    have e1 : wrap64 (bits BinOp.xor IntKind.i8 (-1) (IntKind.i8.wrap q)) = -1 - sg 8 q := by
      have h := sg_bd (b := 8) (x := q) (by unfold B4; decide)
      rw [lst8, grt8] at h
      rw [i8_sg, com_i8 _ h, w64_id ⟨by omega, by omega⟩]
    have e2 : wrap64 (bits BinOp.xor IntKind.i8 (-1) (IntKind.i8.wrap p)) = -1 - sg 8 p := by
      have h := sg_bd (b := 8) (x := p) (by unfold B4; decide)
      rw [lst8, grt8] at h
      rw [i8_sg, com_i8 _ h, w64_id ⟨by omega, by omega⟩]
    have e3 : IntKind.u64.wrap (bits BinOp.xor IntKind.u8 IntKind.u8.max (t % 256)) = top 8 - us 8 t := by
      have h := us_bd (b := 8) (x := t) (by unfold B4; decide)
      rw [top8] at h
      rw [show (t % 256) = us 8 t from rfl, com_u8 _ h, u64_us, us64 ⟨by omega, by omega⟩, top8]
    have e4 : IntKind.u64.wrap (bits BinOp.xor IntKind.u8 IntKind.u8.max (r % 256)) = top 8 - us 8 r := by
      have h := us_bd (b := 8) (x := r) (by unfold B4; decide)
      rw [top8] at h
      rw [show (r % 256) = us 8 r from rfl, com_u8 _ h, u64_us, us64 ⟨by omega, by omega⟩, top8]
    refine bodyPost_ret (v := .agg #[.int .i64 (wrap64 (bits BinOp.xor IntKind.i8 (-1) (IntKind.i8.wrap q))), .int .i64 (wrap64 (bits BinOp.xor IntKind.i8 (-1) (IntKind.i8.wrap p))), .int .u64 (IntKind.u64.wrap (bits BinOp.xor IntKind.u8 IntKind.u8.max (t % 256))), .int .u64 (IntKind.u64.wrap (bits BinOp.xor IntKind.u8 IntKind.u8.max (r % 256)))]) ?_ rfl ⟨?_, ?_⟩
    · simp [results, Try.results37, go_sem]
    · rw [e1, e2, e3, e4]
      rfl
    · (repeat (first | exact Up.refl _ | assumption | refine Up.setCell ?_ (by first | omega | (dsimp only; omega) | simp) _ | refine Up.alloc ?_ _ | refine Up.drew ?_ | refine Up.trans ?_ (by assumption)))
  · go_enter Try.func37, Try.ntmps37
    go_wp2
    have e1 : wrap64 (bits BinOp.xor IntKind.i16 (-1) (IntKind.i16.wrap q)) = -1 - sg 16 q := by
      have h := sg_bd (b := 16) (x := q) (by unfold B4; decide)
      rw [lst16, grt16] at h
      rw [i16_sg, com_i16 _ h, w64_id ⟨by omega, by omega⟩]
    have e2 : wrap64 (bits BinOp.xor IntKind.i16 (-1) (IntKind.i16.wrap p)) = -1 - sg 16 p := by
      have h := sg_bd (b := 16) (x := p) (by unfold B4; decide)
      rw [lst16, grt16] at h
      rw [i16_sg, com_i16 _ h, w64_id ⟨by omega, by omega⟩]
    have e3 : IntKind.u64.wrap (bits BinOp.xor IntKind.u16 IntKind.u16.max (IntKind.u16.wrap t)) = top 16 - us 16 t := by
      have h := us_bd (b := 16) (x := t) (by unfold B4; decide)
      rw [top16] at h
      rw [show (IntKind.u16.wrap t) = us 16 t from by rw [IntKind.wrap_u16]; rfl, com_u16 _ h, u64_us, us64 ⟨by omega, by omega⟩, top16]
    have e4 : IntKind.u64.wrap (bits BinOp.xor IntKind.u16 IntKind.u16.max (IntKind.u16.wrap r)) = top 16 - us 16 r := by
      have h := us_bd (b := 16) (x := r) (by unfold B4; decide)
      rw [top16] at h
      rw [show (IntKind.u16.wrap r) = us 16 r from by rw [IntKind.wrap_u16]; rfl, com_u16 _ h, u64_us, us64 ⟨by omega, by omega⟩, top16]
    refine bodyPost_ret (v := .agg #[.int .i64 (wrap64 (bits BinOp.xor IntKind.i16 (-1) (IntKind.i16.wrap q))), .int .i64 (wrap64 (bits BinOp.xor IntKind.i16 (-1) (IntKind.i16.wrap p))), .int .u64 (IntKind.u64.wrap (bits BinOp.xor IntKind.u16 IntKind.u16.max (IntKind.u16.wrap t))), .int .u64 (IntKind.u64.wrap (bits BinOp.xor IntKind.u16 IntKind.u16.max (IntKind.u16.wrap r)))]) ?_ rfl ⟨?_, ?_⟩
    · simp [results, Try.results37, go_sem]
    · rw [e1, e2, e3, e4]
      rfl
    · (repeat (first | exact Up.refl _ | assumption | refine Up.setCell ?_ (by first | omega | (dsimp only; omega) | simp) _ | refine Up.alloc ?_ _ | refine Up.drew ?_ | refine Up.trans ?_ (by assumption)))
  · go_enter Try.func37, Try.ntmps37
    go_wp2
    have e1 : wrap64 (bits BinOp.xor IntKind.i32 (-1) (wrap32 q)) = -1 - sg 32 q := by
      have h := sg_bd (b := 32) (x := q) (by unfold B4; decide)
      rw [lst32, grt32] at h
      rw [w32_sg, com_i32 _ h, w64_id ⟨by omega, by omega⟩]
    have e2 : wrap64 (bits BinOp.xor IntKind.i32 (-1) (wrap32 p)) = -1 - sg 32 p := by
      have h := sg_bd (b := 32) (x := p) (by unfold B4; decide)
      rw [lst32, grt32] at h
      rw [w32_sg, com_i32 _ h, w64_id ⟨by omega, by omega⟩]
    have e3 : IntKind.u64.wrap (bits BinOp.xor IntKind.u32 IntKind.u32.max (t % 4294967296)) = top 32 - us 32 t := by
      have h := us_bd (b := 32) (x := t) (by unfold B4; decide)
      rw [top32] at h
      rw [show (t % 4294967296) = us 32 t from rfl, com_u32 _ h, u64_us, us64 ⟨by omega, by omega⟩, top32]
    have e4 : IntKind.u64.wrap (bits BinOp.xor IntKind.u32 IntKind.u32.max (r % 4294967296)) = top 32 - us 32 r := by
      have h := us_bd (b := 32) (x := r) (by unfold B4; decide)
      rw [top32] at h
      rw [show (r % 4294967296) = us 32 r from rfl, com_u32 _ h, u64_us, us64 ⟨by omega, by omega⟩, top32]
    refine bodyPost_ret (v := .agg #[.int .i64 (wrap64 (bits BinOp.xor IntKind.i32 (-1) (wrap32 q))), .int .i64 (wrap64 (bits BinOp.xor IntKind.i32 (-1) (wrap32 p))), .int .u64 (IntKind.u64.wrap (bits BinOp.xor IntKind.u32 IntKind.u32.max (t % 4294967296))), .int .u64 (IntKind.u64.wrap (bits BinOp.xor IntKind.u32 IntKind.u32.max (r % 4294967296)))]) ?_ rfl ⟨?_, ?_⟩
    · simp [results, Try.results37, go_sem]
    · rw [e1, e2, e3, e4]
      rfl
    · (repeat (first | exact Up.refl _ | assumption | refine Up.setCell ?_ (by first | omega | (dsimp only; omega) | simp) _ | refine Up.alloc ?_ _ | refine Up.drew ?_ | refine Up.trans ?_ (by assumption)))
  · go_enter Try.func37, Try.ntmps37
    go_wp2
    have e1 : bits BinOp.xor IntKind.i64 (-1) q = -1 - sg 64 q := by rw [com_i64 q ⟨g7, g8⟩, sg64 ⟨g7, g8⟩]
    have e2 : bits BinOp.xor IntKind.i64 (-1) p = -1 - sg 64 p := by rw [com_i64 p ⟨g5, g6⟩, sg64 ⟨g5, g6⟩]
    have e3 : bits BinOp.xor IntKind.u64 IntKind.u64.max t = top 64 - us 64 t := by rw [com_u64 t ⟨g3, g4⟩, us64 ⟨g3, g4⟩, top64]
    have e4 : bits BinOp.xor IntKind.u64 IntKind.u64.max r = top 64 - us 64 r := by rw [com_u64 r ⟨g1, g2⟩, us64 ⟨g1, g2⟩, top64]
    refine bodyPost_ret (v := .agg #[.int .i64 (bits BinOp.xor IntKind.i64 (-1) q), .int .i64 (bits BinOp.xor IntKind.i64 (-1) p), .int .u64 (bits BinOp.xor IntKind.u64 IntKind.u64.max t), .int .u64 (bits BinOp.xor IntKind.u64 IntKind.u64.max r)]) ?_ rfl ⟨?_, ?_⟩
    · simp [results, Try.results37, go_sem]
    · rw [e1, e2, e3, e4]
      rfl
    · (repeat (first | exact Up.refl _ | assumption | refine Up.setCell ?_ (by first | omega | (dsimp only; omega) | simp) _ | refine Up.alloc ?_ _ | refine Up.drew ?_ | refine Up.trans ?_ (by assumption)))
theorem c_LCom (p q r t b : Int) (w : World) (hb : B4 b) (x1 : I64 p) (x2 : I64 q) (x3 : U64 r) (x4 : U64 t) :
    Calls Try.prog 28 #[.agg #[.int .i64 p, .int .i64 q, .int .u64 r, .int .u64 t], .int .u64 b] w fun e w' => e = .returned (.agg #[.int .i64 (comL b ⟨p, q, r, t⟩).a, .int .i64 (comL b ⟨p, q, r, t⟩).b, .int .u64 (comL b ⟨p, q, r, t⟩).c, .int .u64 (comL b ⟨p, q, r, t⟩).d]) ∧ Up w w' := by
  have H := Lib.hid hb
  clear hb
  go_enter Try.func28, Try.ntmps28
  go_wp2_with (first | (go_at_call 32; refine (c_Lin _ _ _ _ _).mono ?_; rintro e w1 ⟨rfl, h1⟩; have c1 := h1.cells; have f1 := h1.frozens) | (go_at_call 37; refine (c_lcom _ _ _ _ _ _ H.out x1 x2 x3 x4).mono ?_; rintro e w2 ⟨rfl, g2⟩; have h2 := Up.via h1 g2 (by (repeat (first | exact Up.refl _ | assumption | refine Up.setCell ?_ (by first | omega | (dsimp only; omega) | simp) _ | refine Up.alloc ?_ _ | refine Up.drew ?_ | refine Up.trans ?_ (by assumption)))); have c2 := h2.cells; have f2 := h2.frozens) | (go_at_call 34; refine (c_lout _ _ _ _ _).mono ?_; rintro e w3 ⟨rfl, g3⟩; have h3 := Up.via h2 g3 (by (repeat (first | exact Up.refl _ | assumption | refine Up.setCell ?_ (by first | omega | (dsimp only; omega) | simp) _ | refine Up.alloc ?_ _ | refine Up.drew ?_ | refine Up.trans ?_ (by assumption)))); have c3 := h3.cells; have f3 := h3.frozens))
  refine bodyPost_ret (v := .agg #[.int .i64 (comL b ⟨p, q, r, t⟩).a, .int .i64 (comL b ⟨p, q, r, t⟩).b, .int .u64 (comL b ⟨p, q, r, t⟩).c, .int .u64 (comL b ⟨p, q, r, t⟩).d]) ?_ rfl ⟨rfl, ?_⟩
  · simp [results, Try.results28, go_sem, c3]
  · (repeat (first | exact Up.refl _ | assumption | refine Up.setCell ?_ (by first | omega | (dsimp only; omega) | simp) _ | refine Up.alloc ?_ _ | refine Up.drew ?_ | refine Up.trans ?_ (by assumption)))
theorem c_Com (p q r t b : Int) (w : World) (hb : B4 b) (x1 : I64 p) (x2 : I64 q) (x3 : U64 r) (x4 : U64 t) :
    Calls Try.prog 12 #[.agg #[.int .i64 p, .int .i64 q, .int .u64 r, .int .u64 t], .int .u64 b] w fun e w' => e = .returned (.agg #[.int .i64 (comL b ⟨p, q, r, t⟩).a, .int .i64 (comL b ⟨p, q, r, t⟩).b, .int .u64 (comL b ⟨p, q, r, t⟩).c, .int .u64 (comL b ⟨p, q, r, t⟩).d]) ∧ Up w w' := by
  have H := Lib.hid hb
  clear hb
  go_enter Try.func12, Try.ntmps12
  go_wp2_with (first | (go_at_call 24; refine (c_in _ _ _ _ _).mono ?_; rintro e w1 ⟨rfl, h1⟩; have c1 := h1.cells; have f1 := h1.frozens) | (go_at_call 28; refine (c_LCom _ _ _ _ _ _ H.out x1 x2 x3 x4).mono ?_; rintro e w2 ⟨rfl, g2⟩; have h2 := Up.via h1 g2 (by (repeat (first | exact Up.refl _ | assumption | refine Up.setCell ?_ (by first | omega | (dsimp only; omega) | simp) _ | refine Up.alloc ?_ _ | refine Up.drew ?_ | refine Up.trans ?_ (by assumption)))); have c2 := h2.cells; have f2 := h2.frozens) | (go_at_call 23; refine (c_out _ _ _ _ _).mono ?_; rintro e w3 ⟨rfl, g3⟩; have h3 := Up.via h2 g3 (by (repeat (first | exact Up.refl _ | assumption | refine Up.setCell ?_ (by first | omega | (dsimp only; omega) | simp) _ | refine Up.alloc ?_ _ | refine Up.drew ?_ | refine Up.trans ?_ (by assumption)))); have c3 := h3.cells; have f3 := h3.frozens))
  refine bodyPost_ret (v := .agg #[.int .i64 (comL b ⟨p, q, r, t⟩).a, .int .i64 (comL b ⟨p, q, r, t⟩).b, .int .u64 (comL b ⟨p, q, r, t⟩).c, .int .u64 (comL b ⟨p, q, r, t⟩).d]) ?_ rfl ⟨rfl, ?_⟩
  · simp [results, Try.results12, go_sem, c3]
  · (repeat (first | exact Up.refl _ | assumption | refine Up.setCell ?_ (by first | omega | (dsimp only; omega) | simp) _ | refine Up.alloc ?_ _ | refine Up.drew ?_ | refine Up.trans ?_ (by assumption)))

end Go.Proofs.Ythkjgfehlhhcjaa
