/-
  The plain law behind math/bits.OnesCount64: sums of adjacent bits, byte by byte. No program in sight.
-/
import Derived.Test.YtjfpjcaidjblnaaDoorPlainBits
import Derived.Laws.Bits64b
namespace Go.Proofs.YtjfpjcaidjblnaaDoor
open Go.Lib (popAux)

/-- A mask whose bytes are all d; a number whose bytes are g of another one's bytes. -/
def mk (d : Nat) : Nat → Nat
  | 0 => 0
  | k + 1 => 256 * mk d k + d
def sp (g : Nat → Nat) : Nat → Nat → Nat
  | 0, _ => 0
  | k + 1, x => 256 * sp g k (x / 256) + g (x % 256)

theorem and_cut (x m d : Nat) (hd : d < 256) : x &&& (256 * m + d) = 256 * (x / 256 &&& m) + (x % 256 &&& d) := by
  have a := Nat.div_add_mod (x &&& (256 * m + d)) 256
  have b : (x &&& (256 * m + d)) / 256 = x / 256 &&& m := by
    have := Nat.and_div_two_pow (a := x) (b := 256 * m + d) (n := 8)
    rw [show (2 : Nat) ^ 8 = 256 from rfl] at this
    rw [this, show (256 * m + d) / 256 = m by omega]
  have c : (x &&& (256 * m + d)) % 256 = x % 256 &&& d := by
    have := Nat.and_mod_two_pow (a := x) (b := 256 * m + d) (n := 8)
    rw [show (2 : Nat) ^ 8 = 256 from rfl] at this
    rw [this, show (256 * m + d) % 256 = d by omega]
  omega

def g1 (c : Nat) : Nat := (c / 2 &&& 85) + (c &&& 85)
def g2 (c : Nat) : Nat := (c / 4 &&& 51) + (c &&& 51)
def g3 (c : Nat) : Nat := (c / 16 + c) &&& 15
theorem cut1 : ∀ z : Fin 512, z.val / 2 &&& 85 = z.val % 256 / 2 &&& 85 := by decide +kernel
theorem cut2 : ∀ z : Fin 1024, z.val / 4 &&& 51 = z.val % 256 / 4 &&& 51 := by decide +kernel

theorem st1 : ∀ k x, (x / 2 &&& mk 85 k) + (x &&& mk 85 k) = sp g1 k x
  | 0, x => by simp [mk, sp]
  | k + 1, x => by
    have h := st1 k (x / 256)
    have c := cut1 ⟨x % 512, by omega⟩
    simp only [mk, sp]
    rw [and_cut _ _ _ (by decide), and_cut _ _ _ (by decide), ← h, g1, show x / 2 / 256 = x / 256 / 2 by omega, show x / 2 % 256 = x % 512 / 2 % 256 by omega, show x % 512 / 2 % 256 = x % 512 / 2 by omega, c, show x % 512 % 256 = x % 256 by omega]
    omega
theorem st2 : ∀ k x, (x / 4 &&& mk 51 k) + (x &&& mk 51 k) = sp g2 k x
  | 0, x => by simp [mk, sp]
  | k + 1, x => by
    have h := st2 k (x / 256)
    have c := cut2 ⟨x % 1024, by omega⟩
    simp only [mk, sp]
    rw [and_cut _ _ _ (by decide), and_cut _ _ _ (by decide), ← h, g2, show x / 4 / 256 = x / 256 / 4 by omega, show x / 4 % 256 = x % 1024 / 4 % 256 by omega, show x % 1024 / 4 % 256 = x % 1024 / 4 by omega, c, show x % 1024 % 256 = x % 256 by omega]
    omega
theorem sp_sp (f g : Nat → Nat) (hg : ∀ z : Fin 256, g z.val < 256) : ∀ k x, sp f k (sp g k x) = sp (fun c => f (g c)) k x
  | 0, x => by simp [sp]
  | k + 1, x => by
    have := hg ⟨x % 256, by omega⟩
    simp only at this
    simp only [sp]
    rw [← sp_sp f g hg k (x / 256), show (256 * sp g k (x / 256) + g (x % 256)) / 256 = sp g k (x / 256) by omega, show (256 * sp g k (x / 256) + g (x % 256)) % 256 = g (x % 256) by omega]
def g12 (c : Nat) : Nat := g2 (g1 c)
theorem g1_lt : ∀ z : Fin 256, g1 z.val < 256 := by decide +kernel
theorem g12_lt : ∀ z : Fin 256, g12 z.val ≤ 68 ∧ g12 z.val % 16 ≤ 4 := by decide +kernel
theorem g123 : ∀ z : Fin 256, (g12 z.val / 16 + g12 z.val) &&& 15 = popAux 8 z.val := by decide +kernel
theorem cut3 : ∀ a : Fin 5, ∀ z : Fin 69, (16 * a.val + z.val / 16 + z.val) &&& 15 = (z.val / 16 + z.val) &&& 15 := by decide +kernel
theorem sp_mod : ∀ k x, sp g12 k x % 16 ≤ 4
  | 0, x => by simp [sp]
  | k + 1, x => by
    have := (g12_lt ⟨x % 256, by omega⟩).2
    simp only at this
    simp only [sp]
    omega
theorem st3 : ∀ k x, (sp g12 k x / 16 + sp g12 k x) &&& mk 15 k = sp (popAux 8) k x
  | 0, x => by simp [mk, sp]
  | k + 1, x => by
    have h := st3 k (x / 256)
    have l := (g12_lt ⟨x % 256, by omega⟩).1
    have e := g123 ⟨x % 256, by omega⟩
    have m := sp_mod k (x / 256)
    simp only at l e
    have c := cut3 ⟨sp g12 k (x / 256) % 16, by omega⟩ ⟨g12 (x % 256), by omega⟩
    simp only at c
    simp only [mk, sp]
    generalize hA : sp g12 k (x / 256) = A at *
    generalize hC : g12 (x % 256) = C at *
    rw [and_cut _ _ _ (by decide), ← h, show ((256 * A + C) / 16 + (256 * A + C)) / 256 = A / 16 + A by omega, show ((256 * A + C) / 16 + (256 * A + C)) % 256 = 16 * (A % 16) + C / 16 + C by omega, c, e]
theorem mask1 : mk 85 8 = 6148914691236517205 := by decide +kernel
theorem mask2 : mk 51 8 = 3689348814741910323 := by decide +kernel
theorem mask3 : mk 15 8 = 1085102592571150095 := by decide +kernel
/-- The first three steps. -/
theorem st123 (x : Nat) : let a := (x / 2 &&& 6148914691236517205) + (x &&& 6148914691236517205)
    let b := (a / 4 &&& 3689348814741910323) + (a &&& 3689348814741910323)
    (b / 16 + b) &&& 1085102592571150095 = sp (popAux 8) 8 x := by
  intro a b
  have ha : a = sp g1 8 x := by
    rw [← st1 8 x, mask1]
  have hb : b = sp g12 8 x := by
    have := st2 8 a
    rw [mask2] at this
    rw [show b = sp g2 8 a from this, ha, sp_sp g2 g1 g1_lt]
    rfl
  rw [hb, ← mask3]
  exact st3 8 x
/-- The last three. -/
theorem dv {s p r m : Nat} (h : s = p + m * r) (hp : p < m) : s / m = r := by
  subst h
  rw [Nat.add_mul_div_left _ _ (by omega), Nat.div_eq_of_lt hp]
  omega
theorem md {e S R : Nat} (h : e = S + 128 * R) (hS : S < 128) : e % 128 = S := by omega
theorem sum8 {p0 p1 p2 p3 p4 p5 p6 p7 s : Nat} (h0 : p0 ≤ 8) (h1 : p1 ≤ 8) (h2 : p2 ≤ 8) (h3 : p3 ≤ 8) (h4 : p4 ≤ 8) (h5 : p5 ≤ 8) (h6 : p6 ≤ 8) (h7 : p7 ≤ 8)
    (hs : s = p0 + 256 * p1 + 65536 * p2 + 16777216 * p3 + 4294967296 * p4 + 1099511627776 * p5 + 281474976710656 * p6 + 72057594037927936 * p7) :
    ∃ c d e : Nat, c = s + s / 256 ∧ d = c + c / 65536 ∧ e = d + d / 4294967296 ∧
    e % 128 = p0 + p1 + p2 + p3 + p4 + p5 + p6 + p7 ∧ c < 9223372036854775808 ∧ d < 9223372036854775808 ∧ e < 9223372036854775808 := by
  have hsum : p0 + p1 + p2 + p3 + p4 + p5 + p6 + p7 < 128 := by clear hs; omega
  have e1 : s / 256 = p1 + 256 * p2 + 65536 * p3 + 16777216 * p4 + 4294967296 * p5 + 1099511627776 * p6 + 281474976710656 * p7 :=
    dv (p := p0) (by subst hs; omega) (by omega)
  refine ⟨_, _, _, rfl, rfl, rfl, ?_⟩
  rw [e1]
  clear e1
  generalize hc : s + (p1 + 256 * p2 + 65536 * p3 + 16777216 * p4 + 4294967296 * p5 + 1099511627776 * p6 + 281474976710656 * p7) = c
  have e2 : c / 65536 = (p2 + p3) + 256 * (p3 + p4) + 65536 * (p4 + p5) + 16777216 * (p5 + p6) + 4294967296 * (p6 + p7) + 1099511627776 * p7 :=
    dv (p := (p0 + p1) + 256 * (p1 + p2)) (by subst hc hs; omega) (by omega)
  rw [e2]
  clear e2
  generalize hd : c + ((p2 + p3) + 256 * (p3 + p4) + 65536 * (p4 + p5) + 16777216 * (p5 + p6) + 4294967296 * (p6 + p7) + 1099511627776 * p7) = d
  have e3 : d / 4294967296 = (p4 + p5 + p6 + p7) + 256 * (p5 + p6 + p7) + 65536 * (p6 + p7) + 16777216 * p7 :=
    dv (p := (p0 + p1 + p2 + p3) + 256 * (p1 + p2 + p3 + p4) + 65536 * (p2 + p3 + p4 + p5) + 16777216 * (p3 + p4 + p5 + p6)) (by subst hd hc hs; omega) (by omega)
  rw [e3]
  clear e3
  generalize he : d + ((p4 + p5 + p6 + p7) + 256 * (p5 + p6 + p7) + 65536 * (p6 + p7) + 16777216 * p7) = e
  have e4 : e = (p0 + p1 + p2 + p3 + p4 + p5 + p6 + p7) + 128 * (2 * (p1 + p2 + p3 + p4 + p5 + p6 + p7) + 512 * (p2 + p3 + p4 + p5 + p6 + p7) + 131072 * (p3 + p4 + p5 + p6 + p7) + 33554432 * (p4 + p5 + p6 + p7) + 8589934592 * (p5 + p6 + p7) + 2199023255552 * (p6 + p7) + 562949953421312 * p7) := by
    subst he hd hc hs; omega
  have e5 : e % 128 = p0 + p1 + p2 + p3 + p4 + p5 + p6 + p7 := md e4 hsum
  refine ⟨e5, ?_, ?_, ?_⟩
  all_goals
    clear e5 e4 hsum
    subst he hd hc hs
    omega
theorem pop64 (x : Nat) : popAux 64 x = popAux 8 (x % 256) + popAux 8 (x / 256 % 256) + popAux 8 (x / 65536 % 256) + popAux 8 (x / 16777216 % 256) + popAux 8 (x / 4294967296 % 256) + popAux 8 (x / 1099511627776 % 256) + popAux 8 (x / 281474976710656 % 256) + popAux 8 (x / 72057594037927936 % 256) := by
  have m : ∀ y, popAux 8 (y % 256) = popAux 8 y := fun y => pop_mod 8 y
  simp only [m]
  rw [show 64 = 8 + 56 from rfl, pop_split, show 56 = 8 + 48 from rfl, pop_split, show 48 = 8 + 40 from rfl, pop_split, show 40 = 8 + 32 from rfl, pop_split, show 32 = 8 + 24 from rfl, pop_split, show 24 = 8 + 16 from rfl, pop_split, show 16 = 8 + 8 from rfl, pop_split]
  simp only [Nat.div_div_eq_div_mul, Nat.reducePow, Nat.reduceMul]
  omega
theorem sp8 (g : Nat → Nat) (x : Nat) : sp g 8 x = g (x % 256) + 256 * g (x / 256 % 256) + 65536 * g (x / 65536 % 256) + 16777216 * g (x / 16777216 % 256) + 4294967296 * g (x / 4294967296 % 256) + 1099511627776 * g (x / 1099511627776 % 256) + 281474976710656 * g (x / 281474976710656 % 256) + 72057594037927936 * g (x / 72057594037927936 % 256) := by
  simp only [sp, Nat.div_div_eq_div_mul, Nat.reduceMul]
  omega
end Go.Proofs.YtjfpjcaidjblnaaDoor
