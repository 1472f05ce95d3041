/- The number of bits of a word: what 'bits.OnesCount64' reckons. No Go in sight. -/
import Derived.Test.YbulkakkoTreeB
namespace Go.Proofs.Ybulkakko
open Go.RowKit
set_option linter.unusedVariables false
set_option linter.unusedSimpArgs false

theorem and256 (a c y m : Nat) (ha : a < 256) (hc : c < 256) : (a + 256 * y) &&& (c + 256 * m) = (a &&& c) + 256 * (y &&& m) := by
  have h1 : a &&& c < 2 ^ 8 := Nat.and_lt_two_pow a (by omega)
  have e1 : a + 256 * y = 2 ^ 8 * y + a := by omega
  have e2 : c + 256 * m = 2 ^ 8 * m + c := by omega
  have e3 : (a &&& c) + 256 * (y &&& m) = 2 ^ 8 * (y &&& m) + (a &&& c) := by omega
  rw [e1, e2, e3]
  apply Nat.eq_of_testBit_eq
  intro i
  rw [Nat.testBit_and, Nat.testBit_two_pow_mul_add _ (by omega), Nat.testBit_two_pow_mul_add _ (by omega), Nat.testBit_two_pow_mul_add _ h1]
  split
  · rw [Nat.testBit_and]
  · rw [Nat.testBit_and]

/-- c in each of n bytes. -/
def rep (c : Nat) : Nat → Nat
  | 0 => 0
  | n + 1 => c + 256 * rep c n

theorem rep_succ (c n : Nat) : rep c (n + 1) = c + 256 * rep c n := rfl

def f1 (n x : Nat) : Nat := ((x / 2) &&& rep 85 n) + (x &&& rep 85 n)
def f2 (n x : Nat) : Nat := ((x / 4) &&& rep 51 n) + (x &&& rep 51 n)
def f3 (n x : Nat) : Nat := (x / 16 + x) &&& rep 15 n
def g1 (b : Nat) : Nat := ((b / 2) &&& 85) + (b &&& 85)
def g2 (b : Nat) : Nat := ((b / 4) &&& 51) + (b &&& 51)
def g3 (b : Nat) : Nat := (b / 16 + b) &&& 15

set_option maxRecDepth 100000 in
theorem low1 : ∀ b, b < 256 → ∀ c, c < 2 → (b / 2 + 128 * c) &&& 85 = (b / 2) &&& 85 := by decide +kernel
set_option maxRecDepth 100000 in
theorem low2 : ∀ b, b < 256 → ∀ c, c < 4 → (b / 4 + 64 * c) &&& 51 = (b / 4) &&& 51 := by decide +kernel
set_option maxRecDepth 100000 in
theorem low3 : ∀ b, b < 120 → ∀ c, c < 8 → (b / 16 + b + 16 * c) &&& 15 = (b / 16 + b) &&& 15 := by decide +kernel

theorem f1_step (n b y : Nat) (hb : b < 256) : f1 (n + 1) (b + 256 * y) = g1 b + 256 * f1 n y := by
  have h1 := low1 b hb (y % 2) (by omega)
  have e : (b + 256 * y) / 2 = (b / 2 + 128 * (y % 2)) + 256 * (y / 2) := by omega
  unfold f1 g1
  rw [rep_succ, e, and256 _ _ _ _ (by omega) (by omega), and256 _ _ _ _ hb (by omega), h1]
  omega
theorem f2_step (n b y : Nat) (hb : b < 256) : f2 (n + 1) (b + 256 * y) = g2 b + 256 * f2 n y := by
  have h1 := low2 b hb (y % 4) (by omega)
  have e : (b + 256 * y) / 4 = (b / 4 + 64 * (y % 4)) + 256 * (y / 4) := by omega
  unfold f2 g2
  rw [rep_succ, e, and256 _ _ _ _ (by omega) (by omega), and256 _ _ _ _ hb (by omega), h1]
  omega
theorem f3_step (n b y : Nat) (hb : b < 120) (hy : y % 16 < 8) : f3 (n + 1) (b + 256 * y) = g3 b + 256 * f3 n y := by
  have h1 := low3 b hb (y % 16) hy
  have e : (b + 256 * y) / 16 + (b + 256 * y) = (b / 16 + b + 16 * (y % 16)) + 256 * (y / 16 + y) := by omega
  unfold f3 g3
  rw [rep_succ, e, and256 _ _ _ _ (by omega) (by omega), h1]

/-- The bits of the lowest n places. -/
def bc : Nat → Nat → Nat
  | 0, _ => 0
  | n + 1, x => x % 2 + bc n (x / 2)
theorem bc_add : ∀ (m n x : Nat), bc (m + n) x = bc m x + bc n (x / 2 ^ m)
  | 0, n, x => by simp [bc]
  | m + 1, n, x => by
    have e : x / 2 / 2 ^ m = x / 2 ^ (m + 1) := by rw [Nat.div_div_eq_div_mul, Nat.pow_succ, Nat.mul_comm]
    rw [show m + 1 + n = (m + n) + 1 by omega, bc, bc, bc_add m n (x / 2), e]
    omega
theorem bc_mod : ∀ (n x y : Nat), bc n (x + 2 ^ n * y) = bc n x
  | 0, _, _ => rfl
  | n + 1, x, y => by
    have e : 2 ^ (n + 1) * y = 2 * (2 ^ n * y) := by rw [Nat.pow_succ]; rw [Nat.mul_comm (2 ^ n) 2, Nat.mul_assoc]
    rw [bc, bc, e]
    have e1 : (x + 2 * (2 ^ n * y)) % 2 = x % 2 := by omega
    have e2 : (x + 2 * (2 ^ n * y)) / 2 = x / 2 + 2 ^ n * y := by omega
    rw [e1, e2, bc_mod n (x / 2) y]
theorem bc_byte (n b y : Nat) (hb : b < 256) : bc (8 + n) (b + 256 * y) = bc 8 b + bc n y := by
  rw [bc_add]
  have h1 : bc 8 (b + 256 * y) = bc 8 b := bc_mod 8 b y
  have h2 : (b + 256 * y) / 2 ^ 8 = y := by omega
  rw [h1, h2]

set_option maxRecDepth 100000 in
theorem g_all : ∀ b, b < 256 → g1 b < 256 ∧ g2 (g1 b) < 120 ∧ g2 (g1 b) % 16 < 8 ∧ g3 (g2 (g1 b)) = bc 8 b ∧ bc 8 b ≤ 8 := by decide +kernel

/-- Eight bytes. -/
def by8 (a b c d e f g h : Nat) : Nat := a + 256 * (b + 256 * (c + 256 * (d + 256 * (e + 256 * (f + 256 * (g + 256 * h))))))

theorem by8_lt {a b c d e f g h : Nat} (ha : a < 256) (hb : b < 256) (hc : c < 256) (hd : d < 256) (he : e < 256) (hf : f < 256) (hg : g < 256) (hh : h < 256) : by8 a b c d e f g h < 18446744073709551616 := by
  unfold by8; omega

theorem F1 (a b c d e f g h : Nat) (ha : a < 256) (hb : b < 256) (hc : c < 256) (hd : d < 256) (he : e < 256) (hf : f < 256) (hg : g < 256) (hh : h < 256) :
    f1 8 (by8 a b c d e f g h) = by8 (g1 a) (g1 b) (g1 c) (g1 d) (g1 e) (g1 f) (g1 g) (g1 h) := by
  have z1 : ∀ x, x < 256 → f1 1 x = g1 x := fun x hx => by have := f1_step 0 x 0 hx; simpa [show f1 0 0 = 0 from rfl] using this
  unfold by8
  rw [f1_step 7 a _ ha, f1_step 6 b _ hb, f1_step 5 c _ hc, f1_step 4 d _ hd, f1_step 3 e _ he, f1_step 2 f _ hf, f1_step 1 g _ hg, z1 h hh]
theorem F2 (a b c d e f g h : Nat) (ha : a < 256) (hb : b < 256) (hc : c < 256) (hd : d < 256) (he : e < 256) (hf : f < 256) (hg : g < 256) (hh : h < 256) :
    f2 8 (by8 a b c d e f g h) = by8 (g2 a) (g2 b) (g2 c) (g2 d) (g2 e) (g2 f) (g2 g) (g2 h) := by
  have z1 : ∀ x, x < 256 → f2 1 x = g2 x := fun x hx => by have := f2_step 0 x 0 hx; simpa [show f2 0 0 = 0 from rfl] using this
  unfold by8
  rw [f2_step 7 a _ ha, f2_step 6 b _ hb, f2_step 5 c _ hc, f2_step 4 d _ hd, f2_step 3 e _ he, f2_step 2 f _ hf, f2_step 1 g _ hg, z1 h hh]
theorem F3 (a b c d e f g h : Nat) (ha : a < 120) (hb : b < 120 ∧ b % 16 < 8) (hc : c < 120 ∧ c % 16 < 8) (hd : d < 120 ∧ d % 16 < 8) (he : e < 120 ∧ e % 16 < 8) (hf : f < 120 ∧ f % 16 < 8) (hg : g < 120 ∧ g % 16 < 8) (hh : h < 120 ∧ h % 16 < 8) :
    f3 8 (by8 a b c d e f g h) = by8 (g3 a) (g3 b) (g3 c) (g3 d) (g3 e) (g3 f) (g3 g) (g3 h) := by
  have z1 : ∀ x, x < 120 → f3 1 x = g3 x := fun x hx => by have := f3_step 0 x 0 hx (by omega); simpa [show f3 0 0 = 0 from rfl] using this
  unfold by8
  rw [f3_step 7 a _ ha (by omega), f3_step 6 b _ hb.1 (by omega), f3_step 5 c _ hc.1 (by omega), f3_step 4 d _ hd.1 (by omega), f3_step 3 e _ he.1 (by omega), f3_step 2 f _ hf.1 (by omega), f3_step 1 g _ hg.1 (by omega), z1 h hh.1]

theorem bc_by8 (a b c d e f g h : Nat) (ha : a < 256) (hb : b < 256) (hc : c < 256) (hd : d < 256) (he : e < 256) (hf : f < 256) (hg : g < 256) (hh : h < 256) :
    bc 64 (by8 a b c d e f g h) = bc 8 a + bc 8 b + bc 8 c + bc 8 d + bc 8 e + bc 8 f + bc 8 g + bc 8 h := by
  unfold by8
  rw [show (64 : Nat) = 8 + 56 from rfl, bc_byte 56 a _ ha, show (56 : Nat) = 8 + 48 from rfl, bc_byte 48 b _ hb, show (48 : Nat) = 8 + 40 from rfl, bc_byte 40 c _ hc, show (40 : Nat) = 8 + 32 from rfl, bc_byte 32 d _ hd,
    show (32 : Nat) = 8 + 24 from rfl, bc_byte 24 e _ he, show (24 : Nat) = 8 + 16 from rfl, bc_byte 16 f _ hf, show (16 : Nat) = 8 + 8 from rfl, bc_byte 8 g _ hg]
  omega

theorem and_nat64 {a b : Nat} (ha : a < 18446744073709551616) (hb : b < 18446744073709551616) : bits .and .u64 (a : Int) (b : Int) = ((a &&& b : Nat) : Int) :=
  (bits_nat .u64 64 (by decide) (fun n h0 h1 => by rw [IntKind.wrap_u64]; omega) a b (by omega) (by omega)).1
theorem wrapU {a : Nat} (ha : a < 18446744073709551616) : IntKind.u64.wrap (a : Int) = (a : Int) := by rw [IntKind.wrap_u64]; omega

theorem u1_nat {x : Nat} (hx : x < 18446744073709551616) (hf : f1 8 x < 18446744073709551616) : u1 (x : Int) = (f1 8 x : Nat) := by
  unfold u1
  have e1 : ((x : Int) / 2) = ((x / 2 : Nat) : Int) := by omega
  rw [e1, show (6148914691236517205 : Int) = ((6148914691236517205 : Nat) : Int) from rfl, and_nat64 (by omega) (by decide), and_nat64 hx (by decide)]
  have e2 : (6148914691236517205 : Nat) = rep 85 8 := by decide
  rw [e2]
  have e3 : (((x / 2 &&& rep 85 8 : Nat) : Int) + ((x &&& rep 85 8 : Nat) : Int)) = ((f1 8 x : Nat) : Int) := by unfold f1; push_cast; rfl
  rw [e3, wrapU hf]
theorem u2_nat {x : Nat} (hx : x < 18446744073709551616) (hf : f2 8 x < 18446744073709551616) : u2 (x : Int) = (f2 8 x : Nat) := by
  unfold u2
  have e1 : ((x : Int) / 4) = ((x / 4 : Nat) : Int) := by omega
  rw [e1, show (3689348814741910323 : Int) = ((3689348814741910323 : Nat) : Int) from rfl, and_nat64 (by omega) (by decide), and_nat64 hx (by decide)]
  have e2 : (3689348814741910323 : Nat) = rep 51 8 := by decide
  rw [e2]
  have e3 : (((x / 4 &&& rep 51 8 : Nat) : Int) + ((x &&& rep 51 8 : Nat) : Int)) = ((f2 8 x : Nat) : Int) := by unfold f2; push_cast; rfl
  rw [e3, wrapU hf]
theorem u3_nat {x : Nat} (hx : x < 9223372036854775808) : u3 (x : Int) = (f3 8 x : Nat) := by
  unfold u3
  have e1 : ((x : Int) / 16 + (x : Int)) = ((x / 16 + x : Nat) : Int) := by omega
  rw [e1, wrapU (by omega), show (1085102592571150095 : Int) = ((1085102592571150095 : Nat) : Int) from rfl, and_nat64 (by omega) (by decide)]
  have e2 : (1085102592571150095 : Nat) = rep 15 8 := by decide
  rw [e2]
  rfl

theorem by8_lt2 {a b c d e f g h : Nat} (ha : a < 120) (hb : b < 120) (hc : c < 120) (hd : d < 120) (he : e < 120) (hf : f < 120) (hg : g < 120) (hh : h < 120) : by8 a b c d e f g h < 9223372036854775808 := by
  unfold by8; omega
theorem by8_add (a b c d e f g h a' b' c' d' e' f' g' h' : Nat) : by8 a b c d e f g h + by8 a' b' c' d' e' f' g' h' = by8 (a + a') (b + b') (c + c') (d + d') (e + e') (f + f') (g + g') (h + h') := by
  unfold by8; omega
theorem by8_div1 (a b c d e f g h : Nat) (ha : a < 256) : by8 a b c d e f g h / 256 = by8 b c d e f g h 0 := by
  unfold by8; omega
theorem by8_div2 (a b c d e f g h : Nat) (ha : a < 256) (hb : b < 256) : by8 a b c d e f g h / 65536 = by8 c d e f g h 0 0 := by
  rw [show (65536 : Nat) = 256 * 256 from rfl, ← Nat.div_div_eq_div_mul, by8_div1 _ _ _ _ _ _ _ _ ha, by8_div1 _ _ _ _ _ _ _ _ hb]
theorem by8_div4 (a b c d e f g h : Nat) (ha : a < 256) (hb : b < 256) (hc : c < 256) (hd : d < 256) : by8 a b c d e f g h / 4294967296 = by8 e f g h 0 0 0 0 := by
  rw [show (4294967296 : Nat) = 65536 * 65536 from rfl, ← Nat.div_div_eq_div_mul, by8_div2 _ _ _ _ _ _ _ _ ha hb, by8_div2 _ _ _ _ _ _ _ _ hc hd]

theorem u4_nat {x : Nat} (h : x + x / 256 < 18446744073709551616) : u4 (x : Int) = ((x + x / 256 : Nat) : Int) := by
  unfold u4
  have e : (x : Int) + (x : Int) / 256 = ((x + x / 256 : Nat) : Int) := by omega
  rw [e, wrapU h]
theorem u5_nat {x : Nat} (h : x + x / 65536 < 18446744073709551616) : u5 (x : Int) = ((x + x / 65536 : Nat) : Int) := by
  unfold u5
  have e : (x : Int) + (x : Int) / 65536 = ((x + x / 65536 : Nat) : Int) := by omega
  rw [e, wrapU h]
theorem u6_nat {x : Nat} (h : x + x / 4294967296 < 18446744073709551616) : u6 (x : Int) = ((x + x / 4294967296 : Nat) : Int) := by
  unfold u6
  have e : (x : Int) + (x : Int) / 4294967296 = ((x + x / 4294967296 : Nat) : Int) := by omega
  rw [e, wrapU h]

theorem sum8 (A B C D E F G H : Nat) (a5 : A ≤ 8) (b5 : B ≤ 8) (c5 : C ≤ 8) (d5 : D ≤ 8) (e5 : E ≤ 8) (p5 : F ≤ 8) (q5 : G ≤ 8) (r5 : H ≤ 8) :
    bits .and .i64 (wrap64 (u6 (u5 (u4 ((by8 A B C D E F G H : Nat) : Int))))) 127 = ((A + B + C + D + E + F + G + H : Nat) : Int) := by
  have s4 : by8 A B C D E F G H + by8 A B C D E F G H / 256 = by8 (A + B) (B + C) (C + D) (D + E) (E + F) (F + G) (G + H) (H + 0) := by
    rw [by8_div1 _ _ _ _ _ _ _ _ (by omega), by8_add]
  rw [u4_nat (by rw [s4]; exact by8_lt (by omega) (by omega) (by omega) (by omega) (by omega) (by omega) (by omega) (by omega)), s4]
  have s5 : ∀ a b c d e f g h : Nat, a ≤ 16 → b ≤ 16 → by8 a b c d e f g h + by8 a b c d e f g h / 65536 = by8 (a + c) (b + d) (c + e) (d + f) (e + g) (f + h) (g + 0) (h + 0) := fun a b c d e f g h ha hb => by
    rw [by8_div2 _ _ _ _ _ _ _ _ (by omega) (by omega), by8_add]
  have t5 := s5 (A + B) (B + C) (C + D) (D + E) (E + F) (F + G) (G + H) (H + 0) (by omega) (by omega)
  rw [u5_nat (by rw [t5]; exact by8_lt (by omega) (by omega) (by omega) (by omega) (by omega) (by omega) (by omega) (by omega)), t5]
  have s6 : ∀ a b c d e f g h : Nat, a ≤ 32 → b ≤ 32 → c ≤ 32 → d ≤ 32 → by8 a b c d e f g h + by8 a b c d e f g h / 4294967296 = by8 (a + e) (b + f) (c + g) (d + h) (e + 0) (f + 0) (g + 0) (h + 0) := fun a b c d e f g h ha hb hc hd => by
    rw [by8_div4 _ _ _ _ _ _ _ _ (by omega) (by omega) (by omega) (by omega), by8_add]
  have t6 := s6 (A + B + (C + D)) (B + C + (D + E)) (C + D + (E + F)) (D + E + (F + G)) (E + F + (G + H)) (F + G + (H + 0)) (G + H + 0) (H + 0 + 0) (by omega) (by omega) (by omega) (by omega)
  rw [u6_nat (by rw [t6]; exact by8_lt (by omega) (by omega) (by omega) (by omega) (by omega) (by omega) (by omega) (by omega)), t6]
  have hlt : by8 (A + B + (C + D) + (E + F + (G + H))) (B + C + (D + E) + (F + G + (H + 0))) (C + D + (E + F) + (G + H + 0)) (D + E + (F + G) + (H + 0 + 0)) (E + F + (G + H) + 0) (F + G + (H + 0) + 0) (G + H + 0 + 0) (H + 0 + 0 + 0) < 9223372036854775808 :=
    by8_lt2 (by omega) (by omega) (by omega) (by omega) (by omega) (by omega) (by omega) (by omega)
  have hmod : by8 (A + B + (C + D) + (E + F + (G + H))) (B + C + (D + E) + (F + G + (H + 0))) (C + D + (E + F) + (G + H + 0)) (D + E + (F + G) + (H + 0 + 0)) (E + F + (G + H) + 0) (F + G + (H + 0) + 0) (G + H + 0 + 0) (H + 0 + 0 + 0) % 128 = A + B + C + D + E + F + G + H := by
    unfold by8
    generalize (B + C + (D + E) + (F + G + (H + 0)) + 256 * (C + D + (E + F) + (G + H + 0) + 256 * (D + E + (F + G) + (H + 0 + 0) + 256 * (E + F + (G + H) + 0 + 256 * (F + G + (H + 0) + 0 + 256 * (G + H + 0 + 0 + 256 * (H + 0 + 0 + 0))))))) = X
    omega
  generalize by8 (A + B + (C + D) + (E + F + (G + H))) (B + C + (D + E) + (F + G + (H + 0))) (C + D + (E + F) + (G + H + 0)) (D + E + (F + G) + (H + 0 + 0)) (E + F + (G + H) + 0) (F + G + (H + 0) + 0) (G + H + 0 + 0) (H + 0 + 0 + 0) = Y at *
  rw [IntWalk.wrap64_in _ (by omega)]
  have hb := bits_mask .i64 63 (by decide) (fun n h0 h1 => by rw [IntKind.wrap_i64]; omega) 7 (by decide) (Y : Int) (by omega) (by omega)
  have e1 : ((2 : Int) ^ 7 - 1) = 127 := by decide
  have e2 : ((2 : Int) ^ 7) = 128 := by decide
  rw [e1, e2] at hb
  rw [hb]
  omega

theorem pc_nat (x : Nat) (hx : x < 18446744073709551616) : pc (x : Int) = (bc 64 x : Nat) := by
  obtain ⟨a, b, c, d, e, f, g, h, ha, hb, hc, hd, he, hf, hg, hh, rfl⟩ : ∃ a b c d e f g h, a < 256 ∧ b < 256 ∧ c < 256 ∧ d < 256 ∧ e < 256 ∧ f < 256 ∧ g < 256 ∧ h < 256 ∧ x = by8 a b c d e f g h :=
    ⟨x % 256, x / 256 % 256, x / 65536 % 256, x / 16777216 % 256, x / 4294967296 % 256, x / 1099511627776 % 256, x / 281474976710656 % 256, x / 72057594037927936, by omega, by omega, by omega, by omega, by omega, by omega, by omega, by omega, by unfold by8; omega⟩
  obtain ⟨a1, a2, a3, a4, a5⟩ := g_all a ha
  obtain ⟨b1, b2, b3, b4, b5⟩ := g_all b hb
  obtain ⟨c1, c2, c3, c4, c5⟩ := g_all c hc
  obtain ⟨d1, d2, d3, d4, d5⟩ := g_all d hd
  obtain ⟨e1, e2, e3, e4, e5⟩ := g_all e he
  obtain ⟨p1, p2, p3, p4, p5⟩ := g_all f hf
  obtain ⟨q1, q2, q3, q4, q5⟩ := g_all g hg
  obtain ⟨r1, r2, r3, r4, r5⟩ := g_all h hh
  rw [bc_by8 a b c d e f g h ha hb hc hd he hf hg hh]
  have k1 := F1 a b c d e f g h ha hb hc hd he hf hg hh
  have k2 := F2 _ _ _ _ _ _ _ _ a1 b1 c1 d1 e1 p1 q1 r1
  have k3 := F3 _ _ _ _ _ _ _ _ a2 ⟨b2, b3⟩ ⟨c2, c3⟩ ⟨d2, d3⟩ ⟨e2, e3⟩ ⟨p2, p3⟩ ⟨q2, q3⟩ ⟨r2, r3⟩
  unfold pc
  rw [u1_nat hx (by rw [k1]; exact by8_lt a1 b1 c1 d1 e1 p1 q1 r1), k1]
  rw [u2_nat (by8_lt a1 b1 c1 d1 e1 p1 q1 r1) (by rw [k2]; exact by8_lt (by omega) (by omega) (by omega) (by omega) (by omega) (by omega) (by omega) (by omega)), k2]
  rw [u3_nat (by8_lt2 a2 b2 c2 d2 e2 p2 q2 r2), k3, a4, b4, c4, d4, e4, p4, q4, r4]
  exact sum8 _ _ _ _ _ _ _ _ a5 b5 c5 d5 e5 p5 q5 r5
end Go.Proofs.Ybulkakko
