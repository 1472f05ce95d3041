/-
  Whole numbers below 2^53 as float64: the conversion, the order, the sum and the way back are exact. Plain: nothing of the program.
-/
import Ieee.Arith
namespace Go.Proofs.Ybulkakik.Fl
open Ieee

/-- float64(n). -/
def F (n : Int) : Nat := double.nearest (n < 0) n.natAbs 0

theorem log2_mul (m k : Nat) (h : 0 < m) : (m * 2 ^ k).log2 = m.log2 + k := by
  have hm : m ≠ 0 := by omega
  have h1 := (Nat.log2_eq_iff hm).1 rfl
  have hp : 0 < 2 ^ k := Nat.two_pow_pos k
  rw [Nat.log2_eq_iff (by exact Nat.mul_ne_zero hm (by omega))]
  constructor
  · rw [Nat.pow_add]; exact Nat.mul_le_mul_right _ h1.1
  · rw [show m.log2 + k + 1 = (m.log2 + 1) + k by omega, Nat.pow_add]; exact Nat.mul_lt_mul_of_pos_right h1.2 hp

theorem log2_le (m : Nat) (h : 0 < m) (h2 : m < 9007199254740992) : m.log2 ≤ 52 := by
  have := (Nat.log2_lt (k := 53) (by omega : m ≠ 0)).2 h2
  omega

/-- The significand. -/
def sig (m : Nat) : Nat := m * 2 ^ (52 - m.log2)
theorem sig_bd (m : Nat) (h : 0 < m) (h2 : m < 9007199254740992) : 4503599627370496 ≤ sig m ∧ sig m < 9007199254740992 := by
  have h1 := (Nat.log2_eq_iff (by omega : m ≠ 0)).1 rfl
  have hl := log2_le m h h2
  have e : 2 ^ m.log2 * 2 ^ (52 - m.log2) = 4503599627370496 := by rw [← Nat.pow_add, show m.log2 + (52 - m.log2) = 52 by omega]
  have e2 : 2 ^ (m.log2 + 1) * 2 ^ (52 - m.log2) = 9007199254740992 := by rw [← Nat.pow_add, show m.log2 + 1 + (52 - m.log2) = 53 by omega]
  unfold sig
  constructor
  · rw [← e]; exact Nat.mul_le_mul_right _ h1.1
  · rw [← e2]; exact Nat.mul_lt_mul_of_pos_right h1.2 (Nat.two_pow_pos _)

theorem cut_exact (way : Toward) (neg : Bool) (n d : Nat) (hd : d ≤ n.log2 + 2 + 0) (hr : n % 2 ^ d = 0) : way.cut neg n d = n / 2 ^ d := by
  have hm : min d (n.log2 + 2) = d := by omega
  unfold Toward.cut
  simp only [hm, Nat.one_shiftLeft, hr]
  have hp : 0 < 2 ^ d := Nat.two_pow_pos d
  cases way <;> simp <;> omega

theorem d1 : (double.fractionBits : Int) = 52 := rfl
theorem d2 : double.leastPlace = -1074 := by decide
theorem d3 : double.binade = 4503599627370496 := by decide
theorem d4 : double.infRung = 9218868437227405312 := by decide
theorem d5 : double.signWeight = 9223372036854775808 := by decide
theorem nearest_exact (neg : Bool) (m k : Nat) (h0 : 0 < m) (h : m < 9007199254740992) : double.nearest neg (m * 2 ^ k) (-(k : Int)) = double.word neg ((m.log2 + 1022) * 4503599627370496 + sig m) := by
  have hl := log2_le m h0 h
  have hpos : 0 < m * 2 ^ k := Nat.mul_pos h0 (Nat.two_pow_pos k)
  have hb := sig_bd m h0 h
  unfold Format.nearest
  rw [if_neg (by omega)]
  simp only [log2_mul m k h0, d1, d2, d3, d4]
  have elast : max (-(k : Int) + ((m.log2 + k : Nat) : Int) - 52) (-1074) = (m.log2 : Int) - 52 := by omega
  rw [elast]
  have ekept : Toward.even.cut neg ((m * 2 ^ k) <<< (-(k : Int) - ((m.log2 : Int) - 52)).toNat) (((m.log2 : Int) - 52) - -(k : Int)).toNat = sig m := by
    by_cases hk : k ≤ 52 - m.log2
    · have s1 : (-(k : Int) - ((m.log2 : Int) - 52)).toNat = 52 - m.log2 - k := by omega
      have s2 : (((m.log2 : Int) - 52) - -(k : Int)).toNat = 0 := by omega
      rw [s1, s2, Nat.shiftLeft_eq]
      have e : m * 2 ^ k * 2 ^ (52 - m.log2 - k) = sig m := by
        unfold sig
        rw [Nat.mul_assoc, ← Nat.pow_add, show k + (52 - m.log2 - k) = 52 - m.log2 by omega]
      rw [e, cut_exact _ _ _ _ (by omega) (by simp [Nat.mod_one])]
      simp
    · have s1 : (-(k : Int) - ((m.log2 : Int) - 52)).toNat = 0 := by omega
      have s2 : (((m.log2 : Int) - 52) - -(k : Int)).toNat = k - (52 - m.log2) := by omega
      rw [s1, s2, Nat.shiftLeft_zero]
      have e : m * 2 ^ k = sig m * 2 ^ (k - (52 - m.log2)) := by
        unfold sig
        rw [Nat.mul_assoc, ← Nat.pow_add, show 52 - m.log2 + (k - (52 - m.log2)) = k by omega]
      have hlog : (m * 2 ^ k).log2 = m.log2 + k := log2_mul m k h0
      rw [cut_exact _ _ _ _ (by omega) (by rw [e]; exact Nat.mul_mod_left _ _), e, Nat.mul_div_cancel _ (Nat.two_pow_pos _)]
  rw [ekept]
  have s3 : ((m.log2 : Int) - 52 - -1074).toNat = m.log2 + 1022 := by omega
  rw [s3]
  congr 1
  omega

theorem F_pos (n : Int) (h0 : n ≠ 0) (h : n.natAbs < 9007199254740992) : F n = double.word (n < 0) ((n.natAbs.log2 + 1022) * 4503599627370496 + sig n.natAbs) := by
  have := nearest_exact (n < 0) n.natAbs 0 (by omega) h
  simpa [F] using this
theorem F_zero : F 0 = 0 := by decide

theorem read_word (neg : Bool) (L s : Nat) (hL : L ≤ 52) (h1 : 4503599627370496 ≤ s) (h2 : s < 9007199254740992) : double.read (double.word neg ((L + 1022) * 4503599627370496 + s)) = .number neg s ((L : Int) - 52) := by
  unfold Format.read Format.word
  simp only [d2, d3, d4, d5]
  have hr : (if neg = true then 9223372036854775808 + ((L + 1022) * 4503599627370496 + s) else (L + 1022) * 4503599627370496 + s) % 9223372036854775808 = (L + 1022) * 4503599627370496 + s := by
    cases neg <;> simp <;> omega
  have hn : ((if neg = true then 9223372036854775808 + ((L + 1022) * 4503599627370496 + s) else (L + 1022) * 4503599627370496 + s) / 9223372036854775808 % 2 == 1) = neg := by
    cases neg
    · simp; omega
    · have : (9223372036854775808 + ((L + 1022) * 4503599627370496 + s)) / 9223372036854775808 = 1 := by omega
      simp [this]
  rw [hr, hn, if_neg (by omega), if_pos (by omega)]
  congr 1
  · omega
  · omega

/-- What F n stands for. -/
theorem read_F (n : Int) (h : n.natAbs < 9007199254740992) : ∃ m i, double.read (F n) = .number (n < 0) m i ∧ i ≤ 0 ∧ -1074 ≤ i ∧ (∀ B : Nat, -(B : Int) ≤ i → signed (n < 0) m (i - -(B : Int)).toNat = n * 2 ^ B) ∧ (m <<< i.toNat = m ∧ Toward.zero.cut (n < 0) m (-i).toNat = n.natAbs) := by
  by_cases h0 : n = 0
  · subst h0
    refine ⟨0, -1074, by rw [F_zero]; decide, by omega, by omega, fun B _ => ?_, by decide, by decide⟩
    simp [signed]
  · have hl := log2_le n.natAbs (by omega) h
    have hb := sig_bd n.natAbs (by omega) h
    refine ⟨sig n.natAbs, (n.natAbs.log2 : Int) - 52, by rw [F_pos n h0 h, read_word _ _ _ hl hb.1 hb.2], by omega, by omega, fun B hB => ?_, ?_, ?_⟩
    · have e : sig n.natAbs <<< ((n.natAbs.log2 : Int) - 52 - -(B : Int)).toNat = n.natAbs * 2 ^ B := by
        rw [show ((n.natAbs.log2 : Int) - 52 - -(B : Int)).toNat = n.natAbs.log2 + B - 52 by omega, Nat.shiftLeft_eq]
        unfold sig
        rw [Nat.mul_assoc, ← Nat.pow_add, show 52 - n.natAbs.log2 + (n.natAbs.log2 + B - 52) = B by omega]
      unfold signed
      rw [e]
      by_cases hn : n < 0
      · simp only [hn, decide_true, if_true]
        have : ((n.natAbs * 2 ^ B : Nat) : Int) = (n.natAbs : Int) * 2 ^ B := by push_cast; rfl
        rw [this, ← Int.neg_mul]
        congr 1
        omega
      · simp only [hn, decide_false, Bool.false_eq_true, if_false]
        have : ((n.natAbs * 2 ^ B : Nat) : Int) = (n.natAbs : Int) * 2 ^ B := by push_cast; rfl
        rw [this]
        congr 1
        omega
    · rw [show ((n.natAbs.log2 : Int) - 52).toNat = 0 by omega]; rfl
    · rw [show (-((n.natAbs.log2 : Int) - 52)).toNat = 52 - n.natAbs.log2 by omega]
      have hls : (sig n.natAbs).log2 = 52 := by
        unfold sig
        rw [log2_mul _ _ (by omega)]
        omega
      rw [cut_exact _ _ _ _ (by omega) (by unfold sig; exact Nat.mul_mod_left _ _)]
      unfold sig
      exact Nat.mul_div_cancel _ (Nat.two_pow_pos _)

theorem cmp_mul (a b : Int) (p : Int) (hp : 0 < p) : compare (a * p) (b * p) = compare a b := by
  rcases Int.lt_trichotomy a b with h | h | h
  · have h2 : a * p < b * p := Int.mul_lt_mul_of_pos_right h hp
    rw [show compare (a * p) (b * p) = .lt from by simp [compare, compareOfLessAndEq, h2], show compare a b = .lt from by simp [compare, compareOfLessAndEq, h]]
  · subst h
    simp [compare, compareOfLessAndEq]
  · have h2 : b * p < a * p := Int.mul_lt_mul_of_pos_right h hp
    have h3 : ¬ a * p < b * p := by omega
    have h4 : ¬ a * p = b * p := by omega
    have h5 : ¬ a < b := by omega
    have h6 : ¬ a = b := by omega
    show compareOfLessAndEq (a * p) (b * p) = compareOfLessAndEq a b
    unfold compareOfLessAndEq
    rw [if_neg h3, if_neg h4, if_neg h5, if_neg h6]

theorem order_F (a b : Int) (ha : a.natAbs < 9007199254740992) (hb : b.natAbs < 9007199254740992) : double.order (F a) (F b) = some (compare a b) := by
  obtain ⟨m, i, r1, i0, i1, hs, _⟩ := read_F a ha
  obtain ⟨n, j, r2, j0, j1, ht, _⟩ := read_F b hb
  unfold Format.order
  rw [r1, r2]
  simp only [Datum.order]
  obtain ⟨B, hB⟩ : ∃ B : Nat, min i j = -(B : Int) := ⟨(-(min i j)).toNat, by omega⟩
  rw [hB, hs B (by omega), ht B (by omega), cmp_mul _ _ _ (by exact Int.pow_pos (by omega))]

theorem add_F (a b : Int) (ha : a.natAbs < 9007199254740992) (hb : b.natAbs < 9007199254740992) (hab : (a + b).natAbs < 9007199254740992) : double.add (F a) (F b) = some (F (a + b)) := by
  obtain ⟨m, i, r1, i0, i1, hs, _⟩ := read_F a ha
  obtain ⟨n, j, r2, j0, j1, ht, _⟩ := read_F b hb
  unfold Format.add
  rw [r1, r2]
  simp only [Datum.sum]
  obtain ⟨B, hB⟩ : ∃ B : Nat, min i j = -(B : Int) := ⟨(-(min i j)).toNat, by omega⟩
  rw [hB, hs B (by omega), ht B (by omega), ← Int.add_mul]
  have hp : (0 : Int) < 2 ^ B := Int.pow_pos (by omega)
  simp only [Option.map_some, Format.write]
  congr 1
  by_cases h0 : a + b = 0
  · rw [h0]
    have : (decide (a < 0) && decide (b < 0)) = false := by
      by_cases h1 : a < 0
      · have : ¬ b < 0 := by omega
        simp [this]
      · simp [h1]
    simp only [Int.zero_mul, if_true, this, Int.natAbs_zero]
    rw [F_zero]
    unfold Format.nearest
    rw [if_pos rfl]
    rfl
  · have hne : (a + b) * 2 ^ B ≠ 0 := Int.mul_ne_zero h0 (by omega)
    rw [if_neg hne]
    have hlt : decide ((a + b) * 2 ^ B < 0) = decide (a + b < 0) := by
      rw [decide_eq_decide]
      constructor
      · intro h
        by_cases h2 : a + b < 0
        · exact h2
        · have : 0 ≤ (a + b) * 2 ^ B := Int.mul_nonneg (by omega) (by omega)
          omega
      · intro h
        exact Int.mul_neg_of_neg_of_pos h hp
    rw [hlt, Int.natAbs_mul, show ((2 : Int) ^ B).natAbs = 2 ^ B from by rw [Int.natAbs_pow]; rfl, nearest_exact _ _ _ (by omega) hab, F_pos _ h0 hab]

theorem toInt_F (n : Int) (h : n.natAbs < 9007199254740992) : (double.read (F n)).toInt .zero = some n := by
  obtain ⟨m, i, r1, i0, i1, _, hz, hc⟩ := read_F n h
  rw [r1]
  simp only [Datum.toInt, Datum.integral, hz, hc]
  congr 1
  unfold signed
  by_cases hn : n < 0
  · simp only [hn, decide_true, if_true, Nat.shiftLeft_zero]; omega
  · simp only [hn, decide_false, Bool.false_eq_true, if_false, Nat.shiftLeft_zero]; omega
end Go.Proofs.Ybulkakik.Fl
