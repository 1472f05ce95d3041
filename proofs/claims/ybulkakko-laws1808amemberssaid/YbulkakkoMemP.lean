/- The plain laws on membership and size. No Go in sight. -/
import Derived.Test.YbulkakkoTreeP
import Derived.Test.YbulkakkoPop
namespace Go.Proofs.Ybulkakko
open Go.RowKit
set_option linter.unusedVariables false
set_option linter.unusedSimpArgs false

/-- Does the tree of height h hold k? -/
def hasT : Nat → T → Nat → Bool
  | 0, t, k => t.word.toNat.testBit (k % 64)
  | h + 1, t, k => hasT h (if k / (64 * 2 ^ h) % 2 = 0 then t.left else t.right) k

theorem hasT_nil : ∀ (h k : Nat), hasT h .nil k = false
  | 0, k => by simp [hasT, T.word]
  | h + 1, k => by simp only [hasT, T.left, T.right, ite_self]; exact hasT_nil h k

theorem LeafR.word {x : Int} {ts : List T} {v : T} (h : LeafR x ts v) : v.word = x := by
  rcases h with ⟨k, hk, -, -, h2, -⟩ | ⟨-, ⟨rfl, rfl⟩ | ⟨-, b, rfl⟩⟩
  · exact h2
  · rfl
  · rfl
theorem JoinR.halves {l r : T} {ts : List T} {v : T} (h : JoinR l r ts v) : v.left = l ∧ v.right = r := by
  rcases h with ⟨k, hk, -, -, h2, h3, -⟩ | ⟨-, ⟨rfl, rfl, rfl⟩ | ⟨-, b, rfl⟩⟩
  · exact ⟨h2, h3⟩
  · exact ⟨rfl, rfl⟩
  · exact ⟨rfl, rfl⟩

/-- THE UNION HOLDS WHAT ONE OF THE TWO HOLDS. -/
theorem Uni.has {h : Nat} {s t v : T} (hu : Uni h s t v) (hs : WF h s) (ht : WF h t) (k : Nat) : hasT h v k = (hasT h s k || hasT h t k) := by
  induction hu with
  | nilL h t => simp [hasT_nil]
  | same h t => simp
  | nilR h s => simp [hasT_nil]
  | leaf s t v _ _ _ hl =>
    simp only [hasT]
    rw [hl.word, or_nat hs.word ht.word, Int.toNat_natCast, Nat.testBit_or]
  | join h s t l r v _ _ _ h1 h2 hj ih1 ih2 =>
    obtain ⟨e1, e2⟩ := hj.halves
    simp only [hasT]
    split
    · rw [e1]; exact ih1 hs.left ht.left
    · rw [e2]; exact ih2 hs.right ht.right

theorem zfold_bit (lo : Nat) (j : Nat) (hj : j < 64) : ∀ (zs : List Int) (x : Int), 0 ≤ x ∧ x < 18446744073709551616 → (∀ k ∈ zs, (lo : Int) ≤ k ∧ k < lo + 64) →
    (zfold lo x zs).toNat.testBit j = (x.toNat.testBit j || decide (((lo + j : Nat) : Int) ∈ zs))
  | [], x, _, _ => by simp [zfold]
  | z :: zs, x, hx, hk => by
    have hz := hk z (by simp)
    have h2 := two_range (z - lo).toNat (by omega)
    have ih := zfold_bit lo j hj zs (bits .or .u64 x (2 ^ (z - lo).toNat)) (or_range _ _) (fun k hk' => hk k (by simp [hk']))
    simp only [zfold]
    rw [ih, or_nat hx h2, Int.toNat_natCast, Nat.testBit_or]
    have e : ((2 : Int) ^ (z - lo).toNat).toNat = 2 ^ (z - lo).toNat := by
      have : ((2 : Int) ^ (z - lo).toNat) = ((2 ^ (z - lo).toNat : Nat) : Int) := by push_cast; rfl
      rw [this, Int.toNat_natCast]
    rw [e, Nat.testBit_two_pow]
    have e2 : ((z - lo).toNat = j) ↔ (((lo + j : Nat) : Int) = z) := by omega
    have e3 : decide ((z - lo).toNat = j) = decide (((lo + j : Nat) : Int) = z) := by simp only [e2]
    rw [e3, Bool.or_assoc, ← Bool.decide_or]
    simp only [List.mem_cons]

theorem mid_lt {P q k : Nat} (hP : 0 < P) (h1 : 2 * P * q ≤ k) (h2 : k < 2 * P * q + P) : k / P % 2 = 0 := by
  have : k / P = 2 * q := by
    apply Nat.div_eq_of_lt_le
    · rw [Nat.mul_comm (2 * q) P, ← Nat.mul_assoc, Nat.mul_comm P 2]; exact h1
    · rw [Nat.add_mul, Nat.one_mul, Nat.mul_comm (2 * q) P, ← Nat.mul_assoc, Nat.mul_comm P 2]; exact h2
  omega
theorem mid_ge {P q k : Nat} (hP : 0 < P) (h1 : 2 * P * q + P ≤ k) (h2 : k < 2 * P * q + P + P) : k / P % 2 = 1 := by
  have : k / P = 2 * q + 1 := by
    apply Nat.div_eq_of_lt_le
    · rw [Nat.add_mul, Nat.one_mul, Nat.mul_comm (2 * q) P, ← Nat.mul_assoc, Nat.mul_comm P 2]; exact h1
    · rw [Nat.add_mul, Nat.one_mul, Nat.add_mul, Nat.one_mul, Nat.mul_comm (2 * q) P, ← Nat.mul_assoc, Nat.mul_comm P 2]; exact h2
  omega

/-- THE SET BEHIND 'add' HOLDS WHAT THE SET HELD, AND THE INDICES. -/
theorem AddR.has {h lo : Nat} {zs : List Int} {t v : T} (ha : AddR h lo zs t v) (hw : WF h t) (hr : Rng h lo zs) (q : Nat) (hq : lo = 64 * 2 ^ h * q) (k : Nat) (h1 : lo ≤ k) (h2 : k < lo + 64 * 2 ^ h) :
    hasT h v k = (hasT h t k || decide ((k : Int) ∈ zs)) := by
  induction ha generalizing q k with
  | none => simp
  | leaf lo zs t v hne hl =>
    simp only [hasT]
    simp only [Nat.pow_zero, Nat.mul_one] at h2 hq
    rw [hl.word, zfold_bit lo (k % 64) (by omega) zs t.word hw.word hr.leaf]
    rw [show lo + k % 64 = k by omega]
  | node h lo zs t l r v i hne hi a1 a2 hj ih1 ih2 =>
    obtain ⟨e1, e2⟩ := hj.halves
    have hp : 2 ^ (h + 1) = 2 * 2 ^ h := by rw [Nat.pow_succ]; omega
    have hP : 0 < 64 * 2 ^ h := Nat.mul_pos (by decide) (Nat.two_pow_pos h)
    have hlo : lo = 2 * (64 * 2 ^ h) * q := by rw [hq, hp]; congr 1; omega
    have htd : ∀ x : Int, x ∈ zs ↔ x ∈ zs.take i ∨ x ∈ zs.drop i := fun x => by rw [← List.mem_append, List.take_append_drop]
    simp only [hasT]
    rcases Nat.lt_or_ge k (lo + 64 * 2 ^ h) with hlt | hge
    · rw [if_pos (mid_lt (q := q) hP (by omega) (by omega)), if_pos (mid_lt (q := q) hP (by omega) (by omega)), e1, ih1 hw.left (hr.take hi) (2 * q) (by rw [hlo, Nat.mul_comm 2 (64 * 2 ^ h), Nat.mul_assoc]) k h1 hlt]
      congr 1
      have hno : ¬ (k : Int) ∈ zs.drop i := fun hc => by have := ((hr.drop hi).2 _ hc).1; omega
      have : (k : Int) ∈ zs ↔ (k : Int) ∈ zs.take i := by rw [htd]; simp [hno]
      simp only [this]
    · have hne1 : k / (64 * 2 ^ h) % 2 = 1 := mid_ge (q := q) hP (by omega) (by omega)
      rw [if_neg (by omega), if_neg (by omega), e2, ih2 hw.right (hr.drop hi) (2 * q + 1) (by rw [hlo, Nat.mul_add, Nat.mul_one, Nat.mul_comm 2 (64 * 2 ^ h), Nat.mul_assoc]) k hge (by omega)]
      congr 1
      have hno : ¬ (k : Int) ∈ zs.take i := fun hc => by have := ((hr.take hi).2 _ hc).2; omega
      have : (k : Int) ∈ zs ↔ (k : Int) ∈ zs.drop i := by rw [htd]; simp [hno]
      simp only [this]

/-! ### The count -/
def cntU (f : Nat → Bool) : Nat → Nat
  | 0 => 0
  | n + 1 => cntU f n + (f n).toNat
theorem cntU_cong {f g : Nat → Bool} : ∀ {n : Nat}, (∀ k, k < n → f k = g k) → cntU f n = cntU g n
  | 0, _ => rfl
  | n + 1, h => by rw [cntU, cntU, cntU_cong (fun k hk => h k (by omega)), h n (by omega)]
theorem cntU_add (f : Nat → Bool) (a : Nat) : ∀ b, cntU f (a + b) = cntU f a + cntU (fun k => f (a + k)) b
  | 0 => rfl
  | b + 1 => by rw [← Nat.add_assoc, cntU, cntU, cntU_add f a b]; omega
theorem cntU_le (f : Nat → Bool) : ∀ n, cntU f n ≤ n
  | 0 => Nat.le_refl _
  | n + 1 => by have := cntU_le f n; have := Bool.toNat_le (f n); rw [cntU]; omega
theorem cntU_bc (x : Nat) : ∀ n, cntU (fun k => x.testBit k) n = bc n x
  | 0 => rfl
  | n + 1 => by
    rw [cntU, cntU_bc x n, bc_add n 1, Nat.toNat_testBit]
    simp [bc]
theorem cntU_false : ∀ n, cntU (fun _ => false) n = 0
  | 0 => rfl
  | n + 1 => by rw [cntU, cntU_false n]; rfl
theorem bc_pos : ∀ (n x : Nat), x < 2 ^ n → x ≠ 0 → 0 < bc n x
  | 0, x, h, h0 => by simp at h; omega
  | n + 1, x, h, h0 => by
    rw [bc]
    by_cases hx : x / 2 = 0
    · omega
    · have := bc_pos n (x / 2) (by rw [Nat.pow_succ] at h; omega) hx
      omega

theorem hasT_per : ∀ (h : Nat) (t : T) (k j : Nat), hasT h t (k + 64 * 2 ^ h * j) = hasT h t k
  | 0, t, k, j => by simp only [hasT]; congr 1; omega
  | h + 1, t, k, j => by
    have e : 64 * 2 ^ (h + 1) * j = 64 * 2 ^ h * (2 * j) := by rw [Nat.pow_succ, ← Nat.mul_assoc, ← Nat.mul_assoc]
    have hP : 0 < 64 * 2 ^ h := Nat.mul_pos (by decide) (Nat.two_pow_pos h)
    simp only [hasT]
    rw [e, hasT_per h _ k (2 * j), Nat.add_mul_div_left _ _ hP]
    have e2 : (k / (64 * 2 ^ h) + 2 * j) % 2 = k / (64 * 2 ^ h) % 2 := by omega
    rw [e2]

theorem pc_nat' (x N : Nat) (hx : x < 18446744073709551616) (hN : N = 64) : pc (x : Int) = (bc N x : Nat) := by subst hN; exact pc_nat x hx
theorem leaf_cnt (y : Nat) : ∀ n, n ≤ 64 → cntU (fun k => y.testBit (k % 64)) n = bc n y := fun n hn => by
  rw [← cntU_bc]
  exact cntU_cong fun k hk => by rw [Nat.mod_eq_of_lt (by omega)]
theorem leaf_has (b : Nat) (y : Nat) (l r : T) (n : Int) : hasT 0 (.node b (y : Int) l r n) = fun k => y.testBit (k % 64) := by
  funext k
  simp only [hasT, T.word, Int.toNat_natCast]

theorem len0 (t : T) (N : Nat) (hN : N = 64) (hw : WF 0 t) : t.len = (cntU (hasT 0 t) N : Nat) := by
  cases t with
  | nil =>
    rw [cntU_cong (g := fun _ => false) (fun k _ => hasT_nil 0 k), cntU_false]; rfl
  | node b x l r n =>
    obtain ⟨-, -, -, h0, h1, hn⟩ := hw
    obtain ⟨y, rfl⟩ := Int.eq_ofNat_of_zero_le h0
    rw [leaf_has, leaf_cnt y N (by omega), ← pc_nat' y N (by omega) hN]
    exact hn

theorem cntS (h P : Nat) (hP : P = 64 * 2 ^ h) (t : T) : cntU (hasT (h + 1) t) (P + P) = cntU (hasT h t.left) P + cntU (hasT h t.right) P := by
  have h0 : 0 < P := by rw [hP]; exact Nat.mul_pos (by decide) (Nat.two_pow_pos h)
  rw [cntU_add]
  congr 1
  · refine cntU_cong fun k hk => ?_
    simp only [hasT]
    rw [← hP, if_pos (mid_lt (q := 0) h0 (by omega) (by omega))]
  · refine cntU_cong fun k hk => ?_
    simp only [hasT]
    have e1 : (P + k) / P % 2 = 1 := mid_ge (q := 0) h0 (by omega) (by omega)
    rw [← hP, if_neg (by omega), Nat.add_comm]
    have := hasT_per h t.right k 1
    rw [Nat.mul_one, ← hP] at this
    exact this

theorem p2s {h P : Nat} (hP : P = 64 * 2 ^ h) : P + P = 64 * 2 ^ (h + 1) := by
  have : 2 ^ (h + 1) = 2 ^ h + 2 ^ h := by rw [Nat.pow_succ]; omega
  rw [hP, this, Nat.mul_add]
theorem p2le {h P : Nat} (hP : P = 64 * 2 ^ h) (hh : h ≤ 5) : P ≤ 2048 := by
  have hp : 2 ^ h ≤ 2 ^ 5 := Nat.pow_le_pow_right (by decide) hh
  rw [hP]
  omega

theorem len_cnt : ∀ (h : Nat) (t : T) (P : Nat), P = 64 * 2 ^ h → h ≤ 5 → WF h t → t.len = (cntU (hasT h t) P : Nat) := by
  intro h
  induction h with
  | zero => intro t P hP _ hw; exact len0 t P (by rw [hP]) hw
  | succ h ih =>
    intro t P hP hh hw
    obtain ⟨Q, hQ⟩ : ∃ Q, Q = 64 * 2 ^ h := ⟨_, rfl⟩
    obtain rfl : P = Q + Q := by rw [hP, p2s hQ]
    rw [cntS h Q hQ]
    have i1 := ih t.left Q hQ (by omega) hw.left
    have i2 := ih t.right Q hQ (by omega) hw.right
    have l0 := p2le hQ (by omega)
    have l1 := cntU_le (hasT h t.left) Q
    have l2 := cntU_le (hasT h t.right) Q
    generalize cntU (hasT h t.left) Q = A at *
    generalize cntU (hasT h t.right) Q = B at *
    clear hP
    cases t with
    | nil =>
      simp only [T.left, T.right, T.len] at *
      omega
    | node b x l r n =>
      obtain ⟨-, -, -, hn⟩ := hw
      simp only [T.left, T.right, T.len] at *
      rw [hn, i1, i2, IntWalk.wrap64_in _ (by omega)]
      omega

theorem len_pos : ∀ (h : Nat) (t : T), h ≤ 5 → WF h t → t ≠ .nil → 0 < t.len := by
  intro h
  induction h with
  | zero =>
    intro t _ hw hn
    cases t with
    | nil => exact absurd rfl hn
    | node b x l r n =>
      obtain ⟨-, -, hx, h0, h1, hn⟩ := hw
      obtain ⟨y, rfl⟩ := Int.eq_ofNat_of_zero_le h0
      obtain ⟨N, hN⟩ : ∃ N : Nat, N = 64 := ⟨_, rfl⟩
      have e : pc (y : Int) = (bc N y : Nat) := pc_nat' y N (by omega) hN
      have hlt : y < 2 ^ N := by rw [hN]; omega
      have hp := bc_pos N y hlt (by omega)
      simp only [T.len]
      rw [hn, e]
      exact Int.natCast_pos.2 hp
  | succ h ih =>
    intro t hh hw hn
    obtain ⟨Q, hQ⟩ : ∃ Q, Q = 64 * 2 ^ h := ⟨_, rfl⟩
    have l0 := p2le hQ (by omega)
    cases t with
    | nil => exact absurd rfl hn
    | node b x l r n =>
      obtain ⟨w1, w2, w3, hn⟩ := hw
      have i1 := len_cnt h l Q hQ (by omega) w1
      have i2 := len_cnt h r Q hQ (by omega) w2
      have l1 := cntU_le (hasT h l) Q
      have l2 := cntU_le (hasT h r) Q
      generalize cntU (hasT h l) Q = A at *
      generalize cntU (hasT h r) Q = B at *
      simp only [T.len]
      rw [hn, IntWalk.wrap64_in _ (by omega)]
      rcases w3 with w3 | w3
      · have := ih l (by omega) w1 w3; omega
      · have := ih r (by omega) w2 w3; omega
end Go.Proofs.Ybulkakko
