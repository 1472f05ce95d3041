/- The walk of 'has'. -/
import Derived.Test.YbulkakkoMemP
import Derived.Test.YbulkakkoTreeF
namespace Go.Proofs.Ybulkakko
open Go.RowKit
set_option linter.unusedVariables false
set_option linter.unusedSimpArgs false

theorem neq_nil (w : World) (t : T) : (binOp .neq 31 (.pointer t.addr) (.pointer none)).run Yba.prog w = .ok (.bool (!decide (t = .nil))) w := by
  have hu : Yba.prog.underlying 31 = some (.pointer 133) := Yba.underlying31
  have key : ∀ d, (Op.equalIn (d + 1) 31 (.pointer t.addr) (.pointer none)).run Yba.prog w = .ok (decide (t = .nil)) w := fun d => by
    cases t with
    | nil => simp [Op.equalIn, run_underlying hu, T.addr]
    | node => simp [Op.equalIn, run_underlying hu, T.addr]
  generalize t.addr = x at *
  simp only [binOp]
  simp [Op.equal, Op.maxDepth, key 9999]

theorem mask_i64 (i y : Nat) (hi : i ≤ 63) (hy : y < 9223372036854775808) : bits .and .i64 (y : Int) (2 ^ i - 1) = ((y : Int) % 2 ^ i) :=
  bits_mask .i64 63 (by decide) (fun n h0 h1 => by rw [IntKind.wrap_i64]; omega) i hi (y : Int) (by omega) (by omega)
theorem mask_u64 (i y : Nat) (hi : i ≤ 64) (hy : y < 18446744073709551616) : bits .and .u64 (y : Int) (2 ^ i - 1) = ((y : Int) % 2 ^ i) :=
  bits_mask .u64 64 (by decide) (fun n h0 h1 => by rw [IntKind.wrap_u64]; omega) i hi (y : Int) (by omega) (by omega)

/-- 'k>>(5+h)&1'. -/
theorem kbit (k j : Nat) (hk : k < 4096) : bits .and .i64 ((k : Int) / 2 ^ (5 + (j + 1))) 1 = ((k / (64 * 2 ^ j) % 2 : Nat) : Int) := by
  have e1 : (2 : Nat) ^ (5 + (j + 1)) = 64 * 2 ^ j := by rw [show 5 + (j + 1) = 6 + j by omega, Nat.pow_add]
  have e2 : ((k : Int) / 2 ^ (5 + (j + 1))) = ((k / (64 * 2 ^ j) : Nat) : Int) := by rw [← e1]; push_cast; rfl
  have hle : k / (64 * 2 ^ j) ≤ k := Nat.div_le_self _ _
  have hm := mask_i64 1 (k / (64 * 2 ^ j)) (by decide) (by omega)
  rw [e2]
  have e3 : ((2 : Int) ^ 1 - 1) = 1 := by decide
  have e4 : ((2 : Int) ^ 1) = 2 := by decide
  rw [e3, e4] at hm
  rw [hm]
  omega
/-- 'k&63'. -/
theorem kmod (k : Nat) (hk : k < 4096) : bits .and .i64 (k : Int) 63 = ((k % 64 : Nat) : Int) := by
  have hm := mask_i64 6 k (by decide) (by omega)
  have e3 : ((2 : Int) ^ 6 - 1) = 63 := by decide
  have e4 : ((2 : Int) ^ 6) = 64 := by decide
  rw [e3, e4] at hm
  rw [hm]
  omega
/-- 't.bits>>d&1'. -/
theorem wbit (y d : Nat) (hy : y < 18446744073709551616) : bits .and .u64 ((y : Int) / 2 ^ d) 1 = (((y.testBit d).toNat : Nat) : Int) := by
  have e2 : ((y : Int) / 2 ^ d) = ((y / 2 ^ d : Nat) : Int) := by push_cast; rfl
  have hle : y / 2 ^ d ≤ y := Nat.div_le_self _ _
  have hm := mask_u64 1 (y / 2 ^ d) (by decide) (by omega)
  rw [e2]
  have e3 : ((2 : Int) ^ 1 - 1) = 1 := by decide
  have e4 : ((2 : Int) ^ 1) = 2 := by decide
  rw [e3, e4] at hm
  rw [hm, Nat.toNat_testBit]
  omega

set_option maxRecDepth 100000 in
set_option maxHeartbeats 4000000 in
theorem has_any (h sb k : Nat) (t : T) (w : World) (hh : h ≤ 5) (hk : k < 4096) (c0 : w.cell? ⟨sb, 0, none⟩ = some (.int .i64 h)) (ht : In w t) (hw : WF h t) :
    Calls Yba.prog 11 #[.pointer (some ⟨sb, 0, none⟩), .pointer t.addr, .int .i64 k] w fun e w' => e = .returned (.bool (hasT h t k)) ∧ w' = w := by
  have HT : Hid (In w t) := ht
  have HW : Hid (WF h t) := hw
  clear ht hw
  generalize hres : hasT h t k = res
  have HRES : Hid (hasT h t k = res) := hres
  clear hres
  go_enter Yba.func11, Yba.ntmps11
  go_wp2
  go_loop [1, 7] (fun s1 s7 => ∃ (j : Nat) (t' : T), j ≤ h ∧ s1 = .pointer t'.addr ∧ s7 = .int .i64 j ∧ In w t' ∧ WF j t' ∧ hasT j t' k = res) (fun _ s7 => (intOf s7).toNat)
  case atStart => exact ⟨h, t, Nat.le_refl _, rfl, rfl, HT.out, HW.out, HRES.out⟩
  case round =>
    obtain ⟨j, t', hj, rfl, rfl, i1, w1, e1⟩ := hrel
    have HWJ : Hid (WF j t') := w1
    clear w1
    have HI : Hid (In w t') := i1
    have HE : Hid (hasT j t' k = res) := e1
    clear e1
    cases t' with
    | nil =>
      clear i1
      simp only [T.addr]
      go_wp2
      go_ret
      exact ⟨by rw [← HE.out, hasT_nil]; rfl, rfl⟩
    | node b x l r n =>
      have q0 := cell_of i1.1 0 (.int .u64 x) rfl
      have q1 := cell_of i1.1 1 (.pointer l.addr) rfl
      have q2 := cell_of i1.1 2 (.pointer r.addr) rfl
      clear i1
      simp only [T.addr]
      match j, hj with
      | 0, hj =>
        obtain ⟨-, -, -, x0, x1, -⟩ := HWJ.out
        obtain ⟨y, rfl⟩ := Int.eq_ofNat_of_zero_le x0
        obtain ⟨d, hd⟩ : ∃ d, d = k % 64 := ⟨_, rfl⟩
        have hd64 : d < 64 := by omega
        have h63 : bits .and .i64 (k : Int) 63 = (d : Int) := by rw [kmod k hk, hd]
        have hwb := wbit y d (by omega)
        have hres : y.testBit d = res := by
          have := HE.out
          simp only [hasT, T.word, Int.toNat_natCast] at this
          rw [hd]; exact this
        rw [hres] at hwb
        clear hres hd x0 x1
        cases res
        · replace hwb : bits .and .u64 ((y : Int) / 2 ^ d) 1 = 0 := hwb
          go_wp2
          go_ret
          exact ⟨rfl, rfl⟩
        · replace hwb : bits .and .u64 ((y : Int) / 2 ^ d) 1 = 1 := hwb
          go_wp2
          go_ret
          exact ⟨rfl, rfl⟩
      | j + 1, hj =>
        have hj1 : (0 : Int) < (j : Int) + 1 := by omega
        have hd : decide ((0 : Int) < ((j + 1 : Nat) : Int)) = true := decide_eq_true (by omega)
        have hkb := kbit k j hk
        have HR : Hid (hasT j (if k / (64 * 2 ^ j) % 2 = 0 then l else r) k = res) := HE.out
        rcases Nat.mod_two_eq_zero_or_one (k / (64 * 2 ^ j)) with hc | hc
        · rw [hc] at hkb
          have HC : Hid (k / (64 * 2 ^ j) % 2 = 0) := hc
          clear hc
          replace hkb : bits .and .i64 ((k : Int) / 2 ^ (5 + (j + 1))) 1 = 0 := hkb
          go_wp2
          go_round
          case measure => simp only [intOf]; omega
          case rel => exact ⟨j, l, by omega, rfl, by go_num, HI.out.2.1, HWJ.out.1, by have := HR.out; rw [if_pos HC.out] at this; exact this⟩
        · rw [hc] at hkb
          have HC : Hid (k / (64 * 2 ^ j) % 2 = 1) := hc
          clear hc
          replace hkb : bits .and .i64 ((k : Int) / 2 ^ (5 + (j + 1))) 1 = 1 := hkb
          go_wp2
          go_round
          case measure => simp only [intOf]; omega
          case rel => exact ⟨j, r, by omega, rfl, by go_num, HI.out.2.2, HWJ.out.2.1, by have := HR.out; rw [if_neg (by have := HC.out; omega)] at this; exact this⟩
end Go.Proofs.Ybulkakko
