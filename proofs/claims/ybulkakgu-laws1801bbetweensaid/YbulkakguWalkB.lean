/-
  slices.BinarySearchFunc over snapshots, firstSeeing, snapshotBetween.
-/
import Derived.Test.YbulkakguWalkA
namespace Go.Proofs.Ybulkakgu
open Go.RowKit

set_option maxHeartbeats 1000000 in
set_option maxRecDepth 100000 in
theorem bsf_some (g n cap : Nat) (C : Nat → Nat) (Z : Nat → Int) (c : Int) (w : World) (hn : n ≤ 1024)
    (hp : ∀ i, i < n → w.cell? ⟨g, i, none⟩ = some (.pointer (some ⟨C i, 0, none⟩))) (hz : ∀ i, i < n → w.cell? ⟨C i, 1, none⟩ = some (.int .u64 (Z i)))
    (hs : ∀ i j, i ≤ j → j < n → Z i ≤ Z j) :
    Calls Yba.prog 11 #[.slice (some ⟨g, 0, none⟩) n cap, .int .u64 c, .func (.func 12) #[] #[]] w fun e w' =>
      ∃ (i : Nat) (b : Bool), e = .returned (.tuple #[.int .i64 i, .bool b]) ∧ i ≤ n ∧ (∀ t, t < i → Z t < c) ∧ (∀ t, i ≤ t → t < n → c ≤ Z t) ∧ w' = w := by
  have HP : Hid (∀ i, i < n → w.cell? ⟨g, i, none⟩ = some (.pointer (some ⟨C i, 0, none⟩))) := hp
  have HZ : Hid (∀ i, i < n → w.cell? ⟨C i, 1, none⟩ = some (.int .u64 (Z i))) := hz
  have HS : Hid (∀ i j, i ≤ j → j < n → Z i ≤ Z j) := hs
  clear hp hz hs
  go_enter Yba.func11, Yba.ntmps11
  go_wp2
  go_loopg [9, 10] n (fun kx s9 s10 wr => ∃ lo hi : Nat, s9 = .int .i64 lo ∧ s10 = .int .i64 hi ∧ lo ≤ hi ∧ hi ≤ n ∧ hi - lo ≤ kx ∧ wr = w ∧
    Hid ((∀ t, t < lo → Z t < c) ∧ (∀ t, hi ≤ t → t < n → c ≤ Z t)))
  case atStart => exact ⟨0, n, rfl, rfl, Nat.zero_le _, Nat.le_refl _, by omega, rfl, (⟨fun t ht => absurd ht (Nat.not_lt_zero _), fun t h1 h2 => by omega⟩ : (∀ t, t < 0 → Z t < c) ∧ (∀ t, n ≤ t → t < n → c ≤ Z t))⟩
  case round =>
    obtain ⟨lo, hi, rfl, rfl, hlh, hin, hg, rfl, I⟩ := hrel
    by_cases hlt : lo < hi
    · have cm := HP.out ((lo + hi) / 2) (by omega)
      have cz := HZ.out ((lo + hi) / 2) (by omega)
      generalize hy : Z ((lo + hi) / 2) = y at cz
      generalize hx : C ((lo + hi) / 2) = x at cm cz
      have Y : Hid (Z ((lo + hi) / 2) = y) := hy
      clear hy hx
      have hc := closure_any y c x 0 wr cz
      by_cases hyx : y < c
      · have hneg : cmpU y c < 0 := by rw [cmpU_lt hyx]; omega
        go_wp2_with (go_at_call 12; refine hc.mono ?_; rintro e w' ⟨rfl, rfl⟩)
        go_roundg (hi - ((lo + hi) / 2 + 1))
        case measure => omega
        case rel =>
          have I2 : Hid ((∀ t, t < (lo + hi) / 2 + 1 → Z t < c) ∧ (∀ t, hi ≤ t → t < n → c ≤ Z t)) := ⟨fun t ht => by have := HS.out t ((lo + hi) / 2) (by omega) (by omega); rw [Y.out] at this; omega, I.out.2⟩
          exact ⟨(lo + hi) / 2 + 1, hi, by rw [show ((lo : Int) + (hi : Int)) / 2 + 1 = (((lo + hi) / 2 + 1 : Nat) : Int) by omega], rfl, by omega, hin, Nat.le_refl _, rfl, I2⟩
      · have hneg : ¬ cmpU y c < 0 := by
          have := cmpU_neg y c
          rw [decide_eq_decide] at this
          omega
        go_wp2_with (go_at_call 12; refine hc.mono ?_; rintro e w' ⟨rfl, rfl⟩)
        go_roundg ((lo + hi) / 2 - lo)
        case measure => omega
        case rel =>
          have I2 : Hid ((∀ t, t < lo → Z t < c) ∧ (∀ t, (lo + hi) / 2 ≤ t → t < n → c ≤ Z t)) := ⟨I.out.1, fun t ht htn => by have := HS.out ((lo + hi) / 2) t ht htn; rw [Y.out] at this; omega⟩
          exact ⟨lo, (lo + hi) / 2, rfl, by rw [show ((lo : Int) + (hi : Int)) / 2 = (((lo + hi) / 2 : Nat) : Int) by omega], by omega, by omega, Nat.le_refl _, rfl, I2⟩
    · obtain rfl : hi = lo := by omega
      by_cases hn : hi < n
      · have cm := HP.out hi (by omega)
        have cz := HZ.out hi (by omega)
        generalize hy : Z hi = y at cz
        generalize hx : C hi = x at cm cz
        clear hy hx
        have hc := closure_any y c x 0 wr cz
        go_wp2_with (go_at_call 12; refine hc.mono ?_; rintro e w' ⟨rfl, rfl⟩)
        all_goals
          go_ret2
          exact ⟨hi, _, rfl, hin, I.out.1, I.out.2, rfl⟩
      · go_wp2
        go_ret2
        exact ⟨hi, _, rfl, hin, I.out.1, I.out.2, rfl⟩

set_option maxHeartbeats 1000000 in
set_option maxRecDepth 100000 in
theorem bsf_nil (p : Option Addr) (cap : Nat) (c : Int) (fv : Value) (w : World) :
    Calls Yba.prog 11 #[.slice p 0 cap, .int .u64 c, fv] w fun e w' => e = .returned (.tuple #[.int .i64 0, .bool false]) ∧ w' = w := by
  go_enter Yba.func11, Yba.ntmps11
  go_wp2
  refine wp_loop_rounds 1 ?_
  rw [rounds_succ]
  go_wp2
  go_ret2
  exact ⟨rfl, rfl⟩

/-- A slice of pointers to snapshots whose numbers are zs. -/
def Snaps (w : World) (v : Value) (zs : List Int) : Prop :=
  (v = .slice none 0 0 ∧ zs = []) ∨
  ∃ (g cap : Nat) (C : Nat → Nat), v = .slice (some ⟨g, 0, none⟩) zs.length cap ∧
    (∀ i, i < zs.length → w.cell? ⟨g, i, none⟩ = some (.pointer (some ⟨C i, 0, none⟩))) ∧ (∀ i, i < zs.length → w.cell? ⟨C i, 1, none⟩ = some (.int .u64 (zs.getD i 0)))

set_option maxHeartbeats 1000000 in
theorem first_some (B g n cap : Nat) (C : Nat → Nat) (Z : Nat → Int) (c : Int) (w : World) (hn : n ≤ 1024)
    (hB : w.cell? ⟨B, 5, none⟩ = some (.slice (some ⟨g, 0, none⟩) n cap))
    (hp : ∀ i, i < n → w.cell? ⟨g, i, none⟩ = some (.pointer (some ⟨C i, 0, none⟩))) (hz : ∀ i, i < n → w.cell? ⟨C i, 1, none⟩ = some (.int .u64 (Z i)))
    (hs : ∀ i j, i ≤ j → j < n → Z i ≤ Z j) :
    Calls Yba.prog 6 #[.pointer (some ⟨B, 0, none⟩), .int .u64 c] w fun e w' =>
      ∃ i : Nat, e = .returned (.int .i64 i) ∧ i ≤ n ∧ (∀ t, t < i → Z t < c) ∧ (∀ t, i ≤ t → t < n → c ≤ Z t) ∧ w' = w := by
  have hc := bsf_some g n cap C Z c w hn hp hz hs
  clear hp hz hs
  go_enter Yba.func6, Yba.ntmps6
  go_wp2_with (go_at_call 11; refine hc.mono ?_; rintro e w' ⟨i, b, rfl, h1, h2, h3, rfl⟩; revert h2 h3; intro h2 h3; have H2 : Hid _ := h2; have H3 : Hid _ := h3; clear h2 h3)
  go_ret
  exact ⟨i, rfl, h1, H2.out, H3.out, rfl⟩

set_option maxHeartbeats 1000000 in
theorem first_nil (B cap : Nat) (p : Option Addr) (c : Int) (w : World) (hB : w.cell? ⟨B, 5, none⟩ = some (.slice p 0 cap)) :
    Calls Yba.prog 6 #[.pointer (some ⟨B, 0, none⟩), .int .u64 c] w fun e w' => e = .returned (.int .i64 0) ∧ w' = w := by
  go_enter Yba.func6, Yba.ntmps6
  go_wp2_with (go_at_call 11; refine (bsf_nil _ _ _ _ _).mono ?_; rintro e w' ⟨rfl, rfl⟩)
  go_ret
  exact ⟨rfl, rfl⟩

/-- What snapshotBetween answers over ascending numbers. -/
theorem between_some (B g n cap : Nat) (C : Nat → Nat) (Z : Nat → Int) (fr to : Int) (w : World) (hn : n ≤ 1024)
    (hB : w.cell? ⟨B, 5, none⟩ = some (.slice (some ⟨g, 0, none⟩) n cap))
    (hp : ∀ i, i < n → w.cell? ⟨g, i, none⟩ = some (.pointer (some ⟨C i, 0, none⟩))) (hz : ∀ i, i < n → w.cell? ⟨C i, 1, none⟩ = some (.int .u64 (Z i)))
    (hs : ∀ i j, i ≤ j → j < n → Z i ≤ Z j) :
    Calls Yba.prog 7 #[.pointer (some ⟨B, 0, none⟩), .int .u64 fr, .int .u64 to] w fun e w' =>
      ∃ b : Bool, e = .returned (.bool b) ∧ (b = true ↔ ∃ t, t < n ∧ fr ≤ Z t ∧ Z t < to) ∧ w' = w := by
  have hc := first_some B g n cap C Z fr w hn hB hp hz hs
  have HP : Hid _ := hp
  have HZ : Hid _ := hz
  have HS : Hid _ := hs
  clear hp hz hs
  go_enter Yba.func7, Yba.ntmps7
  go_wp2_with fail
  refine hc.mono ?_
  rintro e w' ⟨i, rfl, h1, h2, h3, rfl⟩
  have H2 : Hid _ := h2
  have H3 : Hid _ := h3
  clear h2 h3
  by_cases hi : i < n
  · have cm := HP.out i hi
    have cz := HZ.out i hi
    generalize hy : Z i = y at cz
    generalize hx : C i = x at cm cz
    have Y : Hid (Z i = y) := hy
    clear hy hx
    go_wp2
    go_ret
    refine ⟨_, rfl, ?_, rfl⟩
    rw [decide_eq_true_iff]
    constructor
    · intro h
      exact ⟨i, hi, H3.out i (Nat.le_refl _) hi, by rw [Y.out]; exact h⟩
    · rintro ⟨t, ht, h4, h5⟩
      by_cases hti : t < i
      · have := H2.out t hti; omega
      · have := HS.out i t (by omega) ht
        rw [Y.out] at this
        omega
  · go_wp2
    go_ret
    refine ⟨_, rfl, ?_, rfl⟩
    constructor
    · intro h; cases h
    · rintro ⟨t, ht, h4, h5⟩
      have := H2.out t (by omega)
      omega

theorem between_nil (B cap : Nat) (p : Option Addr) (fr to : Int) (w : World) (hB : w.cell? ⟨B, 5, none⟩ = some (.slice p 0 cap)) :
    Calls Yba.prog 7 #[.pointer (some ⟨B, 0, none⟩), .int .u64 fr, .int .u64 to] w fun e w' => e = .returned (.bool false) ∧ w' = w := by
  have hc := first_nil B cap p fr w hB
  go_enter Yba.func7, Yba.ntmps7
  go_wp2_with (go_at_call 6; refine hc.mono ?_; rintro e w' ⟨rfl, rfl⟩)
  go_ret
  exact ⟨rfl, rfl⟩

theorem getD_lt (zs : List Int) (t : Nat) (h : t < zs.length) : zs.getD t 0 = zs[t] := by simp [h]

/-- The same over 'Snaps': some number of zs lies in [fr, to). -/
theorem between_any (B : Nat) (v : Value) (zs : List Int) (fr to : Int) (w : World) (hn : zs.length ≤ 1024) (hB : w.cell? ⟨B, 5, none⟩ = some v) (hS : Snaps w v zs)
    (hs : ∀ i j, i ≤ j → j < zs.length → zs.getD i 0 ≤ zs.getD j 0) :
    Calls Yba.prog 7 #[.pointer (some ⟨B, 0, none⟩), .int .u64 fr, .int .u64 to] w fun e w' => e = .returned (.bool (zs.any fun z => decide (fr ≤ z) && decide (z < to))) ∧ w' = w := by
  rcases hS with ⟨rfl, rfl⟩ | ⟨g, cap, C, rfl, hp, hz⟩
  · exact between_nil B 0 none fr to w hB
  · refine (between_some B g zs.length cap C (fun i => zs.getD i 0) fr to w hn hB hp hz hs).mono ?_
    rintro e w' ⟨b, rfl, hb, rfl⟩
    refine ⟨?_, rfl⟩
    congr 2
    rw [Bool.eq_iff_iff, hb, List.any_eq_true]
    constructor
    · rintro ⟨t, ht, h1, h2⟩
      refine ⟨zs.getD t 0, ?_, by rw [decide_eq_true h1, decide_eq_true h2]; rfl⟩
      rw [getD_lt _ _ ht]
      exact List.getElem_mem ht
    · rintro ⟨x, hx, h⟩
      obtain ⟨t, ht, rfl⟩ := List.getElem_of_mem hx
      simp only [Bool.and_eq_true, decide_eq_true_eq] at h
      exact ⟨t, ht, by rw [getD_lt _ _ ht]; exact h.1, by rw [getD_lt _ _ ht]; exact h.2⟩
end Go.Proofs.Ybulkakgu
