/-
  LawS1804BPicks: its walk.
-/
import Derived.Test.YbulkakikWalkB
import Derived.Laws.Externs
import Derived.Deep.QuietTactic
import Derived.BigQuiet
namespace Go.Proofs.Ybulkakik
open Go.RowKit

set_option maxHeartbeats 1000000 in
set_option maxRecDepth 100000 in
theorem build_at (x : Addr) (n c : Nat) (fs : List Nat) (w : World) (hn : n ≤ 1024) (hpos : 0 < n) (hl : fs.length = n)
    (hc : ∀ i, i < n → w.cell? (x.add i) = some (.float .f64 (fs.getD i 0))) :
    Calls Yba.prog 5 #[.slice (some x) n c] w fun e w' => e = .returned (.slice (some ⟨w.heap.size, 0, none⟩) n n) ∧ Regs w' w.heap.size n n fs ∧ Below w.heap.size w w' := by
  obtain ⟨i0, hi, hz0, hz1, hz2⟩ := info_parts Yba.info28
  have hblk : x.block < w.heap.size := below_lt (hc 0 (by omega))
  have HC : Hid _ := hc
  have HL : Hid (fs.length = n) := hl
  clear hc hl
  go_enter Yba.func5, Yba.ntmps5
  go_wp2_with (at_make; refine wpList_make_full _ rfl _ _ 25 rfl w.heap.size 28 i0 _ 3 Yba.underlying25 hi hz0 hz1 .i64 .i64 _ _ n rfl rfl rfl rfl (by rw [hz2]; omega) (by unfold maxLen; omega) (Nat.le_refl _) ?_; intro w1 hown1 hgrow1)
  have R1 : Regs w1 w.heap.size 0 n fs := by
    rcases hown1.2 with ⟨h, _⟩ | ⟨g, cap, cur, h, h1, h2, h3, h4, h5, _⟩
    · simp at h
    · simp only [Value.slice.injEq, Option.some.injEq, Addr.mk.injEq] at h
      obtain ⟨⟨rfl, _⟩, _, rfl⟩ := h
      exact ⟨cur, h2, h5, fun i hi => by omega⟩
  have hbel1 : Below w.heap.size w w1 := (Below.refl _ _).grown hgrow1 (Nat.le_refl _) (fun k hk => by cases hk)
  clear hown1 hgrow1
  go_wp2_with fail
  go_loopg [4] n (fun kx s4 wr => ∃ (k : Nat), k ≤ n ∧ kx = n - k ∧ s4 = .int .i64 k ∧ Regs wr w.heap.size k n fs ∧ Below w.heap.size w wr)
  case atStart => exact ⟨0, Nat.zero_le _, rfl, rfl, R1, hbel1⟩
  case round =>
    obtain ⟨k, hk, hkx, rfl, R, hbel⟩ := hrel
    by_cases hlt : k < n
    · have hsz := hbel.size
      have c1 := HC.out k hlt
      rw [← hbel.cell (p := x.add k) (by unfold Addr.add; split <;> exact hblk)] at c1
      obtain ⟨cur, hb, hcs, hrs⟩ := R
      have hf0 : wr.frozen? ⟨w.heap.size, k * 3, none⟩ = false := free_of_block hb
      have hf1 : wr.frozen? ⟨w.heap.size, k * 3 + 1, none⟩ = false := free_of_block hb
      have hf2 : wr.frozen? ⟨w.heap.size, k * 3 + 2, none⟩ = false := free_of_block hb
      obtain ⟨x0, hx0⟩ : ∃ x, cur[k * 3]? = some x := ⟨_, Array.getElem?_eq_getElem (by omega)⟩
      obtain ⟨x1, hx1⟩ : ∃ x, cur[k * 3 + 1]? = some x := ⟨_, Array.getElem?_eq_getElem (by omega)⟩
      obtain ⟨x2, hx2⟩ : ∃ x, cur[k * 3 + 2]? = some x := ⟨_, Array.getElem?_eq_getElem (by omega)⟩
      have hg0 : wr.cell? ⟨w.heap.size, k * 3, none⟩ = some x0 := cell_of_block hb hx0
      have hg1 : wr.cell? ⟨w.heap.size, k * 3 + 1, none⟩ = some x1 := cell_of_block hb hx1
      have hg2 : wr.cell? ⟨w.heap.size, k * 3 + 2, none⟩ = some x2 := cell_of_block hb hx2
      have hg1' : ∀ u, (wr.setCell ⟨w.heap.size, k * 3, none⟩ u).cell? ⟨w.heap.size, k * 3 + 1, none⟩ = some x1 := fun u => cell_of_block (block_setCell hb u) (by rw [Array.getElem?_setIfInBounds_ne (by omega)]; exact hx1)
      have hf1' : ∀ u, (wr.setCell ⟨w.heap.size, k * 3, none⟩ u).frozen? ⟨w.heap.size, k * 3 + 1, none⟩ = false := fun u => free_of_block (block_setCell hb u)
      have hg2' : ∀ u v, ((wr.setCell ⟨w.heap.size, k * 3, none⟩ u).setCell ⟨w.heap.size, k * 3 + 1, none⟩ v).cell? ⟨w.heap.size, k * 3 + 2, none⟩ = some x2 := fun u v => cell_of_block (block_setCell (block_setCell hb u) v) (by rw [Array.getElem?_setIfInBounds_ne (by omega), Array.getElem?_setIfInBounds_ne (by omega)]; exact hx2)
      have hf2' : ∀ u v, ((wr.setCell ⟨w.heap.size, k * 3, none⟩ u).setCell ⟨w.heap.size, k * 3 + 1, none⟩ v).frozen? ⟨w.heap.size, k * 3 + 2, none⟩ = false := fun u v => free_of_block (block_setCell (block_setCell hb u) v)
      have hb3 := fun u v x => block_setCell (i := k * 3 + 2) (block_setCell (i := k * 3 + 1) (block_setCell (i := k * 3) hb u) v) x
      have HB3 : Hid _ := hb3
      clear hb3
      have hki : (0 : Int) ≤ (k : Int) := by omega
      have hkN : (k : Int) < (n : Int) := by omega
      have HRS : Hid _ := hrs
      have HCS : Hid _ := hcs
      clear hrs hcs hx0 hx1 hx2
      go_wp2
      go_roundg (n - (k + 1))
      case measure => omega
      case rel =>
        refine ⟨k + 1, by omega, rfl, by go_num, ⟨_, HB3.out _ _ _, by simp [HCS.out], ?_⟩, ((hbel.setCell (by simp) _).setCell (by simp) _).setCell (by simp) _⟩
        intro i hi
        have hcs := HCS.out
        by_cases hik : i = k
        · subst hik
          refine ⟨?_, ?_, ?_⟩
          · rw [Array.getElem?_setIfInBounds_ne (by omega), Array.getElem?_setIfInBounds_ne (by omega), Array.getElem?_setIfInBounds_self_of_lt (by omega)]
          · rw [Array.getElem?_setIfInBounds_ne (by omega), Array.getElem?_setIfInBounds_self_of_lt (by simp; omega)]
            simp
          · rw [Array.getElem?_setIfInBounds_self_of_lt (by simp; omega)]
            rfl
        · obtain ⟨a1, a2, a3⟩ := HRS.out i (by omega)
          refine ⟨?_, ?_, ?_⟩
          · rw [Array.getElem?_setIfInBounds_ne (by omega), Array.getElem?_setIfInBounds_ne (by omega), Array.getElem?_setIfInBounds_ne (by omega)]; exact a1
          · rw [Array.getElem?_setIfInBounds_ne (by omega), Array.getElem?_setIfInBounds_ne (by omega), Array.getElem?_setIfInBounds_ne (by omega)]; exact a2
          · rw [Array.getElem?_setIfInBounds_ne (by omega), Array.getElem?_setIfInBounds_ne (by omega), Array.getElem?_setIfInBounds_ne (by omega)]; exact a3
    · obtain rfl : k = n := by omega
      go_wp2
      go_ret
      exact ⟨rfl, R, hbel⟩

theorem belowD {B : Nat} {a w : World} (h : Below B a w) (n : Nat) : Below B a (w.drewN n) := ⟨h.os, h.tape, h.output, h.size, h.block⟩

theorem run_bits (b : Nat) (w : World) : (callFunc 7 #[.float .f64 b]).run Yba.prog w = .ok (.value (.int .u64 b)) w := by
  rw [run_callFunc_extern (e := Extern.MathFloatBits.float64bits) Yba.func7 (by kernel_rfl) rfl (by kernel_rfl) (by kernel_rfl)]
  rfl

theorem pick_one {td : Nat} {fs : List Nat} {n i j : Nat} (hi : Pick td fs n i) (hj : Pick td fs n j) : i = j := by
  rcases Nat.lt_trichotomy i j with h | h | h
  · have h1 := hj.2.1 i h
    have h2 := hi.2.2 (by have := hj.1; omega)
    rw [h1] at h2; cases h2
  · exact h
  · have h1 := hi.2.1 j h
    have h2 := hj.2.2 (by have := hi.1; omega)
    rw [h1] at h2; cases h2

theorem picks_facts (x : Addr) (j : Nat) (fs : List Nat) (w w2 w3 : World) (hblk : x.block < w.heap.size) (hc : w.cell? (x.add j) = some (.float .f64 (fs.getD j 0))) (hb2 : Below w.heap.size w w2) (hb3 : Below w2.heap.size w2 w3) :
    Hid (Below w.heap.size w w3) ∧ (x.block < w3.heap.size ∧ w.heap.size ≤ w3.heap.size) ∧ (∀ o, (w3.alloc o).cell? (x.add j) = some (.float .f64 (fs.getD j 0))) ∧ (j < 1024 → FloatKind.f64.format.order (Fl.F j) (floatOfInt .f64 j) = some .eq) := by
  have hs := hb2.size
  have hs3 := hb3.size
  have hx : ∀ j, (x.add j).block = x.block := fun j => by unfold Addr.add; split <;> rfl
  refine ⟨hb2.trans (hb3.mono hs), ⟨by omega, by omega⟩, fun o => ?_, fun h => ?_⟩
  · rw [((Below.refl _ w3).alloc (Nat.le_refl _) o).cell (by rw [hx]; omega), hb3.cell (by rw [hx]; omega), hb2.cell (by rw [hx]; exact hblk)]
    exact hc
  · rw [show FloatKind.f64.format.order (Fl.F j) (floatOfInt .f64 j) = some (compare (j : Int) (j : Int)) from Fl.order_F j j (by omega) (by omega)]
    simp [compare, compareOfLessAndEq]

set_option maxHeartbeats 1000000 in
set_option maxRecDepth 100000 in
theorem picks_walk (x : Addr) (m c td : Nat) (fs : List Nat) (w : World) (hm : m < 1024) (hl : fs.length = m + 1)
    (hc : ∀ i, i < m + 1 → w.cell? (x.add i) = some (.float .f64 (fs.getD i 0))) :
    Calls Yba.prog 3 #[.slice (some x) (m + 1) c, .float .f64 td] w fun e w' => e = .returned (.bool true) ∧ Below w.heap.size w w' := by
  have hblk : x.block < w.heap.size := below_lt (hc 0 (by omega))
  have hbd := build_at x (m + 1) c fs w (by omega) (by omega) hl hc
  have HC : Hid _ := hc
  clear hc hl
  have d1 : (decide ((m : Int) + 1 = 0)) = false := by simp; omega
  have d2 : (decide ((1024 : Int) < (m : Int) + 1)) = false := by simp; omega
  go_enter Yba.func3, Yba.ntmps3
  go_wp2_with fail
  refine hbd.mono ?_
  rintro e w2 ⟨rfl, hR, hb2⟩
  have hs2 := hb2.size
  go_wp2_with fail
  go_loop [6, 7] (fun s6 s7 => ∃ (k : Nat), k ≤ m ∧ s6 = .int .i64 m ∧ s7 = .int .i64 k ∧ (∀ i, i < k → leB td (fs.getD i 0) = false)) (fun _ s7 => m - (intOf s7).toNat)
  case atStart => exact ⟨0, Nat.zero_le _, rfl, rfl, fun i hi => by omega⟩
  case round =>
    obtain ⟨k, hk, rfl, rfl, hno⟩ := hrel
    have c1 : w2.cell? (x.add k) = some (.float .f64 (fs.getD k 0)) := by rw [hb2.cell (p := x.add k) (by unfold Addr.add; split <;> exact hblk)]; exact HC.out k (by omega)
    have HNO : Hid _ := hno
    clear hno
    by_cases hgo : k < m ∧ leB td (fs.getD k 0) = false
    · obtain ⟨hlt, hle⟩ := hgo
      have HX : Hid _ := hle
      generalize fs.getD k 0 = y at c1 hle
      unfold leB at hle
      have hki : (k : Int) < (m : Int) := by omega
      go_wp2
      go_round
      case measure => simp [intOf]; omega
      case rel =>
        refine ⟨k + 1, by omega, rfl, by go_num, fun i hi => ?_⟩
        by_cases hik : i = k
        · subst hik; exact HX.out
        · exact HNO.out i (by omega)
    · obtain ⟨q, hq, hcase⟩ : ∃ q, Pick td fs (m + 1) q ∧ ((k < m ∧ leB td (fs.getD k 0) = true ∧ q = k) ∨ (¬ k < m ∧ q = m)) := by
        by_cases hlt : k < m
        · have ht : leB td (fs.getD k 0) = true := by
            cases h : leB td (fs.getD k 0)
            · exact absurd ⟨hlt, h⟩ hgo
            · rfl
          exact ⟨k, ⟨by omega, HNO.out, fun _ => ht⟩, .inl ⟨hlt, ht, rfl⟩⟩
        · obtain rfl : k = m := by omega
          exact ⟨k, ⟨by omega, HNO.out, fun h => by omega⟩, .inr ⟨hlt, rfl⟩⟩
      have hof := of_any w.heap.size (m + 1) td fs w2 (by omega) (by omega) hR
      clear hgo
      rcases hcase with ⟨hlt, hle, rfl⟩ | ⟨hlt, rfl⟩
      · have hki : (q : Int) < (m : Int) := by omega
        generalize fs.getD q 0 = y at c1 hle
        unfold leB at hle
        go_wp2_with fail
        refine hof.mono ?_
        rintro e w3 ⟨j, rfl, hp, hb3⟩
        obtain rfl := pick_one hp hq
        obtain ⟨G1, G2, G3, G4⟩ := picks_facts x j fs w w2 w3 hblk (HC.out j hq.1) hb2 hb3
        have hj := hq.1
        replace G4 := G4 (by omega)
        have hj2 : (j : Int) < (_ : Nat) := Int.ofNat_lt.2 hj
        clear hb2 hb3 hR hof hbd hq hp HNO
        generalize Fl.F (j : Int) = yj at G4 ⊢
        generalize fs.getD j 0 = xj at G3 ⊢
        have hbits := run_bits
        go_wp2_with fail
        go_quiet (fail)
        go_wp2
        go_ret
        exact ⟨rfl, belowD (G1.out.alloc G2.2 _) _⟩
      · have hki : ¬ (k : Int) < (q : Int) := by omega
        clear c1
        go_wp2_with fail
        refine hof.mono ?_
        rintro e w3 ⟨j, rfl, hp, hb3⟩
        obtain rfl := pick_one hp hq
        obtain ⟨G1, G2, G3, G4⟩ := picks_facts x j fs w w2 w3 hblk (HC.out j hq.1) hb2 hb3
        have hj := hq.1
        replace G4 := G4 (by omega)
        have hj2 : (j : Int) < (_ : Nat) := Int.ofNat_lt.2 hj
        clear hb2 hb3 hR hof hbd hq hp HNO
        generalize Fl.F (j : Int) = yj at G4 ⊢
        generalize fs.getD j 0 = xj at G3 ⊢
        have hbits := run_bits
        go_wp2_with fail
        go_quiet (fail)
        go_wp2
        go_ret
        exact ⟨rfl, belowD (G1.out.alloc G2.2 _) _⟩
end Go.Proofs.Ybulkakik
