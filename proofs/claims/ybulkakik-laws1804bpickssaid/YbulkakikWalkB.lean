/-
  The closure of Of, slices.IndexFunc at regions, Of.
-/
import Derived.Test.YbulkakikWalkA
namespace Go.Proofs.Ybulkakik
open Go.RowKit

/-- a <= b over floats. -/
def leB (a b : Nat) : Bool := (FloatKind.f64.format.order a b == some .lt || FloatKind.f64.format.order a b == some .eq)

theorem Regs.below {w w' : World} {b k n : Nat} {fs : List Nat} (h : Regs w b k n fs) (hb : Below w.heap.size w w') : Regs w' b k n fs := by
  obtain ⟨cur, h1, h2, h3⟩ := h
  exact ⟨cur, by rw [hb.block b (heap_lt h1)]; exact h1, h2, h3⟩

set_option maxHeartbeats 400000 in
theorem clos_any (s : ByteArray) (x y td tb : Nat) (w : World) (ht : w.cell? ⟨tb, 0, none⟩ = some (.float .f64 td)) :
    Calls Yba.prog 9 #[.agg #[.string s, .float .f64 x, .float .f64 y], .pointer (some ⟨tb, 0, none⟩)] w fun e w' => e = .returned (.bool (leB td x)) ∧ Below w.heap.size w w' := by
  have hlt : tb < w.heap.size := below_lt ht
  go_enter Yba.func9, Yba.ntmps9
  go_wp2
  go_ret
  exact ⟨rfl, (Below.refl _ _).alloc (Nat.le_refl _) _⟩

def Found (td : Nat) (fs : List Nat) (m : Nat) (r : Int) : Prop :=
  (r = -1 ∧ ∀ i, i < m → leB td (fs.getD i 0) = false) ∨ ∃ j : Nat, r = j ∧ j < m ∧ leB td (fs.getD j 0) = true ∧ ∀ i, i < j → leB td (fs.getD i 0) = false

set_option maxHeartbeats 1000000 in
set_option maxRecDepth 100000 in
theorem index_any (b m n c td tb : Nat) (fs : List Nat) (w : World) (hn : n ≤ 1024) (hm : m ≤ n) (ht : w.cell? ⟨tb, 0, none⟩ = some (.float .f64 td)) (hr : Regs w b n n fs) :
    Calls Yba.prog 8 #[.slice (some ⟨b, 0, none⟩) m c, .func (.func 9) #[] #[.pointer (some ⟨tb, 0, none⟩)]] w fun e w' => ∃ r, e = .returned (.int .i64 r) ∧ Found td fs m r ∧ Below w.heap.size w w' := by
  have htb : tb < w.heap.size := below_lt ht
  have HT : Hid _ := ht
  clear ht
  go_enter Yba.func8, Yba.ntmps8
  go_wp2
  go_loopg [5, 8] m (fun kx s5 s8 wr => ∃ (k : Nat), k ≤ m ∧ kx = m - k ∧ s8 = .int .i64 k ∧ (∀ i, i < k → leB td (fs.getD i 0) = false) ∧ Below w.heap.size w wr)
  case atStart => exact ⟨0, Nat.zero_le _, rfl, rfl, fun i hi => by omega, Below.refl _ _⟩
  case round =>
    obtain ⟨k, hk, hkx, rfl, hno, hbel⟩ := hrel
    by_cases hlt : k < m
    · have hsz := hbel.size
      obtain ⟨cur, h1, h2, h3⟩ := hr.below hbel
      obtain ⟨r0, r1, r2⟩ := h3 k (by omega)
      have c0 : wr.cell? ⟨b, k * 3, none⟩ = _ := cell_of_block h1 r0
      have c1 : wr.cell? ⟨b, k * 3 + 1, none⟩ = _ := cell_of_block h1 r1
      have c2 : wr.cell? ⟨b, k * 3 + 2, none⟩ = _ := cell_of_block h1 r2
      have hcl := clos_any ⟨#[]⟩ (fs.getD k 0) (Fl.F k) td tb wr (by rw [hbel.cell htb]; exact HT.out)
      have HNO : Hid _ := hno
      generalize hx : fs.getD k 0 = x at c1 hcl
      have HX : Hid _ := hx
      generalize Fl.F k = y at c2 hcl
      clear h1 h2 h3 r0 r1 r2 hno hx
      generalize hd : leB td x = d at hcl
      have HD : Hid _ := hd
      clear hd
      have hki : (0 : Int) ≤ (k : Int) := by omega
      have hkN : (k : Int) < (m : Int) := by omega
      cases d
      · go_wp2_with fail
        refine hcl.mono ?_
        rintro e w1 ⟨rfl, hb1⟩
        go_wp2
        go_roundg (m - (k + 1))
        case measure => omega
        case rel =>
          refine ⟨k + 1, by omega, rfl, by go_num, ?_, hbel.trans (hb1.mono hsz)⟩
          intro i hi
          by_cases hik : i = k
          · subst hik; rw [HX.out]; exact HD.out
          · exact HNO.out i (by omega)
      · go_wp2_with fail
        refine hcl.mono ?_
        rintro e w1 ⟨rfl, hb1⟩
        go_wp2
        go_ret
        exact ⟨_, rfl, .inr ⟨k, rfl, hlt, by rw [HX.out]; exact HD.out, HNO.out⟩, hbel.trans (hb1.mono hsz)⟩
    · obtain rfl : k = m := by omega
      go_wp2
      go_ret
      exact ⟨_, rfl, .inl ⟨rfl, hno⟩, hbel⟩

/-- The region that Of picks. -/
def Pick (td : Nat) (fs : List Nat) (n j : Nat) : Prop :=
  j < n ∧ (∀ i, i < j → leB td (fs.getD i 0) = false) ∧ (j + 1 < n → leB td (fs.getD j 0) = true)

set_option maxHeartbeats 1000000 in
set_option maxRecDepth 100000 in
theorem of_any (b n td : Nat) (fs : List Nat) (w : World) (hn : n ≤ 1024) (hpos : 0 < n) (hr : Regs w b n n fs) :
    Calls Yba.prog 6 #[.slice (some ⟨b, 0, none⟩) n n, .float .f64 td] w fun e w' => ∃ j, e = .returned (.agg #[.string ⟨#[]⟩, .float .f64 (fs.getD j 0), .float .f64 (Fl.F j)]) ∧ Pick td fs n j ∧ Below w.heap.size w w' := by
  have hlt : b < w.heap.size := by obtain ⟨cur, h1, _⟩ := hr; exact heap_lt h1
  obtain ⟨m, rfl⟩ : ∃ m, n = m + 1 := ⟨n - 1, by omega⟩
  go_enter Yba.func6, Yba.ntmps6
  go_wp2_with fail
  refine (index_any b m (m + 1) (m + 1) td w.heap.size fs _ hn (by omega) (by simp [go_sem]) ((hr.below ((Below.refl _ w).alloc (Nat.le_refl _) _)).below ((Below.refl _ _).alloc (Nat.le_refl _) _))).mono ?_
  rintro e w1 ⟨r, rfl, hf, hb⟩
  obtain ⟨j, hr1, hr2, hp⟩ : ∃ j : Nat, (r = -1 → j = m) ∧ (r ≠ -1 → r = j) ∧ Pick td fs (m + 1) j := by
    rcases hf with ⟨rfl, hf⟩ | ⟨j, rfl, hj, h1, h2⟩
    · exact ⟨m, fun _ => rfl, fun h => absurd rfl h, by omega, hf, fun h => by omega⟩
    · exact ⟨j, fun h => by omega, fun _ => rfl, by omega, h2, fun _ => h1⟩
  have hbw : Below w.heap.size w ((w.alloc (.cells #[.float .f64 td] 23)).alloc (.cells #[.string ⟨#[]⟩, .float .f64 0, .float .f64 0] 28)) := ((Below.refl _ w).alloc (Nat.le_refl _) _).alloc (by simp) _
  have hbel : Below w.heap.size w w1 := hbw.trans (hb.mono (by simp; omega))
  have hblk : w1.heap[w.heap.size + 1]? = some (.cells #[.string ⟨#[]⟩, .float .f64 0, .float .f64 0] 28 (0, 0)) := by
    rw [hb.block _ (by simp)]
    have := heap_alloc_new (w.alloc (.cells #[.float .f64 td] 23)) (.cells #[.string ⟨#[]⟩, .float .f64 0, .float .f64 0] 28)
    rwa [show (w.alloc (.cells #[.float .f64 td] 23)).heap.size = w.heap.size + 1 by simp] at this
  obtain ⟨cur, h1, h2, h3⟩ := hr.below hbel
  obtain ⟨r0, r1, r2⟩ := h3 j hp.1
  have c0 : w1.cell? ⟨b, j * 3, none⟩ = _ := cell_of_block h1 r0
  have c1 : w1.cell? ⟨b, j * 3 + 1, none⟩ = _ := cell_of_block h1 r1
  have c2 : w1.cell? ⟨b, j * 3 + 2, none⟩ = _ := cell_of_block h1 r2
  have hjm : j ≤ m := by have := hp.1; omega
  have HP : Hid _ := hp
  generalize hx : fs.getD j 0 = x at c1
  have HX : Hid _ := hx
  generalize hy : Fl.F j = y at c2
  have HY : Hid _ := hy
  have HW : Hid _ := hbel
  have k0 : w1.cell? ⟨w.heap.size + 1, 0, none⟩ = some (.string ⟨#[]⟩) := cell_of_block hblk rfl
  have l0 : w1.frozen? ⟨w.heap.size + 1, 0, none⟩ = false := free_of_block hblk
  have k1 : ∀ u, (w1.setCell ⟨w.heap.size + 1, 0, none⟩ u).cell? ⟨w.heap.size + 1, 1, none⟩ = some (.float .f64 0) := fun u => cell_of_block (block_setCell hblk u) rfl
  have l1 : ∀ u, (w1.setCell ⟨w.heap.size + 1, 0, none⟩ u).frozen? ⟨w.heap.size + 1, 1, none⟩ = false := fun u => free_of_block (block_setCell hblk u)
  have k2 : ∀ u v, ((w1.setCell ⟨w.heap.size + 1, 0, none⟩ u).setCell ⟨w.heap.size + 1, 1, none⟩ v).cell? ⟨w.heap.size + 1, 2, none⟩ = some (.float .f64 0) := fun u v => cell_of_block (block_setCell (block_setCell hblk u) v) rfl
  have l2 : ∀ u v, ((w1.setCell ⟨w.heap.size + 1, 0, none⟩ u).setCell ⟨w.heap.size + 1, 1, none⟩ v).frozen? ⟨w.heap.size + 1, 2, none⟩ = false := fun u v => free_of_block (block_setCell (block_setCell hblk u) v)
  have m3 := fun u v x => block_setCell (i := 2) (block_setCell (i := 1) (block_setCell (i := 0) hblk u) v) x
  have M3 : Hid _ := m3
  have hji : (0 : Int) ≤ (j : Int) := by omega
  have hjm' : (j : Int) < (m : Int) + 1 := by omega
  clear h1 h2 h3 r0 r1 r2 hp hx hy hbel hbw hf hr m3 hblk hb
  by_cases hneg : r = -1
  · obtain rfl := hr1 hneg
    subst hneg
    clear hr1 hr2
    go_wp2
    refine bodyPost_ret (v := .agg #[.string ⟨#[]⟩, .float .f64 x, .float .f64 y]) ?_ rfl ⟨j, by rw [HX.out, HY.out], HP.out, ((HW.out.setCell (by simp) _).setCell (by simp) _).setCell (by simp) _⟩
    have e0 := cell_of_block (i := 0) (M3.out (.string ⟨#[]⟩) (.float .f64 x) (.float .f64 y)) rfl
    have e1 := cell_of_block (i := 1) (M3.out (.string ⟨#[]⟩) (.float .f64 x) (.float .f64 y)) rfl
    have e2 := cell_of_block (i := 2) (M3.out (.string ⟨#[]⟩) (.float .f64 x) (.float .f64 y)) rfl
    simp [results, Yba.results6, go_sem, e0, e1, e2]
  · have hrj := hr2 hneg
    subst hrj
    have hnn : ¬ ((j : Int) < 0) := by omega
    clear hr1 hr2
    go_wp2
    refine bodyPost_ret (v := .agg #[.string ⟨#[]⟩, .float .f64 x, .float .f64 y]) ?_ rfl ⟨j, by rw [HX.out, HY.out], HP.out, ((HW.out.setCell (by simp) _).setCell (by simp) _).setCell (by simp) _⟩
    have e0 := cell_of_block (i := 0) (M3.out (.string ⟨#[]⟩) (.float .f64 x) (.float .f64 y)) rfl
    have e1 := cell_of_block (i := 1) (M3.out (.string ⟨#[]⟩) (.float .f64 x) (.float .f64 y)) rfl
    have e2 := cell_of_block (i := 2) (M3.out (.string ⟨#[]⟩) (.float .f64 x) (.float .f64 y)) rfl
    simp [results, Yba.results6, go_sem, e0, e1, e2]
end Go.Proofs.Ybulkakik
