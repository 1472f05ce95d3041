/-
  zzs1804bbuild, the closure of Of, slices.IndexFunc at regions, Of.
-/
import Derived.Test.YbulkakikRows
import Derived.WalkKit
import Derived.WalkSpells
import Derived.WalkLawsBesides
import Derived.Lib.SliceRun
import Derived.Deep.LoopGhost
import Derived.Lib.Walk
import Derived.Test.YbulkakikFloat
namespace Go.Proofs.Ybulkakik
open Go.RowKit

theorem Yba.info28 : (Yba.prog.info? 28).map (fun i => (i.zero, i.size, i.bytes)) = some (some (.agg #[.string ⟨#[]⟩, .float .f64 0, .float .f64 0]), 3, 32) := by kernel_rfl

@[go_sem] theorem run_store_float {P : Program} {w : World} {a : Addr} {m : Mode} (k : FloatKind) (n : Nat) : (store a (.float k n) m).run P w = stored P w a (.float k n) m := run_store P w a _ m rfl

theorem cell_of_block {w : World} {b i : Nat} {cs : Array Value} {t : TypeId} {fr : Nat × Nat} {v : Value} (h : w.heap[b]? = some (.cells cs t fr)) (hi : cs[i]? = some v) : w.cell? ⟨b, i, none⟩ = some v := by
  simp [World.cell?, h, hi]
theorem free_of_block {w : World} {b i : Nat} {cs : Array Value} {t : TypeId} (h : w.heap[b]? = some (.cells cs t (0, 0))) : w.frozen? ⟨b, i, none⟩ = false := by
  simp [World.frozen?, h]
theorem block_setCell {w : World} {b i : Nat} {cs : Array Value} {t : TypeId} {fr : Nat × Nat} (h : w.heap[b]? = some (.cells cs t fr)) (u : Value) : (w.setCell ⟨b, i, none⟩ u).heap[b]? = some (.cells (cs.setIfInBounds i u) t fr) := by
  simp [World.setCell, Array.getElem?_modify, h]
theorem heap_lt {w : World} {b : Nat} {o : Obj} (h : w.heap[b]? = some o) : b < w.heap.size := (Array.getElem?_eq_some_iff.1 h).1
theorem below_lt {w : World} {a : Addr} {v : Value} (h : w.cell? a = some v) : a.block < w.heap.size := by
  unfold World.cell? at h
  split at h
  · rename_i hh; exact heap_lt hh
  all_goals cases h

/-- The k first regions of a row that begins at block b. -/
def Regs (w : World) (b : Nat) (k n : Nat) (fs : List Nat) : Prop :=
  ∃ cur, w.heap[b]? = some (.cells cur 28 (0, 0)) ∧ cur.size = n * 3 ∧ ∀ i, i < k → cur[i * 3]? = some (.string ⟨#[]⟩) ∧ cur[i * 3 + 1]? = some (.float .f64 (fs.getD i 0)) ∧ cur[i * 3 + 2]? = some (.float .f64 (Fl.F i))

set_option maxHeartbeats 1000000 in
set_option maxRecDepth 100000 in
theorem build_any (b off n c : Nat) (fs : List Nat) (w : World) (hn : n ≤ 1024) (hpos : 0 < n) (hl : fs.length = n)
    (hc : ∀ i, i < n → w.cell? ⟨b, off + i, none⟩ = some (.float .f64 (fs.getD i 0))) :
    Calls Yba.prog 5 #[.slice (some ⟨b, off, none⟩) n c] w fun e w' => e = .returned (.slice (some ⟨w.heap.size, 0, none⟩) n n) ∧ Regs w' w.heap.size n n fs ∧ Below w.heap.size w w' := by
  obtain ⟨i0, hi, hz0, hz1, hz2⟩ := info_parts Yba.info28
  have hblk : b < w.heap.size := below_lt (hc 0 (by omega))
  have HC : Hid _ := hc
  have HL : Hid (fs.length = n) := hl
  clear hc hl
  go_enter Yba.func5, Yba.ntmps5
  go_wp2_with (at_make; refine wpList_make_full _ rfl _ _ 25 rfl w.heap.size 28 i0 _ 3 Yba.underlying25 hi hz0 hz1 .i64 .i64 _ _ n rfl rfl rfl rfl (by rw [hz2]; omega) (by unfold maxLen; omega) (Nat.le_refl _) ?_; intro w1 hown1 hgrow1)
  have R1 : Regs w1 w.heap.size 0 n fs := by
    rcases hown1.2 with ⟨h, _⟩ | ⟨g, cap, cur, h, h1, h2, h3, h4, h5, _⟩
    · simp at h
    · simp only [Value.slice.injEq, Option.some.injEq, Addr.mk.injEq] at h
      obtain ⟨⟨rfl, _⟩, _, rfl⟩ := h
      exact ⟨cur, h2, h5, fun i hi => by omega⟩
  have hbel1 : Below w.heap.size w w1 := (Below.refl _ _).grown hgrow1 (Nat.le_refl _) (fun k hk => by cases hk)
  clear hown1 hgrow1
  go_wp2_with fail
  go_loopg [4] n (fun kx s4 wr => ∃ (k : Nat), k ≤ n ∧ kx = n - k ∧ s4 = .int .i64 k ∧ Regs wr w.heap.size k n fs ∧ Below w.heap.size w wr)
  case atStart => exact ⟨0, Nat.zero_le _, rfl, rfl, R1, hbel1⟩
  case round =>
    obtain ⟨k, hk, hkx, rfl, R, hbel⟩ := hrel
    by_cases hlt : k < n
    · have hsz := hbel.size
      have c1 := HC.out k hlt
      rw [← hbel.cell (p := ⟨b, off + k, none⟩) hblk] at c1
      obtain ⟨cur, hb, hcs, hrs⟩ := R
      have hf0 : wr.frozen? ⟨w.heap.size, k * 3, none⟩ = false := free_of_block hb
      have hf1 : wr.frozen? ⟨w.heap.size, k * 3 + 1, none⟩ = false := free_of_block hb
      have hf2 : wr.frozen? ⟨w.heap.size, k * 3 + 2, none⟩ = false := free_of_block hb
      obtain ⟨x0, hx0⟩ : ∃ x, cur[k * 3]? = some x := ⟨_, Array.getElem?_eq_getElem (by omega)⟩
      obtain ⟨x1, hx1⟩ : ∃ x, cur[k * 3 + 1]? = some x := ⟨_, Array.getElem?_eq_getElem (by omega)⟩
      obtain ⟨x2, hx2⟩ : ∃ x, cur[k * 3 + 2]? = some x := ⟨_, Array.getElem?_eq_getElem (by omega)⟩
      have hg0 : wr.cell? ⟨w.heap.size, k * 3, none⟩ = some x0 := cell_of_block hb hx0
      have hg1 : wr.cell? ⟨w.heap.size, k * 3 + 1, none⟩ = some x1 := cell_of_block hb hx1
      have hg2 : wr.cell? ⟨w.heap.size, k * 3 + 2, none⟩ = some x2 := cell_of_block hb hx2
      have hg1' : ∀ u, (wr.setCell ⟨w.heap.size, k * 3, none⟩ u).cell? ⟨w.heap.size, k * 3 + 1, none⟩ = some x1 := fun u => cell_of_block (block_setCell hb u) (by rw [Array.getElem?_setIfInBounds_ne (by omega)]; exact hx1)
      have hf1' : ∀ u, (wr.setCell ⟨w.heap.size, k * 3, none⟩ u).frozen? ⟨w.heap.size, k * 3 + 1, none⟩ = false := fun u => free_of_block (block_setCell hb u)
      have hg2' : ∀ u v, ((wr.setCell ⟨w.heap.size, k * 3, none⟩ u).setCell ⟨w.heap.size, k * 3 + 1, none⟩ v).cell? ⟨w.heap.size, k * 3 + 2, none⟩ = some x2 := fun u v => cell_of_block (block_setCell (block_setCell hb u) v) (by rw [Array.getElem?_setIfInBounds_ne (by omega), Array.getElem?_setIfInBounds_ne (by omega)]; exact hx2)
      have hf2' : ∀ u v, ((wr.setCell ⟨w.heap.size, k * 3, none⟩ u).setCell ⟨w.heap.size, k * 3 + 1, none⟩ v).frozen? ⟨w.heap.size, k * 3 + 2, none⟩ = false := fun u v => free_of_block (block_setCell (block_setCell hb u) v)
      have hb3 := fun u v x => block_setCell (i := k * 3 + 2) (block_setCell (i := k * 3 + 1) (block_setCell (i := k * 3) hb u) v) x
      have HB3 : Hid _ := hb3
      clear hb3
      have hki : (0 : Int) ≤ (k : Int) := by omega
      have hkN : (k : Int) < (n : Int) := by omega
      have HRS : Hid _ := hrs
      have HCS : Hid _ := hcs
      clear hrs hcs hx0 hx1 hx2
      go_wp2
      go_roundg (n - (k + 1))
      case measure => omega
      case rel =>
        refine ⟨k + 1, by omega, rfl, by go_num, ⟨_, HB3.out _ _ _, by simp [HCS.out], ?_⟩, ((hbel.setCell (by simp) _).setCell (by simp) _).setCell (by simp) _⟩
        intro i hi
        have hcs := HCS.out
        by_cases hik : i = k
        · subst hik
          refine ⟨?_, ?_, ?_⟩
          · rw [Array.getElem?_setIfInBounds_ne (by omega), Array.getElem?_setIfInBounds_ne (by omega), Array.getElem?_setIfInBounds_self_of_lt (by omega)]
          · rw [Array.getElem?_setIfInBounds_ne (by omega), Array.getElem?_setIfInBounds_self_of_lt (by simp; omega)]
            simp
          · rw [Array.getElem?_setIfInBounds_self_of_lt (by simp; omega)]
            rfl
        · obtain ⟨a1, a2, a3⟩ := HRS.out i (by omega)
          refine ⟨?_, ?_, ?_⟩
          · rw [Array.getElem?_setIfInBounds_ne (by omega), Array.getElem?_setIfInBounds_ne (by omega), Array.getElem?_setIfInBounds_ne (by omega)]; exact a1
          · rw [Array.getElem?_setIfInBounds_ne (by omega), Array.getElem?_setIfInBounds_ne (by omega), Array.getElem?_setIfInBounds_ne (by omega)]; exact a2
          · rw [Array.getElem?_setIfInBounds_ne (by omega), Array.getElem?_setIfInBounds_ne (by omega), Array.getElem?_setIfInBounds_ne (by omega)]; exact a3
    · obtain rfl : k = n := by omega
      go_wp2
      go_ret
      exact ⟨rfl, R, hbel⟩
end Go.Proofs.Ybulkakik
