/-
  The trip of LawS1808CWithin as it lies in memory; gate, holds, passable.
-/
import Derived.Test.YbulkakkoRows
import Derived.WalkKit
import Derived.WalkSpells
import Derived.WalkLawsBesides
import Derived.Lib.SliceRun
import Derived.Deep.LoopGhost
import Derived.Lib.Walk
import Derived.Deep.QuietTactic
import Derived.BigQuiet
namespace Go.Proofs.Ybulkakko
open Go.RowKit
set_option linter.unusedVariables false

theorem cell_of_block {w : World} {b i : Nat} {cs : Array Value} {t : TypeId} {fr : Nat × Nat} {v : Value} (h : w.heap[b]? = some (.cells cs t fr)) (hi : cs[i]? = some v) : w.cell? ⟨b, i, none⟩ = some v := by
  simp [World.cell?, h, hi]
theorem free_of_block {w : World} {b i : Nat} {cs : Array Value} {t : TypeId} (h : w.heap[b]? = some (.cells cs t (0, 0))) : w.frozen? ⟨b, i, none⟩ = false := by
  simp [World.frozen?, h]
theorem block_setCell {w : World} {b i : Nat} {cs : Array Value} {t : TypeId} {fr : Nat × Nat} (h : w.heap[b]? = some (.cells cs t fr)) (u : Value) : (w.setCell ⟨b, i, none⟩ u).heap[b]? = some (.cells (cs.setIfInBounds i u) t fr) := by
  simp [World.setCell, Array.getElem?_modify, h]
theorem heap_lt {w : World} {b : Nat} {o : Obj} (h : w.heap[b]? = some o) : b < w.heap.size := (Array.getElem?_eq_some_iff.1 h).1
theorem below_lt {w : World} {a : Addr} {v : Value} (h : w.cell? a = some v) : a.block < w.heap.size := by
  unfold World.cell? at h
  split at h
  · rename_i hh; exact heap_lt hh
  all_goals cases h
theorem Below.old {w w' : World} (hb : Below w.heap.size w w') {a : Addr} {v : Value} (h : w.cell? a = some v) : w'.cell? a = some v := by
  rw [hb.cell (below_lt h)]; exact h
theorem belowD {B : Nat} {a w : World} (h : Below B a w) (n : Nat) : Below B a (w.drewN n) := ⟨h.os, h.tape, h.output, h.size, h.block⟩

/-- A slice of arcs: each leads from a region to a link, told by their numbers. -/
def Arcs (w : World) (L R : Nat) (v : Value) (l : List (Nat × Nat)) : Prop :=
  ∃ p c, v = .slice p l.length c ∧ (0 < l.length → ∃ g, p = some ⟨g, 0, none⟩ ∧ ∀ i, i < l.length → ∃ fb x vb, w.cell? ⟨g, i * 3, none⟩ = some (.pointer (some ⟨fb, 0, none⟩)) ∧ w.cell? ⟨g, i * 3 + 1, none⟩ = some (.pointer x) ∧ w.cell? ⟨g, i * 3 + 2, none⟩ = some (.pointer (some ⟨vb, 0, none⟩)) ∧
    w.cell? ⟨fb, 8, none⟩ = some (.int .i64 (l.getD i (0, 0)).1) ∧ w.cell? ⟨vb, 8, none⟩ = some (.int .i64 (l.getD i (0, 0)).2) ∧ (l.getD i (0, 0)).1 < R ∧ (l.getD i (0, 0)).2 < L)

theorem Arcs.below {w w' : World} {L R : Nat} {v : Value} {l : List (Nat × Nat)} (h : Arcs w L R v l) (hb : Below w.heap.size w w') : Arcs w' L R v l := by
  obtain ⟨p, c, h1, h2⟩ := h
  refine ⟨p, c, h1, fun hl => ?_⟩
  obtain ⟨g, hg, hc⟩ := h2 hl
  refine ⟨g, hg, fun i hi => ?_⟩
  obtain ⟨fb, x, vb, a1, a2, a3, a4, a5, a6⟩ := hc i hi
  exact ⟨fb, x, vb, Below.old hb a1, Below.old hb a2, Below.old hb a3, Below.old hb a4, Below.old hb a5, a6⟩

/-- The trip lies at block tb. -/
structure Laid (w : World) (tb sb wb gb RC TS LB WL IN AC L R : Nat) (rc wl : Nat → Bool) (ts : Nat → Int) (A I : Nat → List (Nat × Nat)) : Prop where
  t0 : w.cell? ⟨tb, 0, none⟩ = some (.pointer (some ⟨sb, 0, none⟩))
  t5 : w.cell? ⟨tb, 5, none⟩ = some (.slice (some ⟨RC, 0, none⟩) R R)
  t10 : w.cell? ⟨tb, 10, none⟩ = some (.slice (some ⟨TS, 0, none⟩) (L + R) (L + R))
  t15 : w.cell? ⟨tb, 15, none⟩ = some (.pointer (some ⟨gb, 0, none⟩))
  t20 : w.cell? ⟨tb, 20, none⟩ = some (.slice none 0 0)
  t22 : w.cell? ⟨tb, 22, none⟩ = some (.bool false)
  t27 : w.cell? ⟨tb, 27, none⟩ = some (.pointer none)
  s7 : w.cell? ⟨sb, 7, none⟩ = some (.slice (some ⟨LB, 0, none⟩) L L)
  s20 : w.cell? ⟨sb, 20, none⟩ = some (.pointer (some ⟨wb, 0, none⟩))
  w7 : w.cell? ⟨wb, 7, none⟩ = some (.slice (some ⟨WL, 0, none⟩) L L)
  g1 : w.cell? ⟨gb, 1, none⟩ = some (.slice (some ⟨IN, 0, none⟩) R R)
  g2 : w.cell? ⟨gb, 2, none⟩ = some (.slice (some ⟨AC, 0, none⟩) L L)
  rcs : ∀ i, i < R → w.cell? ⟨RC, i, none⟩ = some (.bool (rc i))
  wls : ∀ i, i < L → w.cell? ⟨WL, i, none⟩ = some (.bool (wl i))
  tss : ∀ i, i < L + R → w.cell? ⟨TS, i, none⟩ = some (.int .i8 (ts i)) ∧ (ts i = 1 ∨ ts i = -1)
  acs : ∀ i, i < L → ∃ v, w.cell? ⟨AC, i, none⟩ = some v ∧ Arcs w L R v (A i)
  ins : ∀ i, i < R → ∃ v, w.cell? ⟨IN, i, none⟩ = some v ∧ Arcs w L R v (I i)

theorem Laid.below {w w' : World} {tb sb wb gb RC TS LB WL IN AC L R : Nat} {rc wl : Nat → Bool} {ts : Nat → Int} {A I : Nat → List (Nat × Nat)} (h : Laid w tb sb wb gb RC TS LB WL IN AC L R rc wl ts A I) (hb : Below w.heap.size w w') :
    Laid w' tb sb wb gb RC TS LB WL IN AC L R rc wl ts A I where
  t0 := Below.old hb h.t0
  t5 := Below.old hb h.t5
  t10 := Below.old hb h.t10
  t15 := Below.old hb h.t15
  t20 := Below.old hb h.t20
  t22 := Below.old hb h.t22
  t27 := Below.old hb h.t27
  s7 := Below.old hb h.s7
  s20 := Below.old hb h.s20
  w7 := Below.old hb h.w7
  g1 := Below.old hb h.g1
  g2 := Below.old hb h.g2
  rcs := fun i hi => Below.old hb (h.rcs i hi)
  wls := fun i hi => Below.old hb (h.wls i hi)
  tss := fun i hi => ⟨Below.old hb (h.tss i hi).1, (h.tss i hi).2⟩
  acs := fun i hi => by obtain ⟨v, h1, h2⟩ := h.acs i hi; exact ⟨v, Below.old hb h1, h2.below hb⟩
  ins := fun i hi => by obtain ⟨v, h1, h2⟩ := h.ins i hi; exact ⟨v, Below.old hb h1, h2.below hb⟩

set_option maxHeartbeats 400000 in
theorem gate_any (tb : Nat) (s : Int) (w : World) (h : w.cell? ⟨tb, 20, none⟩ = some (.slice none 0 0)) :
    Calls Yba.prog 20 #[.pointer (some ⟨tb, 20, none⟩), .int .i64 s] w fun e w' => e = .returned (.bool true) ∧ w' = w := by
  have q22 : ∀ (w : World) (a : Option Addr) (n c n' c' : Nat), (binOp .eql 87 (.slice a n c) (.slice none n' c')).run Yba.prog w = .ok (.bool a.isNone) w := fun w a n c n' c' => Lib.run_eql_slice_nil w _ _ a n c n' c' Yba.underlying87
  go_enter Yba.func20, Yba.ntmps20
  go_wp2
  go_ret
  exact ⟨rfl, rfl⟩

set_option maxHeartbeats 400000 in
theorem holds_any (tb TS n s : Nat) (t : Int) (w : World) (h27 : w.cell? ⟨tb, 27, none⟩ = some (.pointer none)) (h10 : w.cell? ⟨tb, 10, none⟩ = some (.slice (some ⟨TS, 0, none⟩) n n)) (hs : s < n) (hn : n ≤ 8)
    (ht : w.cell? ⟨TS, s, none⟩ = some (.int .i8 t)) (h1 : t = 1 ∨ t = -1) :
    Calls Yba.prog 21 #[.pointer (some ⟨tb, 0, none⟩), .int .i64 s] w fun e w' => e = .returned (.bool (decide (0 < t))) ∧ w' = w := by
  have hsi : (s : Int) < (n : Int) := by omega
  rcases h1 with rfl | rfl
  · go_enter Yba.func21, Yba.ntmps21
    go_wp2
    go_ret
    exact ⟨rfl, rfl⟩
  · go_enter Yba.func21, Yba.ntmps21
    go_wp2
    go_ret
    exact ⟨rfl, rfl⟩

set_option maxHeartbeats 400000 in
theorem passable_any (tb TS n s : Nat) (t : Int) (w : World) (h20 : w.cell? ⟨tb, 20, none⟩ = some (.slice none 0 0)) (h22 : w.cell? ⟨tb, 22, none⟩ = some (.bool false)) (h27 : w.cell? ⟨tb, 27, none⟩ = some (.pointer none)) (h10 : w.cell? ⟨tb, 10, none⟩ = some (.slice (some ⟨TS, 0, none⟩) n n)) (hs : s < n) (hn : n ≤ 8)
    (ht : w.cell? ⟨TS, s, none⟩ = some (.int .i8 t)) (h1 : t = 1 ∨ t = -1) :
    Calls Yba.prog 15 #[.pointer (some ⟨tb, 0, none⟩), .int .i64 s] w fun e w' => e = .returned (.bool (decide (0 < t))) ∧ w' = w := by
  have hg := gate_any tb s w h20
  have hh := holds_any tb TS n s t w h27 h10 hs hn ht h1
  rcases h1 with rfl | rfl
  · go_enter Yba.func15, Yba.ntmps15
    go_wp2_with (first | (go_at_call 20; refine hg.mono ?_; rintro e w' ⟨rfl, rfl⟩) | (go_at_call 21; refine hh.mono ?_; rintro e w' ⟨rfl, rfl⟩))
    go_ret
    exact ⟨rfl, rfl⟩
  · go_enter Yba.func15, Yba.ntmps15
    go_wp2_with (first | (go_at_call 20; refine hg.mono ?_; rintro e w' ⟨rfl, rfl⟩) | (go_at_call 21; refine hh.mono ?_; rintro e w' ⟨rfl, rfl⟩))
    go_ret
    exact ⟨rfl, rfl⟩
end Go.Proofs.Ybulkakko
