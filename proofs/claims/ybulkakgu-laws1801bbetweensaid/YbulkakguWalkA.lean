/-
  The small functions of this road: slices.Clone at uint64, store.New, the closure of firstSeeing, cmp.Compare at uint64.
-/
import Derived.Test.YbulkakguRows
import Derived.WalkKit
import Derived.WalkSpells
import Derived.WalkLawsBesides
import Derived.Lib.SliceRun
import Derived.Deep.LoopGhost
import Derived.Lib.Walk
import Derived.Test.YbulkakguSortTop
namespace Go.Proofs.Ybulkakgu
open Go.RowKit

theorem Yba.cells38 : Yba.prog.cellsOf 38 = 7 := by kernel_rfl
theorem Yba.cells42 : Yba.prog.cellsOf 42 = 4 := by kernel_rfl
theorem Yba.info23 : (Yba.prog.info? 23).map (fun i => (i.zero, i.size, i.bytes)) = some (some (.int .u64 0), 1, 8) := by kernel_rfl
theorem Yba.info39 : (Yba.prog.info? 39).map (fun i => (i.zero, i.size, i.bytes)) = some (some (.pointer none), 1, 8) := by kernel_rfl

set_option maxHeartbeats 400000 in
theorem clone_nil (w : World) (n c : Nat) :
    Calls Yba.prog 8 #[.slice none n c] w fun e w' => e = .returned (.slice none 0 0) ∧ w' = w := by
  have q22 : ∀ (w : World) (a : Option Addr) (n c n' c' : Nat), (binOp .eql 22 (.slice a n c) (.slice none n' c')).run Yba.prog w = .ok (.bool a.isNone) w := fun w a n c n' c' => Lib.run_eql_slice_nil w _ _ a n c n' c' Yba.underlying22
  go_enter Yba.func8, Yba.ntmps8
  go_wp2
  go_ret
  exact ⟨rfl, rfl⟩

set_option maxHeartbeats 400000 in
set_option maxRecDepth 100000 in
theorem clone_some (ad : Addr) (n c : Nat) (news : List Value) (w : World) (hl : news.length = n) (hn : n ≤ 1024)
    (hc : ∀ j u, news[j]? = some u → w.cell? (ad.add j) = some u) (h1 : ∀ u ∈ news, u.oneCell' = true) :
    Calls Yba.prog 8 #[.slice (some ad) n c] w fun e w' => ∃ v', e = .returned v' ∧ w'.ownsRow w.heap.size 23 1 v' n news ∧ v' ≠ .slice none 0 0 ∧ Below w.heap.size w w' := by
  obtain ⟨i0, hi, hz0, hz1, hz2⟩ := info_parts Yba.info23
  have A : Hid (∀ j u, news[j]? = some u → w.cell? (ad.add j) = some u) := hc
  clear hc
  have q22 : ∀ (w : World) (a : Option Addr) (n c n' c' : Nat), (binOp .eql 22 (.slice a n c) (.slice none n' c')).run Yba.prog w = .ok (.bool a.isNone) w := fun w a n c n' c' => Lib.run_eql_slice_nil w _ _ a n c n' c' Yba.underlying22
  go_enter Yba.func8, Yba.ntmps8
  go_wp2_with (at_builtin; refine wpList_append_own _ rfl _ _ 22 rfl w.heap.size 23 i0 (.int .u64 0) 1 8 Yba.underlying22 hi hz0 hz1 hz2 rfl (by decide) _ _ _ rfl (World.ownsRow_made w #[] 0 (Nat.le_refl _) (Nat.zero_le _) (by simp)) ad n c news rfl ?qc1 ?qc2 ?qc3 ?qc4 ?qc5 ?qc6 ?_)
  case qc1 => omega
  case qc2 =>
    intro j u hj
    exact Lib.cell?_alloc_some _ (A.out j u hj)
  case qc3 => exact h1
  case qc4 => unfold maxLen; omega
  case qc5 => omega
  case qc6 => simp
  intro v' w1 hown hgrow hnil
  go_wp2
  go_ret
  refine ⟨v', rfl, by simpa using hown, ?_, ?_⟩
  · exact hnil
  · exact ((Below.refl _ w).alloc (Nat.le_refl _) _).grown hgrow (by simp) (by intro k hk; simp [Value.ownBlock] at hk; omega)

set_option maxHeartbeats 400000 in
theorem new_any (w : World) :
    Calls Yba.prog 10 #[] w fun e w' => e = .returned (.pointer (some ⟨w.heap.size + 1, 0, none⟩)) ∧
      ∃ o, w' = (w.alloc o).alloc (.cells #[.map (some w.heap.size), .slice none 0 0, .int .u64 0, .int .u64 0, .int .u64 0, .slice none 0 0, .slice none 0 0] 38) := by
  have hmm := @run_makeMap Yba.prog
  go_enter Yba.func10, Yba.ntmps10
  go_wp2
  go_ret
  exact ⟨rfl, _, rfl⟩

/-- What cmp.Compare answers. -/
def cmpU (x y : Int) : Int := if x < y then -1 else if y < x then 1 else 0
theorem cmpU_lt {x y : Int} (h : x < y) : cmpU x y = -1 := if_pos h
theorem cmpU_gt {x y : Int} (h : y < x) : cmpU x y = 1 := by unfold cmpU; rw [if_neg (by omega), if_pos h]
theorem cmpU_eq {x y : Int} (h : y ≤ x) (h2 : x ≤ y) : cmpU x y = 0 := by unfold cmpU; rw [if_neg (by omega), if_neg (by omega)]
theorem cmpU_neg (x y : Int) : decide (cmpU x y < 0) = decide (x < y) := by
  unfold cmpU
  by_cases h : x < y
  · simp [h]
  · by_cases h2 : y < x <;> simp [h, h2]
theorem cmpU_bd (x y : Int) : -1 ≤ cmpU x y ∧ cmpU x y ≤ 1 := by
  unfold cmpU
  split <;> (try split) <;> omega

set_option maxHeartbeats 400000 in
theorem compare_any (x y : Int) (w : World) :
    Calls Yba.prog 13 #[.int .u64 x, .int .u64 y] w fun e w' => e = .returned (.int .i64 (cmpU x y)) ∧ w' = w := by
  go_enter Yba.func13, Yba.ntmps13
  go_wp2_with (go_at_call 16; refine (USort.u_cmp_isNaN _ _).mono ?_; rintro e w' ⟨rfl, rfl⟩)
  all_goals
    go_ret
    refine ⟨?_, rfl⟩
    first | (rw [cmpU_lt (by assumption)]; rfl) | (rw [cmpU_gt (by assumption)]; rfl) | (rw [cmpU_eq (by assumption) (by assumption)]; rfl)

set_option maxHeartbeats 400000 in
theorem closure_any (x y : Int) (b o : Nat) (w : World) (hc : w.cell? ⟨b, o + 1, none⟩ = some (.int .u64 x)) :
    Calls Yba.prog 12 #[.pointer (some ⟨b, o, none⟩), .int .u64 y] w fun e w' => e = .returned (.int .i64 (cmpU x y)) ∧ w' = w := by
  go_enter Yba.func12, Yba.ntmps12
  go_wp2_with (go_at_call 13; refine (compare_any _ _ _).mono ?_; rintro e w' ⟨rfl, rfl⟩)
  go_ret
  exact ⟨rfl, rfl⟩
end Go.Proofs.Ybulkakgu
