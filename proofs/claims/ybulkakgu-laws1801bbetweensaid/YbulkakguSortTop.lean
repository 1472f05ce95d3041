/-
  slices.Sort at uint64 over this program: slices.Sort (the walk of the kit at int, Derived/Sort, turned to this program, its numbers and the element kind u64).
-/
import Derived.Test.YbulkakguSortA
import Derived.Test.YbulkakguSortA6
import Derived.Test.YbulkakguSortB
import Derived.Test.YbulkakguSortC
import Derived.Test.YbulkakguSortC4
import Derived.Test.YbulkakguSortD
import Derived.Test.YbulkakguSort7
import Derived.Test.YbulkakguSort13
import Derived.Sort.AssemblyPlain
namespace Go.Proofs.Ybulkakgu.USort
open Go.Sort Go.RowKit

def pdqWalkU : Prop := ∀ (blk off cap a b limit : Nat) (d : Array Int) (w : World), Holds (Value.int .u64) w blk off d → blk < w.heap.size → a ≤ b → b ≤ d.size → d.size < 4611686018427387904 → limit < 4611686018427387904 → Below ltInt a b d →
  Calls Yba.prog 14 #[.slice (some ⟨blk, off, none⟩) d.size cap, .int .i64 a, .int .i64 b, .int .i64 limit] w fun e w' =>
    e = .returned (.tuple #[]) ∧ ∃ n os, w' = grow (putRow (Value.int .u64) (Sort.ahead w n) blk off (Sort.pdq ltInt d a b limit true true)) os

set_option maxRecDepth 100000 in
theorem u_Sort (hpdq : pdqWalkU) (blk off cap : Nat) (d : Array Int) (w : World) (hH : Holds (Value.int .u64) w blk off d) (hblk : blk < w.heap.size) (hsz : d.size < 4611686018427387904) :
    Calls Yba.prog 9 #[.slice (some ⟨blk, off, none⟩) d.size cap] w fun e w' => e = .returned (.tuple #[]) ∧ ∃ n os, w' = grow (putRow (Value.int .u64) (Sort.ahead w n) blk off (Sort.sort ltInt d)) os := by
  have HH : Hid (Holds (Value.int .u64) w blk off d) := hH
  clear hH
  have hLen : ∀ w, Calls Yba.prog 15 #[.int .u64 (d.size : Int)] w fun e w' => e = .returned (.int .i64 (bitsLen d.size : Nat)) ∧ w' = w := fun w => by
    have h := u_bits_Len (d.size : Int) w (by omega) (by omega)
    rwa [Int.toNat_natCast, bitLen_eq _ (by omega)] at h
  have hk : bitsLen d.size ≤ 62 := (bitsLen_le_iff d.size 62).2 (by omega)
  go_enter Yba.func9, Yba.ntmps9
  go_wp2_with (first
    | (go_at_call 15; refine (hLen _).mono ?_; rintro e w' ⟨rfl, rfl⟩)
    | (go_at_call 14; refine (hpdq blk off cap 0 d.size (bitsLen d.size) d _ (by exact HH.out) (by exact hblk) (Nat.zero_le _) (Nat.le_refl _) hsz (by omega) (Or.inl rfl)).mono ?_; rintro e w' ⟨rfl, n, os, rfl⟩))
  go_end0
  exact ⟨rfl, n, os, rfl⟩

theorem callees13u : Callees13u where
  ins := u_insertionSort
  brk := u_breakPatterns
  piv := u_choosePivot
  par := u_partialInsertionSort
  peq := u_partitionEqualOrdered
  prt := u_partitionOrdered

theorem plain13 : Plain13 where
  swo := swo_ltInt
  ins := insertionSort_holds
  par := partialInsertionSort_holds
  prt := partition_holds _
  peq := partitionEqual_holds _
  pdq := pdq_sorts _

theorem pdqWalkUHolds : pdqWalkU := fun blk off cap a b limit d w hH hb hab hbd hsz hl hB =>
  u_pdqsort callees13u plain13 (b - a + 1) blk off cap a b limit d w (by omega) hH hb hab hbd hsz hl hB

theorem u_sort_eq (zs : List Int) : Sort.sort ltInt zs.toArray = (zs.mergeSort fun x y => decide (x ≤ y)).toArray := by
  rw [← sortInt zs]

theorem u_slices_Sort (blk off cap : Nat) (zs : List Int) (w : World) (hH : Holds (Value.int .u64) w blk off zs.toArray) (hblk : blk < w.heap.size) (hsz : zs.length < 4611686018427387904) :
    Calls Yba.prog 9 #[.slice (some ⟨blk, off, none⟩) zs.length cap] w fun e w' =>
      e = .returned (.tuple #[]) ∧ ∃ n os, w' = grow (putRow (Value.int .u64) (Sort.ahead w n) blk off (zs.mergeSort fun x y => decide (x ≤ y)).toArray) os := by
  have h := u_Sort pdqWalkUHolds blk off cap zs.toArray w hH hblk (by simpa using hsz)
  rw [u_sort_eq] at h
  simpa using h

theorem u_insertionSort_nil (p : Option Addr) (cap : Nat) (w : World) :
    Calls Yba.prog 17 #[.slice p 0 cap, .int .i64 0, .int .i64 0] w fun e w' => e = .returned (.tuple #[]) ∧ w' = w := by
  go_enter Yba.func17, Yba.ntmps17
  go_wp2
  refine wp_loop_rounds 1 ?_
  rw [rounds_succ]
  go_wp2
  go_end0
  exact ⟨rfl, rfl⟩

set_option maxRecDepth 100000 in
theorem u_pdqsort_nil (p : Option Addr) (cap : Nat) (w : World) :
    Calls Yba.prog 14 #[.slice p 0 cap, .int .i64 0, .int .i64 0, .int .i64 0] w fun e w' => e = .returned (.tuple #[]) ∧ w' = w := by
  go_enter Yba.func14, Yba.ntmps14
  go_wp2
  refine wp_loop_rounds 1 ?_
  rw [rounds_succ]
  go_wp2_with (first | (go_at_call 17; refine (u_insertionSort_nil p cap _).mono ?_; rintro e w' ⟨rfl, rfl⟩))
  refine bodyPost_ret (results_none rfl _ _ _) rfl ?_
  exact ⟨rfl, rfl⟩

set_option maxRecDepth 100000 in
theorem u_Sort_nil (p : Option Addr) (cap : Nat) (w : World) :
    Calls Yba.prog 9 #[.slice p 0 cap] w fun e w' => e = .returned (.tuple #[]) ∧ w' = w := by
  have hLen : ∀ w, Calls Yba.prog 15 #[.int .u64 0] w fun e w' => e = .returned (.int .i64 0) ∧ w' = w := fun w => u_bits_Len 0 w (by omega) (by omega)
  go_enter Yba.func9, Yba.ntmps9
  go_wp2_with (first
    | (go_at_call 15; refine (hLen _).mono ?_; rintro e w' ⟨rfl, rfl⟩)
    | (go_at_call 14; refine (u_pdqsort_nil p cap _).mono ?_; rintro e w' ⟨rfl, rfl⟩))
  go_end0
  exact ⟨rfl, rfl⟩
end Go.Proofs.Ybulkakgu.USort
