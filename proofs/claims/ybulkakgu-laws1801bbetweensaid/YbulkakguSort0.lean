/-
  slices.Sort at uint64 over this program: cmp.isNaN, cmp.Less (the walk of the kit at int, Derived/Sort, turned to this program, its numbers and the element kind u64).
-/
import Derived.Test.YbulkakguProg
import Derived.Sort.Walk0
import Derived.Sort.WalkB12
namespace Go.Proofs.Ybulkakgu.USort
open Go.Sort Go.RowKit
abbrev encU : Int → Value := fun x => Value.int .u64 x
set_option maxHeartbeats 1000000 in
theorem u_cmp_isNaN (x : Int) (w : World) : Calls Yba.prog 16 #[.int .u64 x] w fun e w' => e = .returned (.bool false) ∧ w' = w := by
  go_enter Yba.func16, Yba.ntmps16
  go_wp2
  go_ret
  exact ⟨by simp, rfl⟩

set_option maxHeartbeats 1000000 in
theorem u_cmp_Less (x y : Int) (w : World) : Calls Yba.prog 23 #[.int .u64 x, .int .u64 y] w fun e w' => e = .returned (.bool (Sort.ltInt x y)) ∧ w' = w := by
  go_enter Yba.func23, Yba.ntmps23
  go_wp2_with (go_at_call 16; refine (u_cmp_isNaN _ _).mono ?_; rintro e w' ⟨rfl, rfl⟩)
  go_ret
  exact ⟨rfl, rfl⟩
end Go.Proofs.Ybulkakgu.USort
