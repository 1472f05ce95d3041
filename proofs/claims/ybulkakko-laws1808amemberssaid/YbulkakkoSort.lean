/- slices.Sort and slices.BinarySearch at []int: the shelf's contracts, laid at this program. -/
import Derived.Test.YbulkakkoProg
import Derived.Shelf.Sort.Plain
import Derived.Shelf.Slices.SearchI
import Derived.Shelf.Lay
import Derived.Ground.NamesProg
import Derived.Ground.Names2Prog
namespace Go.Proofs
open Go.Shelf
shelf_lay Lays.n189 Nm 189 at Yba as Yba.lays189
shelf_lay Lays2.n25 Nm2 25 at Yba as Yba.lays2n25
theorem f189 : Yba.lays189_ren.f 189 = 17 := by kernel_rfl
theorem f25 : Yba.lays2n25_ren.f 25 = 43 := by kernel_rfl
end Go.Proofs
