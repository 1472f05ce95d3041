/-
  No cell of these rows narrows 'for every input' (looked for: loops, veiled, ifaces, maps, wideKeys, modest, calm, conditions, laid).
  DERIVED. THE GIVEN ROWS OF THIS SEAT. 2 by the template 'for every input the law returns true; each argument reads behind the call as it read before'; 0 by the template 'total and deterministic' (their statements: YbulkakguTotals.lean).
  GIVEN WITH THE SEED: the statements are not yours to turn. If you find one false, say at which input.
  Laid BY PROGRAM, IN A SANDBOX (cutbox-rows.mjs): the forced cells as the released guide's own fill.sh prints them over the translation a8211b7b5ba38fcf… (all of the seat's roots in one cut). By AI agents, Wed Nov 11 2026. No macro, syntax, notation, axiom, sorry.
-/
import Derived.Test.YbulkakguChecked
import GoSem.Claim
import GoSem.ClaimJoined
import GoSem.ClaimMapViews
import Derived.JoinedTies
import Derived.KernelRfl
namespace Go.Proofs.Ybulkakgu
/- THE CELL 'sum', in the pinned program and in every row, IS THE sha256 OF THE DUMP (.gsa) THAT YbulkakguProg.lean LOADS. Nothing in Lean hashes anything: it is a label: what it is worth is what the hold of that sum in a sandbox is worth. -/
noncomputable def Yba.pinned : Pinned := { name := "ybulkakgu", sum := "a8211b7b5ba38fcf839bf10d2767dc05299a28b1d91f51d221b04bcb90b400d0", checked := Yba.checked }
namespace Rows
def none {H : Type} : Left H := { results := [], args := [] }

/-- 'store.LawS1801BLowerBound': WHATEVER THE INPUT: true; the input reads as it did. -/
def lawS1801BLowerBoundSpec : ChangeSpec := { name := "lawS1801BLowerBound", fn := fun _ => fun
  | [d1, d2] => { results := [.lit (.bool true)], args := [d1, d2] }
  | _ => none }
def lawS1801BLowerBoundRow : OpenClaim := { program := "ybulkakgu", sum := "a8211b7b5ba38fcf839bf10d2767dc05299a28b1d91f51d221b04bcb90b400d0", func := "example.com/gapkeeper/gapkeeper/internal/store.LawS1801BLowerBound", spec := "lawS1801BLowerBound", unfollowed := true, recurses := true, plainKeys := false, apart := false }
def LawS1801BLowerBoundSaid : Prop := lawS1801BLowerBoundRow.holds Yba.pinned (OpenSpec.ofChange lawS1801BLowerBoundSpec)

/-- ITS FALSE NEIGHBOUR: 'it returns false'. Refute it at one input. -/
def lawS1801BLowerBoundWrong : ChangeSpec := { name := "lawS1801BLowerBound", fn := fun _ => fun
  | [d1, d2] => { results := [.lit (.bool false)], args := [d1, d2] }
  | _ => none }
def LawS1801BLowerBoundWrongFalsely : Prop := lawS1801BLowerBoundRow.holds Yba.pinned (OpenSpec.ofChange lawS1801BLowerBoundWrong)

/-- 'store.LawS1801BBetween': WHATEVER THE INPUT: true; the input reads as it did. -/
def lawS1801BBetweenSpec : ChangeSpec := { name := "lawS1801BBetween", fn := fun _ => fun
  | [d1, d2, d3] => { results := [.lit (.bool true)], args := [d1, d2, d3] }
  | _ => none }
def lawS1801BBetweenRow : OpenClaim := { program := "ybulkakgu", sum := "a8211b7b5ba38fcf839bf10d2767dc05299a28b1d91f51d221b04bcb90b400d0", func := "example.com/gapkeeper/gapkeeper/internal/store.LawS1801BBetween", spec := "lawS1801BBetween", unfollowed := true, recurses := true, plainKeys := false, apart := false }
def LawS1801BBetweenSaid : Prop := lawS1801BBetweenRow.holds Yba.pinned (OpenSpec.ofChange lawS1801BBetweenSpec)

/-- ITS FALSE NEIGHBOUR: 'it returns false'. Refute it at one input. -/
def lawS1801BBetweenWrong : ChangeSpec := { name := "lawS1801BBetween", fn := fun _ => fun
  | [d1, d2, d3] => { results := [.lit (.bool false)], args := [d1, d2, d3] }
  | _ => none }
def LawS1801BBetweenWrongFalsely : Prop := lawS1801BBetweenRow.holds Yba.pinned (OpenSpec.ofChange lawS1801BBetweenWrong)

end Rows
end Go.Proofs.Ybulkakgu
