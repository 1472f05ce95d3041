/-
  No cell of these rows narrows 'for every input' (looked for: loops, veiled, ifaces, maps, wideKeys, modest, calm, conditions, laid).
  DERIVED. THE GIVEN ROWS OF THIS SEAT. 2 by the template 'for every input the law returns true; each argument reads behind the call as it read before'; 0 by the template 'total and deterministic' (their statements: YbulkakikTotals.lean).
  GIVEN WITH THE SEED: the statements are not yours to turn. If you find one false, say at which input.
  Laid BY PROGRAM, IN A SANDBOX (cutbox-rows.mjs): the forced cells as the released guide's own fill.sh prints them over the translation 23ff2ea3529ce5d3… (all of the seat's roots in one cut). By AI agents, Wed Nov 11 2026. No macro, syntax, notation, axiom, sorry.
-/
import Derived.Test.YbulkakikChecked
import GoSem.Claim
import GoSem.ClaimJoined
import GoSem.ClaimMapViews
import Derived.JoinedTies
import Derived.KernelRfl
namespace Go.Proofs.Ybulkakik
/- THE CELL 'sum', in the pinned program and in every row, IS THE sha256 OF THE DUMP (.gsa) THAT YbulkakikProg.lean LOADS. Nothing in Lean hashes anything: it is a label: what it is worth is what the hold of that sum in a sandbox is worth. -/
noncomputable def Yba.pinned : Pinned := { name := "ybulkakik", sum := "23ff2ea3529ce5d38c3bf7db77f7ff509779c5c9e9373c29e0b52e9e2ea8ce30", checked := Yba.checked }
namespace Rows
def none {H : Type} : Left H := { results := [], args := [] }

/-- 'gb50343.LawS1804BPicks': WHATEVER THE INPUT: true; the input reads as it did. -/
def lawS1804BPicksSpec : ChangeSpec := { name := "lawS1804BPicks", fn := fun _ => fun
  | [d1, d2] => { results := [.lit (.bool true)], args := [d1, d2] }
  | _ => none }
def lawS1804BPicksRow : OpenClaim := { program := "ybulkakik", sum := "23ff2ea3529ce5d38c3bf7db77f7ff509779c5c9e9373c29e0b52e9e2ea8ce30", func := "example.com/keraunic/keraunic/pkg/gb50343.LawS1804BPicks", spec := "lawS1804BPicks", inPlace := ["math.Float64bits"], unfollowed := true, recurses := true, apart := false }
def LawS1804BPicksSaid : Prop := lawS1804BPicksRow.holds Yba.pinned (OpenSpec.ofChange lawS1804BPicksSpec)

/-- ITS FALSE NEIGHBOUR: 'it returns false'. Refute it at one input. -/
def lawS1804BPicksWrong : ChangeSpec := { name := "lawS1804BPicks", fn := fun _ => fun
  | [d1, d2] => { results := [.lit (.bool false)], args := [d1, d2] }
  | _ => none }
def LawS1804BPicksWrongFalsely : Prop := lawS1804BPicksRow.holds Yba.pinned (OpenSpec.ofChange lawS1804BPicksWrong)

/-- 'gb50343.LawS1804BMonotone': WHATEVER THE INPUT: true; the input reads as it did. -/
def lawS1804BMonotoneSpec : ChangeSpec := { name := "lawS1804BMonotone", fn := fun _ => fun
  | [d1, d2, d3, d4] => { results := [.lit (.bool true)], args := [d1, d2, d3, d4] }
  | _ => none }
def lawS1804BMonotoneRow : OpenClaim := { program := "ybulkakik", sum := "23ff2ea3529ce5d38c3bf7db77f7ff509779c5c9e9373c29e0b52e9e2ea8ce30", func := "example.com/keraunic/keraunic/pkg/gb50343.LawS1804BMonotone", spec := "lawS1804BMonotone", unfollowed := true, recurses := true, apart := false }
def LawS1804BMonotoneSaid : Prop := lawS1804BMonotoneRow.holds Yba.pinned (OpenSpec.ofChange lawS1804BMonotoneSpec)

/-- ITS FALSE NEIGHBOUR: 'it returns false'. Refute it at one input. -/
def lawS1804BMonotoneWrong : ChangeSpec := { name := "lawS1804BMonotone", fn := fun _ => fun
  | [d1, d2, d3, d4] => { results := [.lit (.bool false)], args := [d1, d2, d3, d4] }
  | _ => none }
def LawS1804BMonotoneWrongFalsely : Prop := lawS1804BMonotoneRow.holds Yba.pinned (OpenSpec.ofChange lawS1804BMonotoneWrong)

end Rows
end Go.Proofs.Ybulkakik
