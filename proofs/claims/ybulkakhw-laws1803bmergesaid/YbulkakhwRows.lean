/-
  No cell of these rows narrows 'for every input' (looked for: loops, veiled, ifaces, maps, wideKeys, modest, calm, conditions, laid).
  DERIVED. THE GIVEN ROWS OF THIS SEAT. 2 by the template 'for every input the law returns true; each argument reads behind the call as it read before'; 0 by the template 'total and deterministic' (their statements: YbulkakhwTotals.lean).
  GIVEN WITH THE SEED: the statements are not yours to turn. If you find one false, say at which input.
  Laid BY PROGRAM, IN A SANDBOX (cutbox-rows.mjs): the forced cells as the released guide's own fill.sh prints them over the translation b348692df8c094bd… (all of the seat's roots in one cut). By AI agents, Wed Nov 11 2026. No macro, syntax, notation, axiom, sorry.
-/
import Derived.Test.YbulkakhwChecked
import GoSem.Claim
import GoSem.ClaimJoined
import GoSem.ClaimMapViews
import Derived.JoinedTies
import Derived.KernelRfl
namespace Go.Proofs.Ybulkakhw
/- THE CELL 'sum', in the pinned program and in every row, IS THE sha256 OF THE DUMP (.gsa) THAT YbulkakhwProg.lean LOADS. Nothing in Lean hashes anything: it is a label: what it is worth is what the hold of that sum in a sandbox is worth. -/
noncomputable def Yba.pinned : Pinned := { name := "ybulkakhw", sum := "b348692df8c094bd88ad9603e52f95d8697ffaf75c4a84f65fc6de078fc327e6", checked := Yba.checked }
namespace Rows
def none {H : Type} : Left H := { results := [], args := [] }

/-- 'headnote.LawS1803BMerge': WHATEVER THE INPUT: true; the input reads as it did. -/
def lawS1803BMergeSpec : ChangeSpec := { name := "lawS1803BMerge", fn := fun _ => fun
  | [d1, d2, d3] => { results := [.lit (.bool true)], args := [d1, d2, d3] }
  | _ => none }
def lawS1803BMergeRow : OpenClaim := { program := "ybulkakhw", sum := "b348692df8c094bd88ad9603e52f95d8697ffaf75c4a84f65fc6de078fc327e6", func := "example.com/headnote/headnote.LawS1803BMerge", spec := "lawS1803BMerge", plainKeys := false, apart := false }
def LawS1803BMergeSaid : Prop := lawS1803BMergeRow.holds Yba.pinned (OpenSpec.ofChange lawS1803BMergeSpec)

/-- ITS FALSE NEIGHBOUR: 'it returns false'. Refute it at one input. -/
def lawS1803BMergeWrong : ChangeSpec := { name := "lawS1803BMerge", fn := fun _ => fun
  | [d1, d2, d3] => { results := [.lit (.bool false)], args := [d1, d2, d3] }
  | _ => none }
def LawS1803BMergeWrongFalsely : Prop := lawS1803BMergeRow.holds Yba.pinned (OpenSpec.ofChange lawS1803BMergeWrong)

/-- 'headnote.LawS1803BRefuse': WHATEVER THE INPUT: true; the input reads as it did. -/
def lawS1803BRefuseSpec : ChangeSpec := { name := "lawS1803BRefuse", fn := fun _ => fun
  | [d1, d2, d3, d4] => { results := [.lit (.bool true)], args := [d1, d2, d3, d4] }
  | _ => none }
def lawS1803BRefuseRow : OpenClaim := { program := "ybulkakhw", sum := "b348692df8c094bd88ad9603e52f95d8697ffaf75c4a84f65fc6de078fc327e6", func := "example.com/headnote/headnote.LawS1803BRefuse", spec := "lawS1803BRefuse", plainKeys := false, apart := false }
def LawS1803BRefuseSaid : Prop := lawS1803BRefuseRow.holds Yba.pinned (OpenSpec.ofChange lawS1803BRefuseSpec)

/-- ITS FALSE NEIGHBOUR: 'it returns false'. Refute it at one input. -/
def lawS1803BRefuseWrong : ChangeSpec := { name := "lawS1803BRefuse", fn := fun _ => fun
  | [d1, d2, d3, d4] => { results := [.lit (.bool false)], args := [d1, d2, d3, d4] }
  | _ => none }
def LawS1803BRefuseWrongFalsely : Prop := lawS1803BRefuseRow.holds Yba.pinned (OpenSpec.ofChange lawS1803BRefuseWrong)

end Rows
end Go.Proofs.Ybulkakhw
