/-
  No cell of these rows narrows 'for every input' (looked for: loops, veiled, ifaces, maps, wideKeys, modest, calm, conditions, laid).
  DERIVED. THE GIVEN ROWS OF THIS SEAT. 5 by the template 'for every input the law returns true; each argument reads behind the call as it read before'; 0 by the template 'total and deterministic' (their statements: YbulkakkoTotals.lean).
  GIVEN WITH THE SEED: the statements are not yours to turn. If you find one false, say at which input.
  Laid BY PROGRAM, IN A SANDBOX (cutbox-rows.mjs): the forced cells as the released guide's own fill.sh prints them over the translation 69ad6816401f2820… (all of the seat's roots in one cut). By AI agents, Wed Nov 11 2026. No macro, syntax, notation, axiom, sorry.
-/
import Derived.Test.YbulkakkoChecked
import GoSem.Claim
import GoSem.ClaimJoined
import GoSem.ClaimMapViews
import Derived.JoinedTies
import Derived.KernelRfl
namespace Go.Proofs.Ybulkakko
/- THE CELL 'sum', in the pinned program and in every row, IS THE sha256 OF THE DUMP (.gsa) THAT YbulkakkoProg.lean LOADS. Nothing in Lean hashes anything: it is a label: what it is worth is what the hold of that sum in a sandbox is worth. -/
noncomputable def Yba.pinned : Pinned := { name := "ybulkakko", sum := "69ad6816401f28209d592ba9c880583a57f8d8530739df009eb723c148da44fc", checked := Yba.checked }
namespace Rows
def none {H : Type} : Left H := { results := [], args := [] }

/-- 'woodrat.LawS1808AMembers': WHATEVER THE INPUT: true; the input reads as it did. -/
def lawS1808AMembersSpec : ChangeSpec := { name := "lawS1808AMembers", fn := fun _ => fun
  | [d1, d2, d3] => { results := [.lit (.bool true)], args := [d1, d2, d3] }
  | _ => none }
def lawS1808AMembersRow : OpenClaim := { program := "ybulkakko", sum := "69ad6816401f28209d592ba9c880583a57f8d8530739df009eb723c148da44fc", func := "example.com/woodrat/woodrat.LawS1808AMembers", spec := "lawS1808AMembers", unfollowed := true, recurses := true, plainKeys := false, apart := false }
def LawS1808AMembersSaid : Prop := lawS1808AMembersRow.holds Yba.pinned (OpenSpec.ofChange lawS1808AMembersSpec)

/-- ITS FALSE NEIGHBOUR: 'it returns false'. Refute it at one input. -/
def lawS1808AMembersWrong : ChangeSpec := { name := "lawS1808AMembers", fn := fun _ => fun
  | [d1, d2, d3] => { results := [.lit (.bool false)], args := [d1, d2, d3] }
  | _ => none }
def LawS1808AMembersWrongFalsely : Prop := lawS1808AMembersRow.holds Yba.pinned (OpenSpec.ofChange lawS1808AMembersWrong)

/-- 'woodrat.LawS1808AKeepsWhole': WHATEVER THE INPUT: true; the input reads as it did. -/
def lawS1808AKeepsWholeSpec : ChangeSpec := { name := "lawS1808AKeepsWhole", fn := fun _ => fun
  | [d1, d2, d3] => { results := [.lit (.bool true)], args := [d1, d2, d3] }
  | _ => none }
def lawS1808AKeepsWholeRow : OpenClaim := { program := "ybulkakko", sum := "69ad6816401f28209d592ba9c880583a57f8d8530739df009eb723c148da44fc", func := "example.com/woodrat/woodrat.LawS1808AKeepsWhole", spec := "lawS1808AKeepsWhole", unfollowed := true, recurses := true, plainKeys := false, apart := false }
def LawS1808AKeepsWholeSaid : Prop := lawS1808AKeepsWholeRow.holds Yba.pinned (OpenSpec.ofChange lawS1808AKeepsWholeSpec)

/-- ITS FALSE NEIGHBOUR: 'it returns false'. Refute it at one input. -/
def lawS1808AKeepsWholeWrong : ChangeSpec := { name := "lawS1808AKeepsWhole", fn := fun _ => fun
  | [d1, d2, d3] => { results := [.lit (.bool false)], args := [d1, d2, d3] }
  | _ => none }
def LawS1808AKeepsWholeWrongFalsely : Prop := lawS1808AKeepsWholeRow.holds Yba.pinned (OpenSpec.ofChange lawS1808AKeepsWholeWrong)

/-- 'woodrat.LawS1808BSpendOnce': WHATEVER THE INPUT: true; the input reads as it did. -/
def lawS1808BSpendOnceSpec : ChangeSpec := { name := "lawS1808BSpendOnce", fn := fun _ => fun
  | [d1, d2, d3, d4, d5, d6, d7, d8, d9, d10] => { results := [.lit (.bool true)], args := [d1, d2, d3, d4, d5, d6, d7, d8, d9, d10] }
  | _ => none }
def lawS1808BSpendOnceRow : OpenClaim := { program := "ybulkakko", sum := "69ad6816401f28209d592ba9c880583a57f8d8530739df009eb723c148da44fc", func := "example.com/woodrat/woodrat.LawS1808BSpendOnce", spec := "lawS1808BSpendOnce", plainKeys := false, apart := false }
def LawS1808BSpendOnceSaid : Prop := lawS1808BSpendOnceRow.holds Yba.pinned (OpenSpec.ofChange lawS1808BSpendOnceSpec)

/-- ITS FALSE NEIGHBOUR: 'it returns false'. Refute it at one input. -/
def lawS1808BSpendOnceWrong : ChangeSpec := { name := "lawS1808BSpendOnce", fn := fun _ => fun
  | [d1, d2, d3, d4, d5, d6, d7, d8, d9, d10] => { results := [.lit (.bool false)], args := [d1, d2, d3, d4, d5, d6, d7, d8, d9, d10] }
  | _ => none }
def LawS1808BSpendOnceWrongFalsely : Prop := lawS1808BSpendOnceRow.holds Yba.pinned (OpenSpec.ofChange lawS1808BSpendOnceWrong)

/-- 'woodrat.LawS1808BSpendSequence': WHATEVER THE INPUT: true; the input reads as it did. -/
def lawS1808BSpendSequenceSpec : ChangeSpec := { name := "lawS1808BSpendSequence", fn := fun _ => fun
  | [d] => { results := [.lit (.bool true)], args := [d] }
  | _ => none }
def lawS1808BSpendSequenceRow : OpenClaim := { program := "ybulkakko", sum := "69ad6816401f28209d592ba9c880583a57f8d8530739df009eb723c148da44fc", func := "example.com/woodrat/woodrat.LawS1808BSpendSequence", spec := "lawS1808BSpendSequence", plainKeys := false, apart := false }
def LawS1808BSpendSequenceSaid : Prop := lawS1808BSpendSequenceRow.holds Yba.pinned (OpenSpec.ofChange lawS1808BSpendSequenceSpec)

/-- ITS FALSE NEIGHBOUR: 'it returns false'. Refute it at one input. -/
def lawS1808BSpendSequenceWrong : ChangeSpec := { name := "lawS1808BSpendSequence", fn := fun _ => fun
  | [d] => { results := [.lit (.bool false)], args := [d] }
  | _ => none }
def LawS1808BSpendSequenceWrongFalsely : Prop := lawS1808BSpendSequenceRow.holds Yba.pinned (OpenSpec.ofChange lawS1808BSpendSequenceWrong)

/-- 'woodrat.LawS1808CWithin': WHATEVER THE INPUT: true; the input reads as it did. -/
def lawS1808CWithinSpec : ChangeSpec := { name := "lawS1808CWithin", fn := fun _ => fun
  | [d1, d2, d3, d4, d5, d6, d7] => { results := [.lit (.bool true)], args := [d1, d2, d3, d4, d5, d6, d7] }
  | _ => none }
def lawS1808CWithinRow : OpenClaim := { program := "ybulkakko", sum := "69ad6816401f28209d592ba9c880583a57f8d8530739df009eb723c148da44fc", func := "example.com/woodrat/woodrat.LawS1808CWithin", spec := "lawS1808CWithin", unfollowed := true, recurses := true, plainKeys := false, apart := false }
def LawS1808CWithinSaid : Prop := lawS1808CWithinRow.holds Yba.pinned (OpenSpec.ofChange lawS1808CWithinSpec)

/-- ITS FALSE NEIGHBOUR: 'it returns false'. Refute it at one input. -/
def lawS1808CWithinWrong : ChangeSpec := { name := "lawS1808CWithin", fn := fun _ => fun
  | [d1, d2, d3, d4, d5, d6, d7] => { results := [.lit (.bool false)], args := [d1, d2, d3, d4, d5, d6, d7] }
  | _ => none }
def LawS1808CWithinWrongFalsely : Prop := lawS1808CWithinRow.holds Yba.pinned (OpenSpec.ofChange lawS1808CWithinWrong)

end Rows
end Go.Proofs.Ybulkakko
