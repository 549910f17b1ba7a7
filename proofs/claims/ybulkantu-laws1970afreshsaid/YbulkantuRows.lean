/-
  No cell of these rows narrows 'for every input' (looked for: loops, veiled, ifaces, maps, wideKeys, modest, calm, conditions, laid).
  DERIVED. THE GIVEN ROWS OF THIS SEAT. 2 by the template 'for every input the law returns true; each argument reads behind the call as it read before'; 0 by the template 'total and deterministic' (their statements: YbulkantuTotals.lean).
  GIVEN WITH THE SEED: the statements are not yours to turn. If you find one false, say at which input.
  Laid BY PROGRAM, IN A SANDBOX (cutbox-rows.mjs): the forced cells as the released guide's own fill.sh prints them over the translation f4ac4418d8dd0823… (all of the seat's roots in one cut). By AI agents, Wed Nov 11 2026. No macro, syntax, notation, axiom, sorry.
-/
import Derived.Test.YbulkantuChecked
import GoSem.Claim
import GoSem.ClaimJoined
import GoSem.ClaimMapViews
import Derived.JoinedTies
import Derived.KernelRfl
namespace Go.Proofs.Ybulkantu
/- THE CELL 'sum', in the pinned program and in every row, IS THE sha256 OF THE DUMP (.gsa) THAT YbulkantuProg.lean LOADS. Nothing in Lean hashes anything: it is a label: what it is worth is what the hold of that sum in a sandbox is worth. -/
noncomputable def Yba.pinned : Pinned := { name := "ybulkantu", sum := "f4ac4418d8dd08238fd755206ef84f6a0dd194ab0cbfcf14574db08da2ed4852", checked := Yba.checked }
namespace Rows
def none {H : Type} : Left H := { results := [], args := [] }

/-- 'syncline.LawS1970AFresh': WHATEVER THE INPUT: true; the input reads as it did. -/
def lawS1970AFreshSpec : ChangeSpec := { name := "lawS1970AFresh", fn := fun _ => fun
  | [d1, d2] => { results := [.lit (.bool true)], args := [d1, d2] }
  | _ => none }
def lawS1970AFreshRow : OpenClaim := { program := "ybulkantu", sum := "f4ac4418d8dd08238fd755206ef84f6a0dd194ab0cbfcf14574db08da2ed4852", func := "example.com/syncline/syncline.LawS1970AFresh", spec := "lawS1970AFresh", plainKeys := false, apart := false }
def LawS1970AFreshSaid : Prop := lawS1970AFreshRow.holds Yba.pinned (OpenSpec.ofChange lawS1970AFreshSpec)

/-- ITS FALSE NEIGHBOUR: 'it returns false'. Refute it at one input. -/
def lawS1970AFreshWrong : ChangeSpec := { name := "lawS1970AFresh", fn := fun _ => fun
  | [d1, d2] => { results := [.lit (.bool false)], args := [d1, d2] }
  | _ => none }
def LawS1970AFreshWrongFalsely : Prop := lawS1970AFreshRow.holds Yba.pinned (OpenSpec.ofChange lawS1970AFreshWrong)

/-- 'syncline.LawS1970AReadsThrough': WHATEVER THE INPUT: true; the input reads as it did. -/
def lawS1970AReadsThroughSpec : ChangeSpec := { name := "lawS1970AReadsThrough", fn := fun _ => fun
  | [d1, d2, d3] => { results := [.lit (.bool true)], args := [d1, d2, d3] }
  | _ => none }
def lawS1970AReadsThroughRow : OpenClaim := { program := "ybulkantu", sum := "f4ac4418d8dd08238fd755206ef84f6a0dd194ab0cbfcf14574db08da2ed4852", func := "example.com/syncline/syncline.LawS1970AReadsThrough", spec := "lawS1970AReadsThrough", plainKeys := false, apart := false }
def LawS1970AReadsThroughSaid : Prop := lawS1970AReadsThroughRow.holds Yba.pinned (OpenSpec.ofChange lawS1970AReadsThroughSpec)

/-- ITS FALSE NEIGHBOUR: 'it returns false'. Refute it at one input. -/
def lawS1970AReadsThroughWrong : ChangeSpec := { name := "lawS1970AReadsThrough", fn := fun _ => fun
  | [d1, d2, d3] => { results := [.lit (.bool false)], args := [d1, d2, d3] }
  | _ => none }
def LawS1970AReadsThroughWrongFalsely : Prop := lawS1970AReadsThroughRow.holds Yba.pinned (OpenSpec.ofChange lawS1970AReadsThroughWrong)

end Rows
end Go.Proofs.Ybulkantu
