/-
  No cell of these rows narrows 'for every input' (looked for: loops, veiled, ifaces, maps, wideKeys, modest, calm, conditions, laid).
  DERIVED. THE GIVEN ROWS OF THIS SEAT. 2 by the template 'for every input the law returns true; each argument reads behind the call as it read before'; 0 by the template 'total and deterministic' (their statements: YbulkanuiTotals.lean).
  GIVEN WITH THE SEED: the statements are not yours to turn. If you find one false, say at which input.
  Laid BY PROGRAM, IN A SANDBOX (cutbox-rows.mjs): the forced cells as the released guide's own fill.sh prints them over the translation 2f83b619a9a5c4e2… (all of the seat's roots in one cut). By AI agents, Wed Nov 11 2026. No macro, syntax, notation, axiom, sorry.
-/
import Derived.Test.YbulkanuiChecked
import GoSem.Claim
import GoSem.ClaimJoined
import GoSem.ClaimMapViews
import Derived.JoinedTies
import Derived.KernelRfl
namespace Go.Proofs.Ybulkanui
/- THE CELL 'sum', in the pinned program and in every row, IS THE sha256 OF THE DUMP (.gsa) THAT YbulkanuiProg.lean LOADS. Nothing in Lean hashes anything: it is a label: what it is worth is what the hold of that sum in a sandbox is worth. -/
noncomputable def Yba.pinned : Pinned := { name := "ybulkanui", sum := "2f83b619a9a5c4e23f12d75e7c47969e8fb0e89e40ddbae9e2cfd4b7ef080838", checked := Yba.checked }
namespace Rows
def none {H : Type} : Left H := { results := [], args := [] }

/-- 'logqueue.LawS1971CTake': WHATEVER THE INPUT: true; the input reads as it did. -/
def lawS1971CTakeSpec : ChangeSpec := { name := "lawS1971CTake", fn := fun _ => fun
  | [d1, d2, d3, d4, d5, d6, d7] => { results := [.lit (.bool true)], args := [d1, d2, d3, d4, d5, d6, d7] }
  | _ => none }
def lawS1971CTakeRow : OpenClaim := { program := "ybulkanui", sum := "2f83b619a9a5c4e23f12d75e7c47969e8fb0e89e40ddbae9e2cfd4b7ef080838", func := "example.com/ledgerline/ledgerline/logqueue.LawS1971CTake", spec := "lawS1971CTake", apart := false }
def LawS1971CTakeSaid : Prop := lawS1971CTakeRow.holds Yba.pinned (OpenSpec.ofChange lawS1971CTakeSpec)

/-- ITS FALSE NEIGHBOUR: 'it returns false'. Refute it at one input. -/
def lawS1971CTakeWrong : ChangeSpec := { name := "lawS1971CTake", fn := fun _ => fun
  | [d1, d2, d3, d4, d5, d6, d7] => { results := [.lit (.bool false)], args := [d1, d2, d3, d4, d5, d6, d7] }
  | _ => none }
def LawS1971CTakeWrongFalsely : Prop := lawS1971CTakeRow.holds Yba.pinned (OpenSpec.ofChange lawS1971CTakeWrong)

/-- 'logqueue.LawS1971CSeq': WHATEVER THE INPUT: true; the input reads as it did. -/
def lawS1971CSeqSpec : ChangeSpec := { name := "lawS1971CSeq", fn := fun _ => fun
  | [d1, d2, d3] => { results := [.lit (.bool true)], args := [d1, d2, d3] }
  | _ => none }
def lawS1971CSeqRow : OpenClaim := { program := "ybulkanui", sum := "2f83b619a9a5c4e23f12d75e7c47969e8fb0e89e40ddbae9e2cfd4b7ef080838", func := "example.com/ledgerline/ledgerline/logqueue.LawS1971CSeq", spec := "lawS1971CSeq", apart := false }
def LawS1971CSeqSaid : Prop := lawS1971CSeqRow.holds Yba.pinned (OpenSpec.ofChange lawS1971CSeqSpec)

/-- ITS FALSE NEIGHBOUR: 'it returns false'. Refute it at one input. -/
def lawS1971CSeqWrong : ChangeSpec := { name := "lawS1971CSeq", fn := fun _ => fun
  | [d1, d2, d3] => { results := [.lit (.bool false)], args := [d1, d2, d3] }
  | _ => none }
def LawS1971CSeqWrongFalsely : Prop := lawS1971CSeqRow.holds Yba.pinned (OpenSpec.ofChange lawS1971CSeqWrong)

end Rows
end Go.Proofs.Ybulkanui
