/-
  DERIVED. GIVEN WITH THE SEED: THE CARDS: each row of YbulkantuFmtRows.lean that lists a variable, with what it lists TIED to the program's text (the seventh form; the later family's looks); each row that meets fmt, with fmt's text TOLD by the authors' own Lean function (tested against real Go, not proved from fmt's source: count such statements apart). THE CARD IS WHAT COUNTS. Prove the row's statement (the work); the ties are given (YbulkantuFmtTie.lean); close each card by the builder's one call (the guide's Derived/Test/ToyasCard.lean, 'card_holds'). Laid BY PROGRAM, IN A SANDBOX (cutbox-door.mjs). By AI agents, Wed Nov 11 2026. No macro, syntax, notation, axiom, sorry.
-/
import Derived.Test.YbulkantuFmtRows
import GoSem.ClaimSeven
namespace Go.Proofs.YbulkantuFmt
namespace Rows

/-- THE TOLD AND TIED CARD OF 'syncline.LawS1970BTake'. -/
def lawS1970BTakeCard : Claim7 := { stood := { row := lawS1970BTakeRow, standIns := [], harness := (true, "cb94f6c8521add7e86e7166c209aae8ee056b5929f17087fecc6c896ebbadd3d"), looks := false }, told := true, laidByText := true, laidKinds := [.sentinel], laidTests := true, laidLooks := .later, goes := false }
def LawS1970BTakeToldSaid : Prop := Claim7.holds Ybaf.pinned (.plain (OpenSpec.ofChange lawS1970BTakeSpec)) lawS1970BTakeCard
/-- ITS FALSE NEIGHBOUR. Refute it at one input. -/
def LawS1970BTakeToldWrongFalsely : Prop := Claim7.holds Ybaf.pinned (.plain (OpenSpec.ofChange lawS1970BTakeWrong)) lawS1970BTakeCard
end Rows
end Go.Proofs.YbulkantuFmt
