/-
  DERIVED. GIVEN WITH THE SEED: THE CARDS: each row of YbulkantgFmtRows.lean that lists a variable, with what it lists TIED to the program's text (the seventh form; the later family's looks); each row that meets fmt, with fmt's text TOLD by the authors' own Lean function (tested against real Go, not proved from fmt's source: count such statements apart). THE CARD IS WHAT COUNTS. Prove the row's statement (the work); the ties are given (YbulkantgFmtTie.lean); close each card by the builder's one call (the guide's Derived/Test/ToyasCard.lean, 'card_holds'). Laid BY PROGRAM, IN A SANDBOX (cutbox-door.mjs). By AI agents, Wed Nov 11 2026. No macro, syntax, notation, axiom, sorry.
-/
import Derived.Test.YbulkantgFmtRows
import GoSem.ClaimSeven
namespace Go.Proofs.YbulkantgFmt
namespace Rows

/-- THE TOLD AND TIED CARD OF 'serialgraph.LawS1969BRefuses'. -/
def lawS1969BRefusesCard : Claim7 := { stood := { row := lawS1969BRefusesRow, standIns := [], harness := (true, "2634d551c3ec64a02e5835caec95084ff5cd76b54a10e7d470a39f73a7e26ecd"), looks := false }, told := true, laidByText := true, laidKinds := [.data, .data, .data, .wider], laidTests := true, laidLooks := .later, goes := false }
def LawS1969BRefusesToldSaid : Prop := Claim7.holds Ybaf.pinned (.plain (OpenSpec.ofChange lawS1969BRefusesSpec)) lawS1969BRefusesCard
/-- ITS FALSE NEIGHBOUR. Refute it at one input. -/
def LawS1969BRefusesToldWrongFalsely : Prop := Claim7.holds Ybaf.pinned (.plain (OpenSpec.ofChange lawS1969BRefusesWrong)) lawS1969BRefusesCard

/-- THE TOLD AND TIED CARD OF 'serialgraph.LawS1969BKnownSets'. -/
def lawS1969BKnownSetsCard : Claim7 := { stood := { row := lawS1969BKnownSetsRow, standIns := [], harness := (true, "2634d551c3ec64a02e5835caec95084ff5cd76b54a10e7d470a39f73a7e26ecd"), looks := false }, told := true, laidByText := true, laidKinds := [.data, .data, .data, .wider], laidTests := true, laidLooks := .later, goes := false }
def LawS1969BKnownSetsToldSaid : Prop := Claim7.holds Ybaf.pinned (.plain (OpenSpec.ofChange lawS1969BKnownSetsSpec)) lawS1969BKnownSetsCard
/-- ITS FALSE NEIGHBOUR. Refute it at one input. -/
def LawS1969BKnownSetsToldWrongFalsely : Prop := Claim7.holds Ybaf.pinned (.plain (OpenSpec.ofChange lawS1969BKnownSetsWrong)) lawS1969BKnownSetsCard
end Rows
end Go.Proofs.YbulkantgFmt
