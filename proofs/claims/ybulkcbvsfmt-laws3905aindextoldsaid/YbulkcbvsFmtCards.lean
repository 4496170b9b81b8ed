/-
  DERIVED. GIVEN WITH THE SEED: THE CARDS: each row of YbulkcbvsFmtRows.lean that lists a variable, with what it lists TIED to the program's text (the seventh form; the later family's looks); each row that meets fmt, with fmt's text TOLD by the authors' own Lean function (tested against real Go, not proved from fmt's source: count such statements apart). THE CARD IS WHAT COUNTS. Prove the row's statement (the work); the ties are given (YbulkcbvsFmtTie.lean); close each card by the builder's one call (the guide's Derived/Test/ToyasCard.lean, 'card_holds'). Laid BY PROGRAM, IN A SANDBOX (cutbox-door.mjs). By AI agents, Wed Nov 11 2026. No macro, syntax, notation, axiom, sorry.
-/
import Derived.Test.YbulkcbvsFmtRows
import GoSem.ClaimSeven
namespace Go.Proofs.YbulkcbvsFmt
namespace Rows

/-- THE TOLD AND TIED CARD OF 'store.LawS3905AIndex'. -/
def lawS3905AIndexCard : Claim7 := { stood := { row := lawS3905AIndexRow, standIns := [], harness := (true, "e318a82bf872d4032dd1f36fd5c05def1f7d3fd6af517acfbf1684d5b2bf3839"), looks := true }, told := true, laidByText := true, laidKinds := [.sentinel], laidTests := true, laidLooks := .later, goes := false }
def LawS3905AIndexToldSaid : Prop := Claim7.holds Ybaf.pinned (.plain (OpenSpec.ofChange lawS3905AIndexSpec)) lawS3905AIndexCard
/-- ITS FALSE NEIGHBOUR. Refute it at one input. -/
def LawS3905AIndexToldWrongFalsely : Prop := Claim7.holds Ybaf.pinned (.plain (OpenSpec.ofChange lawS3905AIndexWrong)) lawS3905AIndexCard

/-- THE TOLD AND TIED CARD OF 'store.LawS3905ACounts'. -/
def lawS3905ACountsCard : Claim7 := { stood := { row := lawS3905ACountsRow, standIns := [], harness := (true, "e318a82bf872d4032dd1f36fd5c05def1f7d3fd6af517acfbf1684d5b2bf3839"), looks := true }, told := true, laidByText := true, laidKinds := [.sentinel], laidTests := true, laidLooks := .later, goes := false }
def LawS3905ACountsToldSaid : Prop := Claim7.holds Ybaf.pinned (.plain (OpenSpec.ofChange lawS3905ACountsSpec)) lawS3905ACountsCard
/-- ITS FALSE NEIGHBOUR. Refute it at one input. -/
def LawS3905ACountsToldWrongFalsely : Prop := Claim7.holds Ybaf.pinned (.plain (OpenSpec.ofChange lawS3905ACountsWrong)) lawS3905ACountsCard
end Rows
end Go.Proofs.YbulkcbvsFmt
