/-
  DERIVED. GIVEN WITH THE SEED: THE CARDS: each row of YbulkcbucDoorRows.lean that lists a variable, with what it lists TIED to the program's text (the seventh form; the later family's looks); each row that meets fmt, with fmt's text TOLD by the authors' own Lean function (tested against real Go, not proved from fmt's source: count such statements apart). THE CARD IS WHAT COUNTS. Prove the row's statement (the work); the ties are given (YbulkcbucDoorTie.lean); close each card by the builder's one call (the guide's Derived/Test/ToyasCard.lean, 'card_holds'). Laid BY PROGRAM, IN A SANDBOX (cutbox-door.mjs). By AI agents, Wed Nov 11 2026. No macro, syntax, notation, axiom, sorry.
-/
import Derived.Test.YbulkcbucDoorRows
import GoSem.ClaimSeven
namespace Go.Proofs.YbulkcbucDoor
namespace Rows

/-- THE TIED CARD OF 'synthmarket.LawS3902AOneDraw'. -/
def lawS3902AOneDrawCard : Claim7 := { stood := { row := lawS3902AOneDrawRow, standIns := [], harness := (true, "6104c0b4e87ab2a7491af81c1baf3fefd0794b25b625c538eeafab3cf74b43c1"), looks := false }, kinds := [], alts := [], laidByText := true, laidKinds := [.data], laidTests := true, laidLooks := .later }
def LawS3902AOneDrawCardSaid : Prop := Claim7.holds Ybad.pinned (.plain (OpenSpec.ofChange lawS3902AOneDrawSpec)) lawS3902AOneDrawCard

/-- THE TIED CARD OF 'synthmarket.LawS3902AStream'. -/
def lawS3902AStreamCard : Claim7 := { stood := { row := lawS3902AStreamRow, standIns := [], harness := (true, "6104c0b4e87ab2a7491af81c1baf3fefd0794b25b625c538eeafab3cf74b43c1"), looks := false }, kinds := [], alts := [], laidByText := true, laidKinds := [.data], laidTests := true, laidLooks := .later }
def LawS3902AStreamCardSaid : Prop := Claim7.holds Ybad.pinned (.plain (OpenSpec.ofChange lawS3902AStreamSpec)) lawS3902AStreamCard
end Rows
end Go.Proofs.YbulkcbucDoor
