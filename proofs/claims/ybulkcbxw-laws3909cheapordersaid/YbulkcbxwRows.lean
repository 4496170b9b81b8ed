/-
  No cell of these rows narrows 'for every input' (looked for: loops, veiled, ifaces, maps, wideKeys, modest, calm, conditions, laid).
  DERIVED. THE GIVEN ROWS OF THIS SEAT. 2 by the template 'for every input the law returns true; each argument reads behind the call as it read before'; 0 by the template 'total and deterministic' (their statements: YbulkcbxwTotals.lean).
  GIVEN WITH THE SEED: the statements are not yours to turn. If you find one false, say at which input.
  Laid BY PROGRAM, IN A SANDBOX (cutbox-rows.mjs): the forced cells as the released guide's own fill.sh prints them over the translation 702e78f7e683f646… (all of the seat's roots in one cut). By AI agents, Wed Nov 11 2026. No macro, syntax, notation, axiom, sorry.
-/
import Derived.Test.YbulkcbxwChecked
import GoSem.Claim
import GoSem.ClaimJoined
import GoSem.ClaimMapViews
import Derived.JoinedTies
import Derived.KernelRfl
namespace Go.Proofs.Ybulkcbxw
/- THE CELL 'sum', in the pinned program and in every row, IS THE sha256 OF THE DUMP (.gsa) THAT YbulkcbxwProg.lean LOADS. Nothing in Lean hashes anything: it is a label: what it is worth is what the hold of that sum in a sandbox is worth. -/
noncomputable def Yba.pinned : Pinned := { name := "ybulkcbxw", sum := "702e78f7e683f646693a12451853d6ff44f397cf1edcb893511bcc8fbf889e70", checked := Yba.checked }
namespace Rows
def none {H : Type} : Left H := { results := [], args := [] }

/-- 'sim.LawS3909CLast': WHATEVER THE INPUT: true; the input reads as it did. -/
def lawS3909CLastSpec : ChangeSpec := { name := "lawS3909CLast", fn := fun _ => fun
  | [d1, d2, d3] => { results := [.lit (.bool true)], args := [d1, d2, d3] }
  | _ => none }
def lawS3909CLastRow : OpenClaim := { program := "ybulkcbxw", sum := "702e78f7e683f646693a12451853d6ff44f397cf1edcb893511bcc8fbf889e70", func := "example.com/uneven-load/uneven-load/pkg/sim.LawS3909CLast", spec := "lawS3909CLast", apart := false }
def LawS3909CLastSaid : Prop := lawS3909CLastRow.holds Yba.pinned (OpenSpec.ofChange lawS3909CLastSpec)

/-- ITS FALSE NEIGHBOUR: 'it returns false'. Refute it at one input. -/
def lawS3909CLastWrong : ChangeSpec := { name := "lawS3909CLast", fn := fun _ => fun
  | [d1, d2, d3] => { results := [.lit (.bool false)], args := [d1, d2, d3] }
  | _ => none }
def LawS3909CLastWrongFalsely : Prop := lawS3909CLastRow.holds Yba.pinned (OpenSpec.ofChange lawS3909CLastWrong)

/-- 'sim.LawS3909CHeapOrder': WHATEVER THE INPUT: true; the input reads as it did. -/
def lawS3909CHeapOrderSpec : ChangeSpec := { name := "lawS3909CHeapOrder", fn := fun _ => fun
  | [d] => { results := [.lit (.bool true)], args := [d] }
  | _ => none }
def lawS3909CHeapOrderRow : OpenClaim := { program := "ybulkcbxw", sum := "702e78f7e683f646693a12451853d6ff44f397cf1edcb893511bcc8fbf889e70", func := "example.com/uneven-load/uneven-load/pkg/sim.LawS3909CHeapOrder", spec := "lawS3909CHeapOrder", unfollowed := true, recurses := true, apart := false }
def LawS3909CHeapOrderSaid : Prop := lawS3909CHeapOrderRow.holds Yba.pinned (OpenSpec.ofChange lawS3909CHeapOrderSpec)

/-- ITS FALSE NEIGHBOUR: 'it returns false'. Refute it at one input. -/
def lawS3909CHeapOrderWrong : ChangeSpec := { name := "lawS3909CHeapOrder", fn := fun _ => fun
  | [d] => { results := [.lit (.bool false)], args := [d] }
  | _ => none }
def LawS3909CHeapOrderWrongFalsely : Prop := lawS3909CHeapOrderRow.holds Yba.pinned (OpenSpec.ofChange lawS3909CHeapOrderWrong)

end Rows
end Go.Proofs.Ybulkcbxw
