/-
  NARROWER THAN 'FOR EVERY INPUT', by the rows' own cells (each row's printed sentence says how): LawS3902AOneDraw: laid · LawS3902AStream: laid.
  DERIVED. THE GIVEN ROWS OF THIS SEAT. 2 by the template 'for every input the law returns true; each argument reads behind the call as it read before'; 0 by the template 'total and deterministic' (their statements: YbulkcbucDoorTotals.lean).
  GIVEN WITH THE SEED: the statements are not yours to turn. If you find one false, say at which input.
  Laid BY PROGRAM, IN A SANDBOX (cutbox-rows.mjs): the forced cells as the released guide's own fill.sh prints them over the translation 1250862f0505244b… (all of the seat's roots in one cut). By AI agents, Wed Nov 11 2026. No macro, syntax, notation, axiom, sorry.
-/
import Derived.Test.YbulkcbucDoorChecked
import GoSem.Claim
import GoSem.ClaimJoined
import GoSem.ClaimMapViews
import Derived.JoinedTies
import Derived.KernelRfl
namespace Go.Proofs.YbulkcbucDoor
/- THE CELL 'sum', in the pinned program and in every row, IS THE sha256 OF THE DUMP (.gsa) THAT YbulkcbucDoorProg.lean LOADS. Nothing in Lean hashes anything: it is a label: what it is worth is what the hold of that sum in a sandbox is worth. -/
noncomputable def Ybad.pinned : Pinned := { name := "ybulkcbucdoor", sum := "1250862f0505244b9e2a62f4deeabf9eb8053692b737b3cae03a16a8a9b35a3c", checked := Ybad.checked }
namespace Rows
def none {H : Type} : Left H := { results := [], args := [] }

/- WHAT THE LISTED PACKAGE-LEVEL VARIABLES READ AS WHEN THE CALL BEGINS. Each datum BY PROGRAM (the guide's laid-datum.mjs) off the statement by which the dump's own 'gosem.cut.vars' lays the variable. In a bare row this is a premise. The card (YbulkcbucDoorCards.lean) ties it to the program's text. -/
def laid_example_com_zhuanzhai_zhuanzhai_internal_synthmarket_phaseWeights {H : Type} : DataW H := .agg [.lit (.int .i64 55), .lit (.int .i64 15), .lit (.int .i64 20), .lit (.int .i64 10)]

/-- 'synthmarket.LawS3902AOneDraw': WHATEVER THE INPUT: true; the input reads as it did. -/
def lawS3902AOneDrawSpec : ChangeSpec := { name := "lawS3902AOneDraw", vars := ["example.com/zhuanzhai/zhuanzhai/internal/synthmarket.phaseWeights"], fn := fun _ => fun
  | [d, g1] => { results := [.lit (.bool true)], args := [d], vars := [g1] }
  | _ => none }
def lawS3902AOneDrawRow : OpenClaim := { program := "ybulkcbucdoor", sum := "1250862f0505244b9e2a62f4deeabf9eb8053692b737b3cae03a16a8a9b35a3c", func := "example.com/zhuanzhai/zhuanzhai/internal/synthmarket.LawS3902AOneDraw", spec := "lawS3902AOneDraw", named := ["example.com/zhuanzhai/zhuanzhai/internal/synthmarket.phaseWeights"], apart := false, laid := [("example.com/zhuanzhai/zhuanzhai/internal/synthmarket.phaseWeights", laid_example_com_zhuanzhai_zhuanzhai_internal_synthmarket_phaseWeights)] }
def LawS3902AOneDrawSaid : Prop := lawS3902AOneDrawRow.holds Ybad.pinned (OpenSpec.ofChange lawS3902AOneDrawSpec)

/-- ITS FALSE NEIGHBOUR: 'it returns false'. Refute it at one input. -/
def lawS3902AOneDrawWrong : ChangeSpec := { name := "lawS3902AOneDraw", vars := ["example.com/zhuanzhai/zhuanzhai/internal/synthmarket.phaseWeights"], fn := fun _ => fun
  | [d, g1] => { results := [.lit (.bool false)], args := [d], vars := [g1] }
  | _ => none }
def LawS3902AOneDrawWrongFalsely : Prop := lawS3902AOneDrawRow.holds Ybad.pinned (OpenSpec.ofChange lawS3902AOneDrawWrong)

/-- 'synthmarket.LawS3902AStream': WHATEVER THE INPUT: true; the input reads as it did. -/
def lawS3902AStreamSpec : ChangeSpec := { name := "lawS3902AStream", vars := ["example.com/zhuanzhai/zhuanzhai/internal/synthmarket.phaseWeights"], fn := fun _ => fun
  | [d1, d2, g1] => { results := [.lit (.bool true)], args := [d1, d2], vars := [g1] }
  | _ => none }
def lawS3902AStreamRow : OpenClaim := { program := "ybulkcbucdoor", sum := "1250862f0505244b9e2a62f4deeabf9eb8053692b737b3cae03a16a8a9b35a3c", func := "example.com/zhuanzhai/zhuanzhai/internal/synthmarket.LawS3902AStream", spec := "lawS3902AStream", named := ["example.com/zhuanzhai/zhuanzhai/internal/synthmarket.phaseWeights"], apart := false, laid := [("example.com/zhuanzhai/zhuanzhai/internal/synthmarket.phaseWeights", laid_example_com_zhuanzhai_zhuanzhai_internal_synthmarket_phaseWeights)] }
def LawS3902AStreamSaid : Prop := lawS3902AStreamRow.holds Ybad.pinned (OpenSpec.ofChange lawS3902AStreamSpec)

/-- ITS FALSE NEIGHBOUR: 'it returns false'. Refute it at one input. -/
def lawS3902AStreamWrong : ChangeSpec := { name := "lawS3902AStream", vars := ["example.com/zhuanzhai/zhuanzhai/internal/synthmarket.phaseWeights"], fn := fun _ => fun
  | [d1, d2, g1] => { results := [.lit (.bool false)], args := [d1, d2], vars := [g1] }
  | _ => none }
def LawS3902AStreamWrongFalsely : Prop := lawS3902AStreamRow.holds Ybad.pinned (OpenSpec.ofChange lawS3902AStreamWrong)

end Rows
end Go.Proofs.YbulkcbucDoor
