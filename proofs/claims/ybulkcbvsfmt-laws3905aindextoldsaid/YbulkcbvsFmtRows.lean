/-
  NARROWER THAN 'FOR EVERY INPUT', by the rows' own cells (each row's printed sentence says how): LawS3905AIndex: ifaces, laid · LawS3905ACounts: ifaces, laid.
  DERIVED. THE GIVEN ROWS OF THIS SEAT. 2 by the template 'for every input the law returns true; each argument reads behind the call as it read before'; 0 by the template 'total and deterministic' (their statements: YbulkcbvsFmtTotals.lean).
  GIVEN WITH THE SEED: the statements are not yours to turn. If you find one false, say at which input.
  Laid BY PROGRAM, IN A SANDBOX (cutbox-rows.mjs): the forced cells as the released guide's own fill.sh prints them over the translation 919a3dfa97513dac… (all of the seat's roots in one cut). By AI agents, Wed Nov 11 2026. No macro, syntax, notation, axiom, sorry.
-/
import Derived.Test.YbulkcbvsFmtChecked
import GoSem.Claim
import GoSem.ClaimJoined
import GoSem.ClaimMapViews
import Derived.JoinedTies
import Derived.KernelRfl
namespace Go.Proofs.YbulkcbvsFmt
/- THE CELL 'sum', in the pinned program and in every row, IS THE sha256 OF THE DUMP (.gsa) THAT YbulkcbvsFmtProg.lean LOADS. Nothing in Lean hashes anything: it is a label: what it is worth is what the hold of that sum in a sandbox is worth. -/
noncomputable def Ybaf.pinned : Pinned := { name := "ybulkcbvsfmt", sum := "919a3dfa97513dacef2bd5586406f3fa0e0d990ddd056619a63cc4304a8f3b67", checked := Ybaf.checked }
namespace Rows
def none {H : Type} : Left H := { results := [], args := [] }

/- WHAT THE LISTED PACKAGE-LEVEL VARIABLES READ AS WHEN THE CALL BEGINS. Each datum BY PROGRAM (the guide's laid-datum.mjs) off the statement by which the dump's own 'gosem.cut.vars' lays the variable. In a bare row this is a premise. The card (YbulkcbvsFmtCards.lean) ties it to the program's text. -/
def laid_example_com_onceblock_onceblock_internal_store_ErrDamaged {H : Type} : DataW H := .iface "*errors.errorString" (.ptr (.agg [.lit (.string [115, 116, 111, 114, 101, 32, 105, 115, 32, 100, 97, 109, 97, 103, 101, 100])]))

/-- 'store.LawS3905AIndex': WHATEVER THE INPUT: true; the input reads as it did. -/
def lawS3905AIndexSpec : ChangeSpec := { name := "lawS3905AIndex", vars := ["example.com/onceblock/onceblock/internal/store.ErrDamaged"], fn := fun _ => fun
  | [d, g1] => { results := [.lit (.bool true)], args := [d], vars := [g1] }
  | _ => none }
def lawS3905AIndexRow : OpenClaim := { program := "ybulkcbvsfmt", sum := "919a3dfa97513dacef2bd5586406f3fa0e0d990ddd056619a63cc4304a8f3b67", func := "example.com/onceblock/onceblock/internal/store.LawS3905AIndex", spec := "lawS3905AIndex", stops := ["fmt.errorf"], inPlace := ["fmt.errorf", "internal/reflectlite.TypeOf"], unfollowed := true, recurses := true, named := ["example.com/onceblock/onceblock/internal/store.ErrDamaged"], ifaces := true, plainKeys := false, apart := false, laid := [("example.com/onceblock/onceblock/internal/store.ErrDamaged", laid_example_com_onceblock_onceblock_internal_store_ErrDamaged)] }
/-- NO THEOREM (fmt's text is open here; it may be false): for the released tool's asking of the row's closed facts alone. THE STATEMENT IS 'LawS3905AIndexToldSaid' (YbulkcbvsFmtCards.lean). -/
def LawS3905AIndexFormAsk : Prop := lawS3905AIndexRow.holds Ybaf.pinned (OpenSpec.ofChange lawS3905AIndexSpec)

/-- ITS FALSE NEIGHBOUR: 'it returns false'. Refute it at one input. -/
def lawS3905AIndexWrong : ChangeSpec := { name := "lawS3905AIndex", vars := ["example.com/onceblock/onceblock/internal/store.ErrDamaged"], fn := fun _ => fun
  | [d, g1] => { results := [.lit (.bool false)], args := [d], vars := [g1] }
  | _ => none }
def LawS3905AIndexWrongFormAsk : Prop := lawS3905AIndexRow.holds Ybaf.pinned (OpenSpec.ofChange lawS3905AIndexWrong)

/-- 'store.LawS3905ACounts': WHATEVER THE INPUT: true; the input reads as it did. -/
def lawS3905ACountsSpec : ChangeSpec := { name := "lawS3905ACounts", vars := ["example.com/onceblock/onceblock/internal/store.ErrDamaged"], fn := fun _ => fun
  | [d, g1] => { results := [.lit (.bool true)], args := [d], vars := [g1] }
  | _ => none }
def lawS3905ACountsRow : OpenClaim := { program := "ybulkcbvsfmt", sum := "919a3dfa97513dacef2bd5586406f3fa0e0d990ddd056619a63cc4304a8f3b67", func := "example.com/onceblock/onceblock/internal/store.LawS3905ACounts", spec := "lawS3905ACounts", stops := ["fmt.errorf"], inPlace := ["fmt.errorf"], unfollowed := true, recurses := true, named := ["example.com/onceblock/onceblock/internal/store.ErrDamaged"], ifaces := true, plainKeys := false, apart := false, laid := [("example.com/onceblock/onceblock/internal/store.ErrDamaged", laid_example_com_onceblock_onceblock_internal_store_ErrDamaged)] }
/-- NO THEOREM (fmt's text is open here; it may be false): for the released tool's asking of the row's closed facts alone. THE STATEMENT IS 'LawS3905ACountsToldSaid' (YbulkcbvsFmtCards.lean). -/
def LawS3905ACountsFormAsk : Prop := lawS3905ACountsRow.holds Ybaf.pinned (OpenSpec.ofChange lawS3905ACountsSpec)

/-- ITS FALSE NEIGHBOUR: 'it returns false'. Refute it at one input. -/
def lawS3905ACountsWrong : ChangeSpec := { name := "lawS3905ACounts", vars := ["example.com/onceblock/onceblock/internal/store.ErrDamaged"], fn := fun _ => fun
  | [d, g1] => { results := [.lit (.bool false)], args := [d], vars := [g1] }
  | _ => none }
def LawS3905ACountsWrongFormAsk : Prop := lawS3905ACountsRow.holds Ybaf.pinned (OpenSpec.ofChange lawS3905ACountsWrong)

end Rows
end Go.Proofs.YbulkcbvsFmt
