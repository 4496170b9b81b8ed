/-
  No cell of these rows narrows 'for every input' (looked for: loops, veiled, ifaces, maps, wideKeys, modest, calm, conditions, laid).
  DERIVED. THE GIVEN ROWS OF THIS SEAT. 2 by the template 'for every input the law returns true; each argument reads behind the call as it read before'; 0 by the template 'total and deterministic' (their statements: YbulkcbsmTotals.lean).
  GIVEN WITH THE SEED: the statements are not yours to turn. If you find one false, say at which input.
  Laid BY PROGRAM, IN A SANDBOX (cutbox-rows.mjs): the forced cells as the released guide's own fill.sh prints them over the translation a0521dbd0e3a2942… (all of the seat's roots in one cut). By AI agents, Wed Nov 11 2026. No macro, syntax, notation, axiom, sorry.
-/
import Derived.Test.YbulkcbsmChecked
import GoSem.Claim
import GoSem.ClaimJoined
import GoSem.ClaimMapViews
import Derived.JoinedTies
import Derived.KernelRfl
namespace Go.Proofs.Ybulkcbsm
/- THE CELL 'sum', in the pinned program and in every row, IS THE sha256 OF THE DUMP (.gsa) THAT YbulkcbsmProg.lean LOADS. Nothing in Lean hashes anything: it is a label: what it is worth is what the hold of that sum in a sandbox is worth. -/
noncomputable def Yba.pinned : Pinned := { name := "ybulkcbsm", sum := "a0521dbd0e3a2942bcfe2d440811c66cc5acda75a52c4c189ba261f18956f3de", checked := Yba.checked }
namespace Rows
def none {H : Type} : Left H := { results := [], args := [] }

/-- 'ahead.LawS3899CHeld': WHATEVER THE INPUT: true; the input reads as it did. -/
def lawS3899CHeldSpec : ChangeSpec := { name := "lawS3899CHeld", fn := fun _ => fun
  | [d1, d2, d3] => { results := [.lit (.bool true)], args := [d1, d2, d3] }
  | _ => none }
def lawS3899CHeldRow : OpenClaim := { program := "ybulkcbsm", sum := "a0521dbd0e3a2942bcfe2d440811c66cc5acda75a52c4c189ba261f18956f3de", func := "example.com/ashlar/ashlar/internal/ahead.LawS3899CHeld", spec := "lawS3899CHeld", inPlace := ["(*internal/sync.Mutex).Lock", "internal/race.Disable", "sync/atomic.CompareAndSwapInt32", "internal/race.Enable", "internal/race.Acquire", "(*internal/sync.Mutex).lockSlow", "internal/sync.runtime_canSpin", "internal/sync.runtime_doSpin", "internal/sync.throw", "internal/sync.runtime_nanotime", "internal/sync.runtime_SemacquireMutex", "sync/atomic.AddInt32", "(*sync.Cond).Broadcast", "(*sync.copyChecker).check", "sync.runtime_notifyListNotifyAll", "(*internal/sync.Mutex).Unlock", "internal/race.ReleaseMerge", "(*internal/sync.Mutex).unlockSlow", "internal/sync.fatal", "internal/sync.runtime_Semrelease"], apart := false }
def LawS3899CHeldSaid : Prop := lawS3899CHeldRow.holds Yba.pinned (OpenSpec.ofChange lawS3899CHeldSpec)

/-- ITS FALSE NEIGHBOUR: 'it returns false'. Refute it at one input. -/
def lawS3899CHeldWrong : ChangeSpec := { name := "lawS3899CHeld", fn := fun _ => fun
  | [d1, d2, d3] => { results := [.lit (.bool false)], args := [d1, d2, d3] }
  | _ => none }
def LawS3899CHeldWrongFalsely : Prop := lawS3899CHeldRow.holds Yba.pinned (OpenSpec.ofChange lawS3899CHeldWrong)

/-- 'ahead.LawS3899CSum': WHATEVER THE INPUT: true; the input reads as it did. -/
def lawS3899CSumSpec : ChangeSpec := { name := "lawS3899CSum", fn := fun _ => fun
  | [d1, d2, d3] => { results := [.lit (.bool true)], args := [d1, d2, d3] }
  | _ => none }
def lawS3899CSumRow : OpenClaim := { program := "ybulkcbsm", sum := "a0521dbd0e3a2942bcfe2d440811c66cc5acda75a52c4c189ba261f18956f3de", func := "example.com/ashlar/ashlar/internal/ahead.LawS3899CSum", spec := "lawS3899CSum", inPlace := ["(*internal/sync.Mutex).Lock", "internal/race.Disable", "sync/atomic.CompareAndSwapInt32", "internal/race.Enable", "internal/race.Acquire", "(*internal/sync.Mutex).lockSlow", "internal/sync.runtime_canSpin", "internal/sync.runtime_doSpin", "internal/sync.throw", "internal/sync.runtime_nanotime", "internal/sync.runtime_SemacquireMutex", "sync/atomic.AddInt32", "(*sync.Cond).Broadcast", "(*sync.copyChecker).check", "sync.runtime_notifyListNotifyAll", "(*internal/sync.Mutex).Unlock", "internal/race.ReleaseMerge", "(*internal/sync.Mutex).unlockSlow", "internal/sync.fatal", "internal/sync.runtime_Semrelease"], apart := false }
def LawS3899CSumSaid : Prop := lawS3899CSumRow.holds Yba.pinned (OpenSpec.ofChange lawS3899CSumSpec)

/-- ITS FALSE NEIGHBOUR: 'it returns false'. Refute it at one input. -/
def lawS3899CSumWrong : ChangeSpec := { name := "lawS3899CSum", fn := fun _ => fun
  | [d1, d2, d3] => { results := [.lit (.bool false)], args := [d1, d2, d3] }
  | _ => none }
def LawS3899CSumWrongFalsely : Prop := lawS3899CSumRow.holds Yba.pinned (OpenSpec.ofChange lawS3899CSumWrong)

end Rows
end Go.Proofs.Ybulkcbsm
