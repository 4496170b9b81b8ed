/-
  The numbers under which this dump holds sync.Mutex's functions and types (typed by hand after the guide's 6u; the kernel checks each), and what the two body-less functions of sync.Cond.Broadcast do where nobody waits.
-/
import Derived.Test.YbulkcbsmRows
import Derived.Conc.MuLone
import Derived.WalkKit
import Derived.KernelRfl
namespace Go.Proofs.Ybulkcbsm
open Go.Conc.Locks

abbrev muLink : MuLink := { lock := 6, unlock := 8, ilock := 9, iunlock := 11, lockSlow := 16, unlockSlow := 21, disable := 12, enable := 14, acquire := 15, relMerge := 19, cas32 := 13, add32 := 20, tMutex := 30, tIMutex := 28, tPMutex := 47, tPIMutex := 48, tPI32 := 50, tUP := 33, tNoCopy := 25, tU32 := 26 }
theorem muLib : MuLib Yba.prog muLink :=
  ⟨Yba.func6, Yba.func8, Yba.func9, Yba.func11, Yba.func12, Yba.func14, Yba.func15, Yba.func19, Yba.func13, Yba.func20, Yba.underlying28, Yba.runUnderlying28, Yba.sizeOf28, Yba.isAgg28, Yba.zeroValue28, Yba.underlying30, Yba.runUnderlying30, Yba.sizeOf30, Yba.isAgg30, Yba.zeroValue30, Yba.underlying47, Yba.runUnderlying47, Yba.sizeOf47, Yba.isAgg47, Yba.zeroValue47, Yba.underlying48, Yba.runUnderlying48, Yba.sizeOf48, Yba.isAgg48, Yba.zeroValue48, Yba.underlying50, Yba.runUnderlying50, Yba.sizeOf50, Yba.isAgg50, Yba.zeroValue50, Yba.underlying33, Yba.runUnderlying33, Yba.sizeOf33, Yba.isAgg33, Yba.zeroValue33, Yba.underlying25, Yba.runUnderlying25, Yba.sizeOf25, Yba.isAgg25, Yba.zeroValue25, Yba.underlying21, Yba.runUnderlying21, Yba.sizeOf21, Yba.isAgg21, Yba.zeroValue21, (by kernel_rfl)⟩

/-- The entry's text up to where a copied Cond would panic ('tail': never come to below). -/
theorem check_text (a : Addr) : ∃ tail : Addr → Value → Sem Value, Extern.SyncCond.check #[.pointer (some a)] = (do
    let c ← asAddr (.pointer (some a))
    if ← Extern.SyncCond.isSelf c (← load c) then return Extern.SyncCond.none_
    mark .disable
    let old ← load c .atomic
    if let .int .u64 0 := old then store c (.pointer (some c)) .atomic
    mark .enable
    if let .int .u64 0 := old then return Extern.SyncCond.none_
    tail c old) := ⟨_, rfl⟩

/-- (*sync.copyChecker).check, the first time: the checker's cell takes its own address. -/
theorem check_first {a : Addr} {w : World} (hc : w.cell? a = some (.int .u64 0)) (hz : w.frozen? a = false) :
    (callFunc 17 #[.pointer (some a)]).run Yba.prog w = .ok (.value (.tuple #[])) (w.setCell a (.pointer (some a))) := by
  rw [run_callFunc_extern (e := Extern.SyncCond.check) Yba.func17 (by kernel_rfl) (by kernel_rfl) (by kernel_rfl) (by kernel_rfl)]
  obtain ⟨tail, ht⟩ := check_text a
  rw [ht]
  simp [Extern.SyncCond.isSelf, asAddr, hc, hz, run_store Yba.prog w a (.pointer (some a)) .atomic rfl, Result.andThen, Extern.SyncCond.none_]

/-- Every later time: nothing. -/
theorem check_later {a : Addr} {w : World} (hc : w.cell? a = some (.pointer (some a))) :
    (callFunc 17 #[.pointer (some a)]).run Yba.prog w = .ok (.value (.tuple #[])) w := by
  rw [run_callFunc_extern (e := Extern.SyncCond.check) Yba.func17 (by kernel_rfl) (by kernel_rfl) (by kernel_rfl) (by kernel_rfl)]
  obtain ⟨tail, ht⟩ := check_text a
  rw [ht]
  simp [Extern.SyncCond.isSelf, asAddr, hc, Result.andThen, Extern.SyncCond.none_]

/-- sync.runtime_notifyListNotifyAll where both counts are 0 (nobody waits): nothing. -/
theorem notify_none {b o : Nat} {w : World} (h0 : w.cell? ⟨b, o, none⟩ = some (.int .u32 0)) (h1 : w.cell? ⟨b, o + 1, none⟩ = some (.int .u32 0)) :
    (callFunc 18 #[.pointer (some ⟨b, o, none⟩)]).run Yba.prog w = .ok (.value (.tuple #[])) w := by
  rw [run_callFunc_extern (e := Extern.SyncCond.notifyAll) Yba.func18 (by kernel_rfl) (by kernel_rfl) (by kernel_rfl) (by kernel_rfl)]
  have hw : (IntKind.u32.wrap 0).toNat = 0 := by decide
  simp [Extern.SyncCond.notifyAll, Extern.SyncCond.list, Extern.SyncCond.counter, Addr.add, h0, h1, hw, Result.andThen, Extern.SyncCond.none_]
end Go.Proofs.Ybulkcbsm
