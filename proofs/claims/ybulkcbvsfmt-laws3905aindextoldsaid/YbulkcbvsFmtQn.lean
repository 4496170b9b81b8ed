/-
  Seat b3905aF: fmt.Errorf and errors.Is by their contracts (turned to this program from the worked text SentryFmt, SentryIs).
-/
import Derived.Test.YbulkcbvsFmtQl
import Derived.Stop.CallBack
import Derived.Stop.IfaceNil
import Derived.LaidEql
import Derived.Stop.Asserts
import Derived.RowKitTokens
import GoSem.ClaimData
namespace Go.Proofs.YbulkcbvsFmt
open Go.RowKit Go.Extern.Stop Go.Stop Go.Extern

theorem call15 (args : Array Value) (w : World) : (callFunc 15 args).run Ybaf.prog w = ((FmtStop.errorf #[9, 79] #[52] args).run Ybaf.prog w).andThen fun v w' => .ok (.value v) w' :=
  run_callFunc_extern Ybaf.func15 (by kernel_rfl) (by kernel_rfl) (by kernel_rfl) (by kernel_rfl) args w
theorem guardF (name : String) (w : World) : (FmtStop.guard name).run Ybaf.prog w = .ok () w := by kernel_rfl
theorem fmtP : FmtStop.printed? ⟨#[37, 119, 58, 32, 98, 108, 111, 99, 107, 115, 32, 37, 100, 32, 97, 110, 100, 32, 37, 100, 32, 104, 97, 118, 101, 32, 116, 104, 101, 32, 115, 97, 109, 101, 32, 110, 97, 109, 101]⟩ 3 = some [(0, 119, false), (1, 100, false), (2, 100, false)] := by kernel_rfl
theorem fmtR (w : World) : (FmtDoors.printed ⟨#[37, 119, 58, 32, 98, 108, 111, 99, 107, 115, 32, 37, 100, 32, 97, 110, 100, 32, 37, 100, 32, 104, 97, 118, 101, 32, 116, 104, 101, 32, 115, 97, 109, 101, 32, 110, 97, 109, 101]⟩ 3).run Ybaf.prog w = .ok [(0, 119, false), (1, 100, false), (2, 100, false)] w := by kernel_rfl
theorem globalsN : Ybaf.prog.globals.size = 1 := by kernel_rfl
theorem name26 : Ybaf.prog.typeName? 3 26 = some "uint64" := by kernel_rfl
theorem ptr81 (w : World) : (FmtStop.ptrTo "fmt.wrapError").run Ybaf.prog w = .ok 81 w := by kernel_rfl
theorem elem81 (w : World) : (elemOf 81).run Ybaf.prog w = .ok 126 w := by kernel_rfl
theorem isError81 (w : World) : (FmtDoors.textMethod 81 "Error").run Ybaf.prog w = .ok true w := by kernel_rfl
theorem ptr94 (w : World) : (FmtStop.ptrTo "errors.errorString").run Ybaf.prog w = .ok 94 w := by kernel_rfl
theorem elem94 (w : World) : (elemOf 94).run Ybaf.prog w = .ok 96 w := by kernel_rfl
theorem isError94 (w : World) : (FmtDoors.textMethod 94 "Error").run Ybaf.prog w = .ok true w := by kernel_rfl
theorem name94 : Ybaf.prog.typeName? 3 94 = some "*errors.errorString" := by kernel_rfl
theorem methodU (v : Value) (w : World) : (Go.method (Ybaf.prog.types.size + Made.depth) 81 v "Unwrap").run Ybaf.prog w = .ok (39, v) w := by kernel_rfl
def shape26 : List UInt8 := [9, 6, 0, 0, 0, 0, 0, 0, 0, 117, 105, 110, 116, 54, 52]
theorem op26 (name : String) (x : Int) (w : World) : (FmtStop.operand name true 100 false (.iface 26 (.int .u64 x))).run Ybaf.prog w = .ok (shape26, Go.Extern.Stop.digits 8 (x % 2 ^ 64).toNat) w := by kernel_rfl
def plain94 : List UInt8 := 14 :: FmtStop.pack "*errors.errorString".toUTF8.data.toList
theorem opPlain (name : String) (a : Addr) (s : ByteArray) (w : World) (hc : w.cell? a = some (.string s)) :
    (FmtStop.operand name true 119 false (.iface 94 (.pointer (some a)))).run Ybaf.prog w = .ok (plain94, s.data.toList) w := by
  have h1 : (typeStr 94).run Ybaf.prog w = .ok "*errors.errorString" w := by kernel_rfl
  have d2 : Ybaf.t94.desc = .pointer 96 := rfl
  have d3 : Ybaf.t96.desc = .named "errors.errorString" 95 := rfl
  simp [FmtStop.operand, h1, d2, d3, run_load, hc, plain94]

/-! ### errors.Is over a wrapped sentinel -/
theorem isTypeOf (v : Value) (w : World) : (callFunc 13 #[.iface 94 v]).run Ybaf.prog w = .ok (.value (.iface 84 (.agg #[.pointer (some ⟨1, 94, none⟩)]))) w := by kernel_rfl
theorem isComparable (w : World) : (callFunc 43 #[.agg #[.pointer (some ⟨1, 94, none⟩)]]).run Ybaf.prog w = .ok (.value (.bool true)) w := by kernel_rfl
theorem isMethodComparable (v : Value) (w : World) : (Go.method 265 84 v "Comparable").run Ybaf.prog w = .ok (43, v) w := by kernel_rfl
theorem methodUnwrap (v : Value) (w : World) : (Go.method 265 81 v "Unwrap").run Ybaf.prog w = .ok (39, v) w := by kernel_rfl
theorem isComp : (Ybaf.prog.info? 94).map (·.comparable) = some true := by kernel_rfl
theorem isSize : (Ybaf.prog.info? 96).map (·.size) = some 1 := by kernel_rfl
theorem noIsW (v : Value) (xT : TypeId) (w : World) : (Instr.typeAssert (.iface 81 v) xT 86 true).run Ybaf.prog w = .ok (.tuple #[.nilIface, .bool false]) w := run_typeAssert_lacksB Ybaf.underlying86 (by kernel_rfl) (by kernel_rfl) v xT w
theorem hasUnwrapW (v : Value) (xT : TypeId) (w : World) : (Instr.typeAssert (.iface 81 v) xT 89 true).run Ybaf.prog w = .ok (.tuple #[.iface 81 v, .bool true]) w := run_typeAssert_hasB Ybaf.underlying89 (by kernel_rfl) v xT w

set_option maxRecDepth 100000 in
set_option maxHeartbeats 1000000 in
theorem is_wrap_same (pb po : Nat) (b : Addr) (w : World) (h1 : w.cell? ⟨pb, po + 1, none⟩ = some (.iface 94 (.pointer (some b)))) :
    Calls Ybaf.prog 7 #[.iface 81 (.pointer (some ⟨pb, po, none⟩)), .iface 94 (.pointer (some b))] w fun e w' => e = .returned (.bool true) ∧ w' = w := by
  obtain ⟨i, hi, hcmp⟩ := Option.map_eq_some_iff.1 isComp
  obtain ⟨j, hj, hjs⟩ := Option.map_eq_some_iff.1 isSize
  have tT := isTypeOf
  have cT := isComparable
  have mR := isMethodComparable
  have nW := noIsW
  have uW := hasUnwrapW
  have mU := methodUnwrap
  have heq := run_eql_iface_ptr_same (P := Ybaf.prog) w b Ybaf.underlying52 Ybaf.underlying94 hi hcmp hj
  have hty := run_eql_iface_types (P := Ybaf.prog) 81 94 (.pointer (some ⟨pb, po, none⟩)) (.pointer (some b)) Ybaf.underlying52 (by decide) w
  go_enter Ybaf.func7, Ybaf.ntmps7
  go_wp2
  refine wp_loop_rounds 2 ?_
  rw [rounds_succ]
  go_wp2
  rw [rounds_succ]
  go_wp2
  go_ret
  exact ⟨rfl, rfl⟩

/-! ### newPool's error: fmt.Errorf with a %w -/
attribute [local go_sem] call15 guardF fmtP fmtR op26 ptr81 elem81 isError81 isError94
set_option maxRecDepth 100000 in
set_option maxHeartbeats 1000000 in
theorem dup_err (F : Interp) (k o : Int) (a : Addr) (s : ByteArray) (w : World) (hF : F.answers w.tape) (hg : w.cell? ⟨0, 0, none⟩ = some (.iface 94 (.pointer (some a)))) (hs : w.cell? a = some (.string s)) :
    Calls Ybaf.prog 10 #[.int .u64 k, .int .u64 o] w fun e w' => ∃ pb, e = .returned (.iface 81 (.pointer (some ⟨pb, 0, none⟩))) ∧ Below w.heap.size w w' ∧ w.heap.size ≤ pb ∧ w'.cell? ⟨pb, 1, none⟩ = some (.iface 94 (.pointer (some a))) := by
  have hF' : ∀ i name reading k range, w.tape i (.extern (word name reading k) range) = F name reading k := hF
  have hs' : (w.alloc (.cells #[.iface 94 (.pointer (some a)), .iface 26 (.int .u64 o), .iface 26 (.int .u64 k)] 20)).cell? a = some (.string s) := by
    rw [World.cell?_alloc_old _ _ _ (Nat.ne_of_lt (World.block_lt_of_cell? _ _ hs))]; exact hs
  have hop := opPlain "fmt.errorf" a s _ hs'
  go_enter Ybaf.func10, Ybaf.ntmps10
  go_wp2
  go_ret
  refine ⟨_, rfl, ?_, Nat.le_of_lt ?_, ?_⟩
  · exact (((Below.refl _ _).alloc (Nat.le_refl _) _).drew).alloc (by simp) _
  · simp
  · simp [go_sem]
end Go.Proofs.YbulkcbvsFmt
