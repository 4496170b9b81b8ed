/-
  Seat b3909a: timers in memory; Pop's contract; two timers compared.
-/
import Derived.Test.YbulkcbxwRows
import Derived.WalkKit
import Derived.ProofKit
import Derived.Deep.MidRow
import Derived.Deep.WholeRow
import Derived.BigQuiet
import Derived.BigRegion
import Derived.RegionTactic
import Derived.ChangeAlike
import Derived.Laws.StructEq
import Derived.LaidEql
namespace Go.Proofs.Ybulkcbxw
open Go.RowKit

/-- A timer: due time, number, kind, P, thread (no goroutine on these roads). -/
structure Tm where
  due : Int
  seq : Int
  kind : Int
  p : Option Addr
  m : Int
def Tm.cells (t : Tm) : List Value := [.int .i64 t.due, .int .u64 t.seq, .int .u8 t.kind, .pointer t.p, .pointer none, .int .i64 t.m]

/-- n timers lie in block R. -/
def TmsAt (W : World) (R n : Nat) (f : Nat → Tm) : Prop := ∀ i, i < n → W.rangeAt R (i * 6) (f i).cells

theorem info35 : (Yba.prog.info? 35).map (fun i => (i.zero, i.size, i.bytes)) = some (some (.agg #[.int .i64 0, .int .u64 0, .int .u8 0, .pointer none, .pointer none, .int .i64 0]), 6, 48) := by kernel_rfl
theorem size35 : (Yba.prog.info? 35).map (·.size) = some 6 := by kernel_rfl
theorem info31 : (Yba.prog.info? 31).isSome = true := by kernel_rfl
theorem info30 : (Yba.prog.info? 26).isSome = true := by kernel_rfl

theorem Tm.one (t : Tm) : t.cells.toArray.all (·.oneCell') = true := by simp [Tm.cells, Value.oneCell']

theorem eqi {t : TypeId} {k : IntKind} (h : Yba.prog.underlying t = some (.int k)) (d : Nat) (x : Int) (w : World) : (Op.equalIn (d + 1) t (.int k x) (.int k x)).run Yba.prog w = .ok true w := by
  simp [Op.equalIn, run_underlying h]
theorem eqp {t e : TypeId} (h : Yba.prog.underlying t = some (.pointer e)) (he : (Yba.prog.info? e).isSome = true) (d : Nat) (x : Option Addr) (w : World) : (Op.equalIn (d + 1) t (.pointer x) (.pointer x)).run Yba.prog w = .ok true w := by
  obtain ⟨j, hj⟩ := Option.isSome_iff_exists.1 he
  cases x with
  | none => simp [Op.equalIn, run_underlying h]
  | some a => simp [Op.equalIn, run_underlying h, sizeOf, typeInfo, hj, run_sameAddr_same]

theorem fields35 : (Yba.prog.fieldsOf 35).toList.map (fun f => (f.name, f.type, f.offset)) = [("at", 2, 0), ("seq", 24, 1), ("kind", 33, 2), ("p", 25, 3), ("g", 26, 4), ("m", 3, 5)] := by kernel_rfl
theorem under35 : Yba.prog.underlying 35 = some (.struct (Yba.prog.fieldsOf 35)) := by kernel_rfl
theorem held35 : Yba.prog.stoodInHeld 35 = false := by kernel_rfl

theorem eqFields_of {d : Nat} {xs ys : Array Value} {w : World} : ∀ (fs : List Field), (∀ f ∈ fs, f.name ≠ "_" ∧ ∃ a b, (part f.type xs f.offset).run Yba.prog w = .ok a w ∧ (part f.type ys f.offset).run Yba.prog w = .ok b w ∧ (Op.equalIn d f.type a b).run Yba.prog w = .ok true w) →
    (Op.eqFields d xs ys fs).run Yba.prog w = .ok true w
  | [], _ => by simp [Op.eqFields]
  | f :: fs, h => by
    obtain ⟨hn, a, b, p1, p2, p3⟩ := h f (by simp)
    have ih := eqFields_of fs (fun g hg => h g (by simp [hg]))
    simp only [Op.eqFields, hn, ne_eq, not_false_eq_true, if_true, Sem.run_bind, p1, p2, p3, Result.andThen_ok]
    simpa using ih

theorem tm_eql (t : Tm) (d : Nat) (w : World) : (Op.equalIn (d + 2) 35 (.agg t.cells.toArray) (.agg t.cells.toArray)).run Yba.prog w = .ok true w := by
  rw [show d + 2 = (d + 1) + 1 from rfl, run_equalIn_struct w (d + 1) 35 _ _ under35 held35]
  refine eqFields_of _ fun f hf => ?_
  have hm : (f.name, f.type, f.offset) ∈ [("at", 2, 0), ("seq", 24, 1), ("kind", 33, 2), ("p", 25, 3), ("g", 26, 4), ("m", 3, 5)] := by
    rw [← fields35]
    exact List.mem_map.2 ⟨f, hf, rfl⟩
  simp only [List.mem_cons, Prod.mk.injEq, List.not_mem_nil, or_false] at hm
  rcases hm with ⟨h1, h2, h3⟩ | ⟨h1, h2, h3⟩ | ⟨h1, h2, h3⟩ | ⟨h1, h2, h3⟩ | ⟨h1, h2, h3⟩ | ⟨h1, h2, h3⟩
  all_goals rw [h1, h2, h3]
  · exact ⟨by decide, .int .i64 t.due, _, by kernel_rfl, by kernel_rfl, eqi Yba.underlying2 d _ w⟩
  · exact ⟨by decide, .int .u64 t.seq, _, by kernel_rfl, by kernel_rfl, eqi Yba.underlying24 d _ w⟩
  · exact ⟨by decide, .int .u8 t.kind, _, by kernel_rfl, by kernel_rfl, eqi Yba.underlying33 d _ w⟩
  · exact ⟨by decide, .pointer t.p, _, by kernel_rfl, by kernel_rfl, eqp Yba.underlying25 (by kernel_rfl) d _ w⟩
  · exact ⟨by decide, .pointer none, _, by kernel_rfl, by kernel_rfl, eqp Yba.underlying26 (by kernel_rfl) d _ w⟩
  · exact ⟨by decide, .int .i64 t.m, _, by kernel_rfl, by kernel_rfl, eqi Yba.underlying3 d _ w⟩

theorem tm_neq (t : Tm) (w : World) : (binOp .neq 35 (.agg t.cells.toArray) (.agg t.cells.toArray)).run Yba.prog w = .ok (.bool false) w := by
  simp only [binOp]
  simp [Op.equal, Op.maxDepth, tm_eql t 9998]

/-- A whole struct into the block that was made last. -/
theorem wpList_store_new {P : Program} {ops : Array Oper} {rest : List Oper} {o : Oper} {a : Act} {w : World} {Q : Exit → Act → World → Prop} (hgd : o.guard = none) (ty : TypeId) (x y : Operand) (ho : o.op = .store ty x y)
    (t : TypeId) (c c' : Array Value) (hx : a.eval x = .pointer (some ⟨w.heap.size, 0, none⟩)) (hy : a.eval y = .agg c') (hi : (P.info? ty).map (·.size) = some c'.size) (hs : c.size = c'.size) (h1 : c'.all (·.oneCell') = true)
    (h : wpList P ops Q rest (a.put o.dst undef) (w.alloc (.cells c' t))) : wpList P ops Q (o :: rest) a (w.alloc (.cells c t)) :=
  wpList_store_row hgd ty x y ho w.heap.size c' hx hy t c (heap_alloc_last w _) hi hs h1 (by rw [World.setRow_alloc_new]; exact h)

theorem quiet_load_mid {P : Program} {ops : Array Oper} {C : World → Prop} {Q : Act → Prop} {a : Act} {o : Oper} {rest : List Oper} (ty : TypeId) (x : Operand) (ho : o.op = .load ty x) (hw : Region.wanted o (yielded ops a.tmps) = true)
    (b off : Nat) (hx : a.eval x = .pointer (some ⟨b, off, none⟩)) (cs : List Value) (d : TypeDesc) (hC : ∀ w, C w → w.rangeAt b off cs)
    (hu : P.underlying ty = some d) (hd : d.isRow = true) (hi : (P.info? ty).map (·.size) = some cs.length)
    (h : wpQuiet P ops C Q rest (a.put o.dst (.agg cs.toArray))) : wpQuiet P ops C Q (o :: rest) a :=
  BigFrame.wpQuiet_want hw fun K hK => ⟨_, fun w hw' => by
    unfold Oper.quietAt execOp
    simp only [ho, hx, Instr.loadAt, Instr.sureAddr, Sem.run_bind, Sem.run_pure, Result.andThen_ok, run_loadVar_mid w b off ty cs d (hC w hw') hu hd hi]
    exact ⟨rfl, rfl⟩, hK _ h⟩
theorem below_drewN (B : Nat) (W : World) (q : Nat) : Below B W (W.drewN q) := ⟨rfl, rfl, rfl, Nat.le_refl _, fun _ _ => rfl⟩
theorem Tm.len (t : Tm) : t.cells.length = 6 := rfl
theorem Tm.new (t : Tm) {W : World} (ty : TypeId) : (W.alloc (.cells t.cells.toArray ty)).rangeAt W.heap.size 0 t.cells := fun j v hv => by
  rw [Nat.zero_add, World.cell?_alloc_at _ _ _ _ rfl]
  simpa using hv

theorem as35 (v : Value) (w : World) : (Instr.typeAssert (.iface 35 v) 20 35 true).run Yba.prog w = .ok (.tuple #[v, .bool true]) w := by kernel_rfl

theorem turned_put {w : World} {T : Nat} (o : Obj) (v : Value) (q : Nat) : w.grownBy (((w.setCell ⟨T, 0, none⟩ v).alloc o).drewN q) (some T) := by
  have hs : (w.setCell ⟨T, 0, none⟩ v).heap.size = w.heap.size := by simp [World.setCell]
  refine ⟨rfl, rfl, rfl, ?_, fun k hk hne => ?_⟩
  · have : (w.setCell ⟨T, 0, none⟩ v).heap.size ≤ ((w.setCell ⟨T, 0, none⟩ v).alloc o).heap.size := by simp
    rw [hs] at this
    exact this
  · show ((w.setCell ⟨T, 0, none⟩ v).alloc o).heap[k]? = _
    rw [Below.heap_alloc _ o k (by rw [hs]; exact hk)]
    exact Below.heap_setCell _ ⟨T, 0, none⟩ v k (fun e => hne (by rw [e]))
theorem turned_cells {w : World} {T : Nat} {u : Value} (hc : w.cell? ⟨T, 0, none⟩ = some u) (o : Obj) (v : Value) (q : Nat) :
    (((w.setCell ⟨T, 0, none⟩ v).alloc o).drewN q).cell? ⟨T, 0, none⟩ = some v ∧ (((w.setCell ⟨T, 0, none⟩ v).alloc o).drewN q).cell? ⟨T, 1, none⟩ = w.cell? ⟨T, 1, none⟩ ∧ ∀ o', (((w.setCell ⟨T, 0, none⟩ v).alloc o).drewN q).frozen? ⟨T, o', none⟩ = w.frozen? ⟨T, o', none⟩ := by
  have hT := World.block_lt_of_cell? _ _ hc
  have hs : (w.setCell ⟨T, 0, none⟩ v).heap.size = w.heap.size := by simp [World.setCell]
  have b : Below w.heap.size (w.setCell ⟨T, 0, none⟩ v) (((w.setCell ⟨T, 0, none⟩ v).alloc o).drewN q) := ((Below.refl _ _).alloc (by rw [hs]; exact Nat.le_refl _) o).trans ⟨rfl, rfl, rfl, Nat.le_refl _, fun _ _ => rfl⟩
  refine ⟨(b.cell (p := ⟨T, 0, none⟩) hT).trans (World.cell?_setCell_same _ _ _ hc), (b.cell (p := ⟨T, 1, none⟩) hT).trans (World.cell?_setCell_other _ _ _ v (fun e => by simp at e)), fun o' => ?_⟩
  rw [b.frozen (p := ⟨T, o', none⟩) hT, World.frozen?_setCell]

set_option maxRecDepth 100000 in
set_option maxHeartbeats 1000000 in
theorem pop_tm (T R m cap : Nat) (t : Tm) (w : World) (hc : w.cell? ⟨T, 0, none⟩ = some (.slice (some ⟨R, 0, none⟩) (m + 1) cap)) (hm : m + 1 ≤ cap) (hcap : cap ≤ maxLen) (hf : w.frozen? ⟨T, 0, none⟩ = false) (hr : w.rangeAt R (m * 6) t.cells) :
    Calls Yba.prog 5 #[.pointer (some ⟨T, 0, none⟩)] w fun e w' => e = .returned (.iface 35 (.agg t.cells.toArray)) ∧ w.grownBy w' (some T) ∧ w'.cell? ⟨T, 0, none⟩ = some (.slice (some ⟨R, 0, none⟩) m cap) ∧ w'.cell? ⟨T, 1, none⟩ = w.cell? ⟨T, 1, none⟩ ∧ (∀ o, w'.frozen? ⟨T, o, none⟩ = w.frozen? ⟨T, o, none⟩) := by
  unfold maxLen at hcap
  have c0 := hr 0 _ rfl
  have c1 := hr 1 _ rfl
  have c2 := hr 2 _ rfl
  have c3 := hr 3 _ rfl
  have c4 := hr 4 _ rfl
  have c5 := hr 5 _ rfl
  simp only [Nat.add_zero] at c0
  have al : ∀ o (p : Addr) v, w.cell? p = some v → (w.alloc o).cell? p = some v := fun o p v h => by
    rw [World.cell?_alloc_old _ _ _ (Nat.ne_of_lt (World.block_lt_of_cell? _ _ h))]; exact h
  have d := fun o => al o _ _ hc
  have d0 := fun o => al o _ _ c0
  have d1 := fun o => al o _ _ c1
  have d2 := fun o => al o _ _ c2
  have d3 := fun o => al o _ _ c3
  have d4 := fun o => al o _ _ c4
  have d5 := fun o => al o _ _ c5
  have hT := World.block_lt_of_cell? _ _ hc
  have hf' : ∀ o, (w.alloc o).frozen? ⟨T, 0, none⟩ = false := fun o => by
    have b : Below w.heap.size w (w.alloc o) := (Below.refl _ _).alloc (Nat.le_refl _) o
    rw [b.frozen (p := ⟨T, 0, none⟩) hT]; exact hf
  clear hr al
  go_enter Yba.func5, Yba.ntmps5
  go_wp2
  go_region
  go_wp2
  go_region
  go_wp2
  go_ret
  exact ⟨rfl, turned_put _ _ 2, turned_cells hc _ _ 2⟩
end Go.Proofs.Ybulkcbxw
