/-
  Seat b3905aF: newPool where no two records in use bear one name.
-/
import Derived.Test.YbulkcbvsFmtQg
namespace Go.Proofs.YbulkcbvsFmt
open Go.RowKit Go.Shelf Go.Maps
attribute [local go_sem] Oper.semAt_some

theorem wide_of {F : Fence} (hF : F = Fence.wide) {m : Nat} {P : Program} {f : FuncId} {args : Array Value} {w : World} {R : Ending → World → Prop} (h : Calls P f args w R) : CallsIn F m P f args w R := by subst hF; exact callsIn_wide.2 h

theorem wpListIn_store_new {F : Fence} {n : Nat} {P : Program} {ops : Array Oper} {rest : List Oper} {o : Oper} {a : Act} {w : World} {Q : Exit → Act → World → Prop} (hgd : o.guard = none) (ty : TypeId) (x y : Operand) (ho : o.op = .store ty x y)
    (t : TypeId) (c c' : Array Value) (hx : a.eval x = .pointer (some ⟨w.heap.size, 0, none⟩)) (hy : a.eval y = .agg c') (hi : (P.info? ty).map (·.size) = some c'.size) (hs : c.size = c'.size) (h1 : c'.all (·.oneCell') = true)
    (h : wpListIn F n P ops Q rest (a.put o.dst undef) (w.alloc (.cells c' t))) : wpListIn F n P ops Q (o :: rest) a (w.alloc (.cells c t)) :=
  wpListIn_plain hgd fun K hK => by
    unfold Oper.wpIn
    refine ⟨by simp [Oper.about, ho], ?_⟩
    rw [Oper.semAt_plain F _ _ (by rw [ho]; intro c hc'; cases hc')]
    unfold execOp
    simp only [ho, hx, hy, Instr.storeAt, Instr.sureAddr, Sem.run_bind, Sem.run_pure, Result.andThen_ok, run_storeVar_row _ w.heap.size t ty c c' (heap_alloc_last w _) hi hs h1]
    rw [World.setRow_alloc_new]
    exact hK _ _ h

set_option maxRecDepth 100000 in
theorem index_nil (nm : Nat → List Int) (rf : Nat → Int) (fv : Value) (w : World) :
    Calls Ybaf.prog 9 #[.slice none 0 0, fv] w fun e w' => ∃ D, e = .returned (.tuple #[.map (some w.heap.size), .nilIface]) ∧ Below w.heap.size w w' ∧
      w'.ownsMap Ybaf.prog 47 (plainElem Ybaf.prog 26) w.heap.size 0 D ∧ Idx D 0 nm rf := by
  have hmm := @run_makeMap Ybaf.prog
  go_enter Ybaf.func9, Ybaf.ntmps9
  go_wp2
  refine wp_loop_rounds 1 ?_
  rw [rounds_succ]
  go_wp2
  go_ret2
  exact ⟨.map [], rfl, (Below.refl _ _).alloc (Nat.le_refl _) _, World.ownsMap_made _ _ _ _, Idx.zero nm rf⟩

theorem index_sl (ao : Option Addr) (n : Nat) (nm : Nat → List Int) (rf : Nat → Int) (fv : Value) (w : World) (hn : n ≤ 1024) (hr : RecSl w.heap.size w (.slice ao n n) n nm rf) (hg : ∀ i, i < n → Good (nm i)) (ha : Apart n nm rf) :
    Calls Ybaf.prog 9 #[.slice ao n n, fv] w fun e w' => ∃ D, e = .returned (.tuple #[.map (some w.heap.size), .nilIface]) ∧ Below w.heap.size w w' ∧
      w'.ownsMap Ybaf.prog 47 (plainElem Ybaf.prog 26) w.heap.size n D ∧ Idx D n nm rf := by
  rcases hr with ⟨e, rfl⟩ | ⟨R, e, hR, hr⟩
  · rw [e]; exact index_nil nm rf fv w
  · rw [e]; exact index_ok R n nm rf fv w hn hr hR hg ha

/-! ### What the loop gathers -/
section
variable {n : Nat} (rf : Nat → Int)
def freeL (pre : List (Fin n)) : List Value := (pre.filter fun x => rf x.1 == 0).map fun x => .int .u64 (x.1 : Int)
def stL (pre : List (Fin n)) : Nat := (pre.filter fun x => !(rf x.1 == 0)).length
def mpL (pre : List (Fin n)) : Int := pre.foldl (fun m x => if rf x.1 = 0 then m else IntKind.u64.wrap (m + rf x.1)) 0
theorem freeL_zero {pre : List (Fin n)} {x : Fin n} (h : rf x.1 = 0) : freeL rf (pre ++ [x]) = freeL rf pre ++ [.int .u64 (x.1 : Int)] := by simp [freeL, List.filter_append, h]
theorem freeL_use {pre : List (Fin n)} {x : Fin n} (h : ¬ rf x.1 = 0) : freeL rf (pre ++ [x]) = freeL rf pre := by simp [freeL, List.filter_append, h]
theorem stL_zero {pre : List (Fin n)} {x : Fin n} (h : rf x.1 = 0) : stL rf (pre ++ [x]) = stL rf pre := by simp [stL, List.filter_append, h]
theorem stL_use {pre : List (Fin n)} {x : Fin n} (h : ¬ rf x.1 = 0) : stL rf (pre ++ [x]) = stL rf pre + 1 := by simp [stL, List.filter_append, h]
theorem mpL_zero {pre : List (Fin n)} {x : Fin n} (h : rf x.1 = 0) : mpL rf (pre ++ [x]) = mpL rf pre := by simp [mpL, h]
theorem mpL_use {pre : List (Fin n)} {x : Fin n} (h : ¬ rf x.1 = 0) : mpL rf (pre ++ [x]) = IntKind.u64.wrap (mpL rf pre + rf x.1) := by simp [mpL, h]
theorem stL_le (pre : List (Fin n)) : stL rf pre ≤ pre.length := List.length_filter_le _ _
theorem freeL_le (pre : List (Fin n)) : (freeL rf pre).length ≤ pre.length := by
  unfold freeL; rw [List.length_map]; exact List.length_filter_le _ _
end

/-- The pool in block h, its variable's box h + 1, the iterator's box h + 2; w1: the world ahead of them. What the loop leaves alone. -/
structure PoolC (w1 : World) (h : Nat) (pd pk ps ao : Option Addr) (n M : Nat) (W : World) : Prop where
  bl : Below h w1 W
  sz : h + 1 + 1 + 1 ≤ W.heap.size
  bx : W.cell? ⟨h + 1, 0, none⟩ = some (.pointer (some ⟨h, 0, none⟩))
  bs : W.cell? ⟨h + 1 + 1, 0, none⟩ = some (.slice ao n n)
  fz : ∀ o, W.frozen? ⟨h, o, none⟩ = false
  c0 : W.cell? ⟨h, 0, none⟩ = some (.pointer pd)
  c1 : W.cell? ⟨h, 1, none⟩ = some (.pointer pk)
  c2 : W.cell? ⟨h, 2, none⟩ = some (.pointer ps)
  c5 : W.cell? ⟨h, 5, none⟩ = some (.slice ao n n)
  c12 : W.cell? ⟨h, 12, none⟩ = some (.map (some M))
  c14 : W.cell? ⟨h, 14, none⟩ = some (.slice none 0 0)
  c17 : W.cell? ⟨h, 17, none⟩ = some (.int .i64 0)

/-- .. and what it gathers: the free blocks listed, the two counts. -/
structure PoolV (h : Nat) (fl : List Value) (st : Nat) (mp : Int) (W : World) : Prop where
  c13 : ∃ fv, W.cell? ⟨h, 13, none⟩ = some fv ∧ W.ownsRow (h + 1 + 1 + 1) 26 1 fv fl.length fl
  c15 : W.cell? ⟨h, 15, none⟩ = some (.int .u64 (st : Nat))
  c16 : W.cell? ⟨h, 16, none⟩ = some (.int .u64 mp)

section
variable {w1 : World} {h : Nat} {pd pk ps ao : Option Addr} {n M : Nat} {W W' : World} {fl : List Value} {st : Nat} {mp : Int}

theorem PoolC.below (i : PoolC w1 h pd pk ps ao n M W) (b : Below (h + 1 + 1 + 1) W W') : PoolC w1 h pd pk ps ao n M W' where
  bl := i.bl.trans (b.mono (by omega))
  sz := Nat.le_trans i.sz b.size
  bx := (b.cell (p := ⟨h + 1, 0, none⟩) (by show h + 1 < _; omega)).trans i.bx
  bs := (b.cell (p := ⟨h + 1 + 1, 0, none⟩) (by show h + 1 + 1 < _; omega)).trans i.bs
  fz := fun o => (b.frozen (p := ⟨h, o, none⟩) (by show h < _; omega)).trans (i.fz o)
  c0 := (b.cell (p := ⟨h, 0, none⟩) (by show h < _; omega)).trans i.c0
  c1 := (b.cell (p := ⟨h, 1, none⟩) (by show h < _; omega)).trans i.c1
  c2 := (b.cell (p := ⟨h, 2, none⟩) (by show h < _; omega)).trans i.c2
  c5 := (b.cell (p := ⟨h, 5, none⟩) (by show h < _; omega)).trans i.c5
  c12 := (b.cell (p := ⟨h, 12, none⟩) (by show h < _; omega)).trans i.c12
  c14 := (b.cell (p := ⟨h, 14, none⟩) (by show h < _; omega)).trans i.c14
  c17 := (b.cell (p := ⟨h, 17, none⟩) (by show h < _; omega)).trans i.c17

theorem cell_off {b b' o o' : Nat} {v : Value} (hne : b ≠ b' ∨ o ≠ o') : (W.setCell ⟨b, o, none⟩ v).cell? ⟨b', o', none⟩ = W.cell? ⟨b', o', none⟩ :=
  World.cell?_setCell_other W _ _ v (fun e => by
    rcases hne with h | h
    · exact h (congrArg Addr.block e)
    · exact h (congrArg Addr.off e))

theorem PoolC.set (i : PoolC w1 h pd pk ps ao n M W) {o : Nat} (v : Value) (ho : o = 13 ∨ o = 15 ∨ o = 16) : PoolC w1 h pd pk ps ao n M (W.setCell ⟨h, o, none⟩ v) where
  bl := i.bl.setCell (p := ⟨h, o, none⟩) (Nat.le_refl _) _
  sz := by have := i.sz; simpa [World.setCell] using this
  bx := (cell_off (.inl (by omega))).trans i.bx
  bs := (cell_off (.inl (by omega))).trans i.bs
  fz := fun o' => by rw [World.frozen?_setCell]; exact i.fz o'
  c0 := (cell_off (.inr (by omega))).trans i.c0
  c1 := (cell_off (.inr (by omega))).trans i.c1
  c2 := (cell_off (.inr (by omega))).trans i.c2
  c5 := (cell_off (.inr (by omega))).trans i.c5
  c12 := (cell_off (.inr (by omega))).trans i.c12
  c14 := (cell_off (.inr (by omega))).trans i.c14
  c17 := (cell_off (.inr (by omega))).trans i.c17

theorem ownsRow_set {base : Nat} {e : TypeId} {size : Nat} {v u : Value} {k : Nat} {xs : List Value} {b o : Nat} (hr : W.ownsRow base e size v k xs) (hb : b < base) : (W.setCell ⟨b, o, none⟩ u).ownsRow base e size v k xs := by
  refine ⟨hr.1, hr.2.imp id ?_⟩
  rintro ⟨g, cap, cur, rfl, hb', hc, h1, h2, h3, h4⟩
  exact ⟨g, cap, cur, rfl, hb', (Below.heap_setCell W ⟨b, o, none⟩ u g (by show g ≠ b; omega)).trans hc, h1, h2, h3, h4⟩

theorem ownsRow_own {A B : World} {row : Option Nat} {base : Nat} {e : TypeId} {size : Nat} {v : Value} {k : Nat} {xs : List Value} (h : A.ownsRow base e size v k xs) (hg : A.grownBy B row) (hr : ∀ r, row = some r → ∃ o : Obj, A.heap[r]? = some o ∧ o.isCells = false) : B.ownsRow base e size v k xs := by
  refine ⟨h.1, h.2.imp id ?_⟩
  rintro ⟨g, cap, cur, rfl, hb, hc, h1, h2, h3, h4⟩
  refine ⟨g, cap, cur, rfl, hb, (hg.block g (Array.getElem?_eq_some_iff.1 hc).1 (fun e => ?_)).trans hc, h1, h2, h3, h4⟩
  obtain ⟨o, ho, hn⟩ := hr g e.symm
  rw [hc] at ho
  cases ho
  cases hn


theorem PoolC.own {β : Type} : OwnFrom (h + 1 + 1 + 1) (fun (_ : β) => PoolC w1 h pd pk ps ao n M) := fun s A B row i hg hr => by
  exact i.below ((Below.refl _ _).grown hg i.sz (fun k e => (hr k e).1))

theorem PoolV.own {β : Type} (fl : β → List Value) (st : β → Nat) (mp : β → Int) : OwnFrom (h + 1 + 1 + 1) (fun s => PoolV h (fl s) (st s) (mp s)) := fun s A B row i hg hr => by
  have hr' : ∀ r, row = some r → ∃ o : Obj, A.heap[r]? = some o ∧ o.isCells = false := fun r e => (hr r e).2
  obtain ⟨fv, f1, f2⟩ := i.c13
  exact ⟨⟨fv, cell_kept f1 hg hr', ownsRow_own f2 hg hr'⟩, cell_kept i.c15 hg hr', cell_kept i.c16 hg hr'⟩
end

/-- The frame in a round of the loop. -/
def frame6 (pd pk ps ao : Option Addr) (n M h : Nat) (i : Int) (rv : Value) (Br : Nat) : Array Value :=
  #[.pointer pd, .pointer pk, .pointer ps, .slice ao n n, undef, undef, undef, undef, .pointer none, .nilIface, .map (some M), .nilIface, .pointer (some ⟨h + 1, 0, none⟩), .int .i64 i, .pointer (some ⟨Br, 0, none⟩),
    .tuple #[.map (some M), .nilIface], .slice ao n n, .tuple #[.map (some M), .nilIface], .map (some M), .nilIface, .nilIface, .bool false, undef, .pointer pd, .pointer pk, .pointer ps, .slice ao n n, .map (some M),
    .agg #[.pointer pd, .pointer pk, .pointer ps, .int .i32 0, .int .u32 0, .slice ao n n, .int .i32 0, .int .u32 0, .int .u32 0, .int .u32 0, .int .i32 0, .int .i32 0, .map (some M), .slice none 0 0, .slice none 0 0, .int .u64 0, .int .u64 0, .int .i64 0],
    .pointer (some ⟨h, 0, none⟩), .pointer (some ⟨h, 0, none⟩), .pointer (some ⟨h, 0, none⟩), .pointer (some ⟨h, 5, none⟩), .slice ao n n, .func (.func 17) #[] #[.pointer (some ⟨h + 1 + 1, 0, none⟩)], .int .i64 i, rv,
    undef, undef, undef, undef, undef, undef, undef, undef, undef, undef, undef, undef, undef, undef, undef, undef, undef, undef, undef, undef, undef, undef, undef, undef, undef, undef, undef, undef, undef, undef, undef]
end Go.Proofs.YbulkcbvsFmt
