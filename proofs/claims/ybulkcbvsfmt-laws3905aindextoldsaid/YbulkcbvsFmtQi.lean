/-
  Seat b3905aF: newPool where no two records in use bear one name: the walk.
-/
import Derived.Test.YbulkcbvsFmtQh
namespace Go.Proofs.YbulkcbvsFmt
open Go.RowKit Go.Shelf Go.Maps
attribute [local go_sem] Oper.semAt_some

/-- The world where the loop begins. -/
def pool0 (w1 : World) (pd pk ps ao : Option Addr) (n M : Nat) : World :=
  ((w1.alloc (.cells #[.pointer pd, .pointer pk, .pointer ps, .int .i32 0, .int .u32 0, .slice ao n n, .int .i32 0, .int .u32 0, .int .u32 0, .int .u32 0, .int .i32 0, .int .i32 0, .map (some M), .slice none 0 0, .slice none 0 0, .int .u64 0, .int .u64 0, .int .i64 0] 60)).alloc
    (.cells #[.pointer (some ⟨w1.heap.size, 0, none⟩)] 50)).alloc (.cells #[.slice ao n n] 23)

section
variable {w1 : World} {pd pk ps ao : Option Addr} {n M : Nat}
theorem pool0_size : (pool0 w1 pd pk ps ao n M).heap.size = w1.heap.size + 1 + 1 + 1 := by simp [pool0]
theorem pool0_below : Below w1.heap.size w1 (pool0 w1 pd pk ps ao n M) := (((Below.refl _ _).alloc (Nat.le_refl _) _).alloc (by simp) _).alloc (by simp; omega) _
theorem pool0_C : PoolC w1 w1.heap.size pd pk ps ao n M (pool0 w1 pd pk ps ao n M) := by
  constructor
  case bl => exact pool0_below
  case sz => rw [pool0_size]; exact Nat.le_refl _
  all_goals simp [pool0, go_sem]
theorem pool0_V : PoolV w1.heap.size [] 0 0 (pool0 w1 pd pk ps ao n M) := by
  constructor
  case c13 => exact ⟨.slice none 0 0, by simp [pool0, go_sem], World.ownsRow_nil _ _ _ _⟩
  all_goals simp [pool0, go_sem]
end

theorem RecSl.mono {n₀ n₁ : Nat} {A : World} {sv : Value} {n : Nat} {nm : Nat → List Int} {rf : Nat → Int} (h : n₀ ≤ n₁) : RecSl n₀ A sv n nm rf → RecSl n₁ A sv n nm rf
  | .inl e => .inl e
  | .inr ⟨R, e, hb, hc⟩ => .inr ⟨R, e, Nat.lt_of_lt_of_le hb h, hc⟩

theorem Kp_put {h : Nat} (W : World) (l : Nat) (o o' : Obj) (hl : h + 1 + 1 + 1 ≤ l) (_ho : W.heap[l]? = some o) : Kp h (h + 1 + 1) W (W.putObj l o') := by
  have hg := grownBy_putObj' W l o'
  have hlt : l < W.heap.size := (Array.getElem?_eq_some_iff.1 _ho).1
  refine ⟨(Below.refl _ _).grown hg (by omega) (fun k e => by cases e; omega), ?_⟩
  exact World.cell?_of_block (w := W) (World.putObj_heap_other (by show h + 1 + 1 ≠ l; omega))

theorem step_append {w1 W w2 : World} {h : Nat} {pd pk ps ao : Option Addr} {n M : Nat} {fl : List Value} {st : Nat} {mp : Int} (hC : PoolC w1 h pd pk ps ao n M W) (hV : PoolV h fl st mp W) {fv : Value} (_hfv : W.cell? ⟨h, 13, none⟩ = some fv) (hown : W.ownsRow (h + 1 + 1 + 1) 26 1 fv fl.length fl)
    {k : Int} {g cap : Nat} (r1 : w2.ownsRow (h + 1 + 1 + 1) 26 1 (.slice (some ⟨g, 0, none⟩) (fl.length + 1) cap) (fl.length + 1) (fl ++ [.int .u64 k])) (r2 : (W.drew.alloc (.cells #[.int .u64 k] 26)).grownBy w2 fv.ownBlock) :
    KeepsOthers W (w2.setCell ⟨h, 13, none⟩ (.slice (some ⟨g, 0, none⟩) (fl.length + 1) cap)) ∧ Kp h (h + 1 + 1) W (w2.setCell ⟨h, 13, none⟩ (.slice (some ⟨g, 0, none⟩) (fl.length + 1) cap)) ∧
      PoolC w1 h pd pk ps ao n M (w2.setCell ⟨h, 13, none⟩ (.slice (some ⟨g, 0, none⟩) (fl.length + 1) cap)) ∧ PoolV h (fl ++ [.int .u64 k]) st mp (w2.setCell ⟨h, 13, none⟩ (.slice (some ⟨g, 0, none⟩) (fl.length + 1) cap)) := by
  have b0 : Below (h + 1 + 1 + 1) W (W.drew.alloc (.cells #[.int .u64 k] 26)) := ((Below.refl _ W).drew).alloc hC.sz _
  have b2 : Below (h + 1 + 1 + 1) W w2 := b0.grown r2 (Nat.le_trans hC.sz b0.size) (fun j e => by
    rcases hown.2 with ⟨rfl, _⟩ | ⟨g', c', cur, rfl, hg', _⟩
    · cases e
    · simp only [Value.ownBlock, Option.some.injEq] at e; omega)
  have ko : KeepsOthers W w2 := by
    refine ((⟨Nat.le_refl _, fun _ _ h _ => h⟩ : KeepsOthers W W.drew).trans (KeepsOthers.alloc _ _)).trans (KeepsOthers.of_grownBy r2 (fun j o e ho => ?_))
    rcases hown.2 with ⟨rfl, _⟩ | ⟨g', c', cur, rfl, hg', hc', _⟩
    · cases e
    · simp only [Value.ownBlock, Option.some.injEq] at e
      subst e
      have := (Below.heap_alloc W.drew (.cells #[.int .u64 k] 26) g' (Array.getElem?_eq_some_iff.1 hc').1).trans hc'
      rw [this] at ho
      cases ho
      rfl
  have hC2 := hC.below b2
  have c13 := (b2.cell (p := ⟨h, 13, none⟩) (by show h < _; omega)).trans _hfv
  have c15 := (b2.cell (p := ⟨h, 15, none⟩) (by show h < _; omega)).trans hV.c15
  have c16 := (b2.cell (p := ⟨h, 16, none⟩) (by show h < _; omega)).trans hV.c16
  refine ⟨ko.trans (KeepsOthers.setCell _ _ _), ⟨(b2.mono (B' := h) (by omega)).setCell (p := ⟨h, 13, none⟩) (Nat.le_refl _) _, (cell_off (.inl (by omega))).trans (b2.cell (p := ⟨h + 1 + 1, 0, none⟩) (by show h + 1 + 1 < _; omega))⟩, hC2.set _ (.inl rfl), ⟨⟨_, World.cell?_setCell_same _ _ _ c13, ?_⟩, (cell_off (.inr (by omega))).trans c15, (cell_off (.inr (by omega))).trans c16⟩⟩
  have := ownsRow_set (b := h) (o := 13) (u := .slice (some ⟨g, 0, none⟩) (fl.length + 1) cap) r1 (by show h < _; omega)
  simpa using this

theorem step_use {w1 W : World} {h : Nat} {pd pk ps ao : Option Addr} {n M : Nat} {fl : List Value} {st : Nat} {mp : Int} (hC : PoolC w1 h pd pk ps ao n M W) (hV : PoolV h fl st mp W) (r : Int) :
    KeepsOthers W ((W.setCell ⟨h, 15, none⟩ (.int .u64 ((st : Int) + 1))).drew.setCell ⟨h, 16, none⟩ (.int .u64 (IntKind.u64.wrap (mp + r)))) ∧ Kp h (h + 1 + 1) W ((W.setCell ⟨h, 15, none⟩ (.int .u64 ((st : Int) + 1))).drew.setCell ⟨h, 16, none⟩ (.int .u64 (IntKind.u64.wrap (mp + r)))) ∧
      PoolC w1 h pd pk ps ao n M ((W.setCell ⟨h, 15, none⟩ (.int .u64 ((st : Int) + 1))).drew.setCell ⟨h, 16, none⟩ (.int .u64 (IntKind.u64.wrap (mp + r)))) ∧ PoolV h fl (st + 1) (IntKind.u64.wrap (mp + r)) ((W.setCell ⟨h, 15, none⟩ (.int .u64 ((st : Int) + 1))).drew.setCell ⟨h, 16, none⟩ (.int .u64 (IntKind.u64.wrap (mp + r)))) := by
  have hC1 := hC.set (.int .u64 ((st : Int) + 1)) (o := 15) (.inr (.inl rfl))
  have hC2 : PoolC w1 h pd pk ps ao n M (W.setCell ⟨h, 15, none⟩ (.int .u64 ((st : Int) + 1))).drew := hC1.below ((Below.refl _ _).drew)
  obtain ⟨fv, f1, f2⟩ := hV.c13
  refine ⟨((KeepsOthers.setCell W ⟨h, 15, none⟩ (.int .u64 ((st : Int) + 1))).trans (KeepsOthers.drew _)).trans (KeepsOthers.setCell _ _ _), ⟨?_, ?_⟩, hC2.set _ (.inr (.inr rfl)), ⟨⟨fv, ?_, ?_⟩, ?_, ?_⟩⟩
  · exact (((Below.refl h W).setCell (p := ⟨h, 15, none⟩) (Nat.le_refl _) _).drew).setCell (p := ⟨h, 16, none⟩) (Nat.le_refl _) _
  · exact (cell_off (.inl (by omega))).trans (cell_off (W := W) (.inl (by omega)))
  · exact (cell_off (.inr (by omega))).trans ((cell_off (W := W) (.inr (by omega))).trans f1)
  · exact ownsRow_set (World.ownsRow.drew (ownsRow_set f2 (by omega))) (by omega)
  · exact (cell_off (.inr (by omega))).trans (World.cell?_setCell_same W _ _ hV.c15)
  · exact World.cell?_setCell_same _ _ _ ((cell_off (W := W) (.inr (by omega))).trans hV.c16)

set_option maxRecDepth 100000 in
set_option maxHeartbeats 4000000 in
theorem pool_in (F : Fence) (hF : Hid (F = Fence.wide)) (h6 : F.fn 6) (h9 : F.fn 9) (h12 : F.fn 12) (h17 : F.fn 17) (hro : F.round = none) (pd pk ps ao : Option Addr) (n : Nat) (nm : Nat → List Int) (rf : Nat → Int) (w : World) (hn : n ≤ 1024) (hr : RecSl w.heap.size w (.slice ao n n) n nm rf)
    (hg : ∀ i, i < n → Good (nm i)) (ha : Apart n nm rf) :
    CallsIn F 3 Ybaf.prog 6 #[.pointer pd, .pointer pk, .pointer ps, .slice ao n n] w fun e W => ∃ w1 D, e = .returned (.tuple #[.pointer (some ⟨w1.heap.size, 0, none⟩), .nilIface]) ∧ Below w.heap.size w w1 ∧ w.heap.size < w1.heap.size ∧
      PoolC w1 w1.heap.size pd pk ps ao n w.heap.size W ∧ PoolV w1.heap.size (freeL rf (down n n)) (stL rf (down n n)) (mpL rf (down n n)) W ∧ w1.ownsMap Ybaf.prog 47 (plainElem Ybaf.prog 26) w.heap.size n D ∧ Idx D n nm rf := by
  refine callsIn_of_wp_marks Ybaf.func6 rfl h6 ?_ hro
  simp only [Ybaf.ntmps6, List.size_toArray, List.length_cons, List.length_nil, Nat.reduceAdd, Nat.reduceSub, Array.replicate_succ, Array.replicate_zero, List.push_toArray, List.append_toArray, List.nil_append, List.cons_append]
  gi_wp2_with (first
    | (gi_at_call 9; refine (wide_of hF.out (index_sl ao n nm rf _ w hn hr hg ha)).mono ?_; rintro e w1 ⟨D, rfl, bl1, hown1, hidx⟩)
    | (gi_at_call 12; refine (back_in F _ h12 hro _ _ _ _).mono ?_; rintro e w2 ⟨rfl, rfl⟩))
  change Code.wpIn F 3 Ybaf.prog _ _ _ (pool0 w1 pd pk ps ao n w.heap.size)
  have hlt1 := hown1.lt
  have hsz := pool0_size (w1 := w1) (pd := pd) (pk := pk) (ps := ps) (ao := ao) (n := n) (M := w.heap.size)
  have hrs : RecSl w1.heap.size (pool0 w1 pd pk ps ao n w.heap.size) (.slice ao n n) n nm rf := (hr.below (bl1.trans (pool0_below.mono bl1.size))).mono bl1.size
  refine wpIn_rangeFunc_ownH hro (by omega) (gf := 17) (lb := #[.pointer (some ⟨w1.heap.size + 1 + 1, 0, none⟩)]) rfl h17 (enters_of Ybaf.func17 (by kernel_rfl) rfl)
    (back_stops F (3 - 1) h17 hro (by omega) (w1.heap.size + 1 + 1) w1.heap.size n (.slice ao n n) nm rf hn hg _ (by rw [hsz]; omega) (by rw [hsz]; omega) pool0_C.bs hrs)
    (fun h k => h.trans k) (fun W l o o' hl ho _ _ => Kp_put W l o o' (by rw [hsz] at hl; exact hl) ho) (Below.refl _ _) (fun _ => rfl)
    (fun pre W => PoolC w1 w1.heap.size pd pk ps ao n w.heap.size W ∧ PoolV w1.heap.size (freeL rf pre) (stL rf pre) (mpL rf pre) W)
    (fun _ _ _ => False)
    (by rw [hsz]; exact OwnFrom.and PoolC.own (PoolV.own (freeL rf) (stL rf) (mpL rf))) (fun _ _ _ _ _ hs _ _ => hs) ⟨pool0_C, pool0_V⟩
    (fun x a' W => ∃ Br, w1.heap.size + 1 + 1 + 1 ≤ Br ∧ W.heap[Br]? = some (.cells (recCells (nm x.1) (rf x.1)).toArray 49 (0, 0)) ∧ a' = { tmps := frame6 pd pk ps ao n w.heap.size w1.heap.size x.1 (.agg (recCells (nm x.1) (rf x.1)).toArray) Br, defers := [] })
    ?hAx ?assign ?body ?done ?stop
  case hAx =>
    rintro x a' _ A B row ⟨Br, b1, b2, b3⟩ hgr hrow
    refine ⟨Br, b1, (hgr.block Br (Array.getElem?_eq_some_iff.1 b2).1 (fun e => ?_)).trans b2, b3⟩
    obtain ⟨_, o, ho, hno⟩ := hrow Br e.symm
    rw [b2] at ho
    cases ho
    cases hno
  case assign =>
    rintro l pre x W K ⟨hC, hV⟩ hK
    have hlen : Hid ((recCells (nm x.1) (rf x.1)).length = 33) := len_rec (hg x.1 x.2) _
    have hone := rec_one (nm := nm x.1) (rf x.1)
    simp only [encs]
    gi_wp2_with (
      refine wpListIn_store_new ?_ 49 (.tmp 14) (.tmp 36) ?_ 49 _ (recCells (nm x.1) (rf x.1)).toArray ?_ ?_ ?_ ?_ hone ?_
      · exact rfl
      · exact rfl
      · exact rfl
      · exact rfl
      · exact size49.trans (by simp [hlen.out])
      · simp [hlen.out])
    have hb3 : Below (w1.heap.size + 1 + 1 + 1) W (W.alloc (.cells (recCells (nm x.1) (rf x.1)).toArray 49)) := (Below.refl _ _).alloc hC.sz _
    refine hK _ _ ((KeepsOthers.alloc _ _).from _) ⟨hb3.mono (by omega), hb3.cell (p := ⟨w1.heap.size + 1 + 1, 0, none⟩) (by show w1.heap.size + 1 + 1 < _; omega)⟩ ⟨hC.below hb3, ?_⟩ ⟨W.heap.size, hC.sz, heap_alloc_last W _, rfl⟩
    exact (PoolV.own (fun _ : Unit => _) (fun _ => _) (fun _ => _)).alloc (s := ()) _ hV
  case body =>
    rintro l pre x a' W hl ⟨r, hrl⟩ ⟨hC, hV⟩ ⟨Br, hBr, hcb, rfl⟩ hlt
    have hbx := hC.bx
    have hgx := hg x.1 x.2
    have hc32 : W.cell? ⟨Br, 32, none⟩ = some (.int .u64 (rf x.1)) := by
      rw [cell_of_row W Br 32 _ _ _ hcb]
      simpa using rec_last hgx (rf x.1)
    obtain ⟨fv, hfv, hown⟩ := hV.c13
    have hfl := freeL_le rf pre
    have hst := stL_le rf pre
    have hxn := x.2
    simp only [frame6]
    by_cases h0 : rf x.1 = 0
    · have hb0 : (rf x.1 == 0) = true := by simp [h0]
      have hres : ∀ a g cap w2, w2.ownsRow (w1.heap.size + 1 + 1 + 1) 26 1 (.slice (some ⟨g, 0, none⟩) ((freeL rf pre).length + 1) cap) ((freeL rf pre).length + 1) (freeL rf pre ++ [.int .u64 (x.1 : Nat)]) →
          (W.drew.alloc (.cells #[.int .u64 (x.1 : Nat)] 26)).grownBy w2 fv.ownBlock → ownPostG (pool0 w1 pd pk ps ao n w.heap.size).heap.size (Kp w1.heap.size (w1.heap.size + 1 + 1)) (fun pre W => PoolC w1 w1.heap.size pd pk ps ao n w.heap.size W ∧ PoolV w1.heap.size (freeL rf pre) (stL rf pre) (mpL rf pre) W) (fun _ _ _ => False) (pre ++ [x]) W .normal a
            (w2.setCell ⟨w1.heap.size, 13, none⟩ (.slice (some ⟨g, 0, none⟩) ((freeL rf pre).length + 1) cap)) := fun a g cap w2 r1 r2 => by
        obtain ⟨k1, k2, k3, k4⟩ := step_append hC hV hfv hown r1 r2
        exact ⟨k1.from _, k2, k3, by rw [freeL_zero rf h0, stL_zero rf h0, mpL_zero rf h0]; exact k4⟩
      clear h0
      gi_wp2
      refine region9 (fun f => by show F.fn f; rw [hF.out]; trivial) rfl (by kernel_rfl) (by kernel_rfl) (by simp) (w1.heap.size + 1) w1.heap.size x.1 (freeL rf pre).length fv (freeL rf pre) (w1.heap.size + 1 + 1 + 1) rfl rfl (by omega) (by omega) hbx hfv (hC.fz 13) hown (by omega) (by omega) hC.sz ?_
      intro a g cap w2 r1 r2
      have hend := hres a g cap w2 r1 r2
      clear hres
      gi_wp2
      exact hend
    · have hb0 : (rf x.1 == 0) = false := by simp [h0]
      have hc15 := hV.c15
      have hc16 := hV.c16
      have hf15 := hC.fz 15
      have hf16 := hC.fz 16
      gi_wp2
      refine region11 (fun f => by show F.fn f; rw [hF.out]; trivial) rfl (by kernel_rfl) (by kernel_rfl) (by simp) (w1.heap.size + 1) w1.heap.size Br (mpL rf pre) (rf x.1) rfl rfl ?_ ?_ ?_ ?_ ?_
      · exact (cell_off (.inl (by omega))).trans hbx
      · exact (cell_off (.inr (by omega))).trans hc16
      · rw [World.frozen?_setCell]; exact hf16
      · exact (cell_off (.inl (by omega))).trans hc32
      intro a
      gi_wp2
      obtain ⟨k1, k2, k3, k4⟩ := step_use hC hV (rf x.1)
      exact ⟨k1.from _, k2, k3, by rw [freeL_use rf h0, stL_use rf h0, mpL_use rf h0]; exact k4⟩
  case done =>
    rintro D' ys W hD rfl ⟨hC, hV⟩ hK
    have hbx := hC.bx
    gi_wp2
    refine ⟨by simp, .inl ⟨_, _, rfl, run_takeDeferred hK, ?_⟩⟩
    rw [hsz] at hD
    exact ⟨_, results_tmp2 rfl _ _ _, w1, D, rfl, bl1, hlt1, PoolC.own.putObj (s := ()) _ hC hD hK rfl, (PoolV.own (fun _ : Unit => _) (fun _ => _) (fun _ => _)).putObj (s := ()) _ hV hD hK rfl, hown1, hidx⟩
  case stop => exact fun _ _ _ _ _ _ h _ => h.elim
end Go.Proofs.YbulkcbvsFmt
