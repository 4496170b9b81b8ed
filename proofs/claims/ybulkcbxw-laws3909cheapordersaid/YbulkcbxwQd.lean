/-
  Seat b3909a: the timers object in memory; contracts of Len, Less.
-/
import Derived.Test.YbulkcbxwQc
import Derived.OwnWalk
namespace Go.Proofs.Ybulkcbxw
open Go.RowKit

/-- The row of a timers object: block g, room for cap, s timers. -/
structure HRow (W : World) (g cap s : Nat) (f : Nat → Tm) : Prop where
  blk : ∃ cur, W.heap[g]? = some (.cells cur 35 (0, 0)) ∧ cur.size = cap * 6
  le : s ≤ cap
  mx : cap ≤ maxLen
  tms : TmsAt W g s f
/-- The timers object at block T, its row at block g. -/
structure HS (T : Nat) (W : World) (g cap s : Nat) (f : Nat → Tm) (sq : Int) : Prop where
  tg : T < g
  c0 : W.cell? ⟨T, 0, none⟩ = some (.slice (some ⟨g, 0, none⟩) s cap)
  c1 : W.cell? ⟨T, 1, none⟩ = some (.int .u64 sq)
  fz : ∀ o, W.frozen? ⟨T, o, none⟩ = false
  row : HRow W g cap s f
/-- All but the blocks T and g is as it was. -/
structure Kept (T g : Nat) (W W' : World) : Prop where
  os : W'.os = W.os
  tape : W'.tape = W.tape
  output : W'.output = W.output
  size : W.heap.size ≤ W'.heap.size
  block : ∀ k, k < W.heap.size → k ≠ T → k ≠ g → W'.heap[k]? = W.heap[k]?
theorem Kept.refl (T g : Nat) (W : World) : Kept T g W W := ⟨rfl, rfl, rfl, Nat.le_refl _, fun _ _ _ _ => rfl⟩
theorem Kept.trans {T g : Nat} {A B C : World} (h : Kept T g A B) (k : Kept T g B C) : Kept T g A C :=
  ⟨k.os.trans h.os, k.tape.trans h.tape, k.output.trans h.output, Nat.le_trans h.size k.size, fun i hi h1 h2 => (k.block i (Nat.lt_of_lt_of_le hi h.size) h1 h2).trans (h.block i hi h1 h2)⟩
theorem Kept.of_below {T g : Nat} {A B : World} (h : Below A.heap.size A B) : Kept T g A B := ⟨h.os, h.tape, h.output, h.size, fun i hi _ _ => h.block i hi⟩
theorem Kept.below {T g B : Nat} {A C : World} (h : Kept T g A C) (hB : B ≤ A.heap.size) (h1 : B ≤ T) (h2 : B ≤ g) : Below B A C := ⟨h.os, h.tape, h.output, h.size, fun k hk => h.block k (Nat.lt_of_lt_of_le hk hB) (by omega) (by omega)⟩

theorem HRow.lt {W : World} {g cap s : Nat} {f : Nat → Tm} (h : HRow W g cap s f) : g < W.heap.size := by
  obtain ⟨cur, hc, _⟩ := h.blk
  exact (Array.getElem?_eq_some_iff.1 hc).1
theorem HRow.below {W W' : World} {B g cap s : Nat} {f : Nat → Tm} (h : HRow W g cap s f) (b : Below B W W') (hg : g < B) : HRow W' g cap s f := by
  obtain ⟨cur, hc, hs⟩ := h.blk
  exact ⟨⟨cur, (b.block g hg).trans hc, hs⟩, h.le, h.mx, fun i hi j v hv => (b.cell (p := ⟨g, i * 6 + j, none⟩) hg).trans (h.tms i hi j v hv)⟩
theorem HS.below {T : Nat} {W W' : World} {B g cap s : Nat} {f : Nat → Tm} {sq : Int} (h : HS T W g cap s f sq) (b : Below B W W') (hg : g < B) : HS T W' g cap s f sq :=
  ⟨h.tg, (b.cell (p := ⟨T, 0, none⟩) (Nat.lt_trans h.tg hg)).trans h.c0, (b.cell (p := ⟨T, 1, none⟩) (Nat.lt_trans h.tg hg)).trans h.c1, fun o => (b.frozen (p := ⟨T, o, none⟩) (Nat.lt_trans h.tg hg)).trans (h.fz o), h.row.below b hg⟩
theorem HS.new {T : Nat} {W W' : World} {g cap s : Nat} {f : Nat → Tm} {sq : Int} (h : HS T W g cap s f sq) (b : Below W.heap.size W W') : HS T W' g cap s f sq := h.below b h.row.lt

theorem len_tm {T : Nat} {w : World} {g cap s : Nat} {f : Nat → Tm} {sq : Int} (h : HS T w g cap s f sq) :
    Calls Yba.prog 7 #[.pointer (some ⟨T, 0, none⟩)] w fun e w' => e = .returned (.int .i64 s) ∧ w' = w := by
  have c0 := h.c0
  have hm := h.row.mx
  have hl := h.row.le
  unfold maxLen at hm
  clear h
  go_enter Yba.func7, Yba.ntmps7
  go_wp2
  go_ret
  exact ⟨rfl, rfl⟩

set_option maxRecDepth 100000 in
set_option maxHeartbeats 2000000 in
theorem less_tm {T : Nat} {w : World} {g cap s : Nat} {f : Nat → Tm} {sq : Int} (h : HS T w g cap s f sq) (i j : Nat) (hi : i < s) (hj : j < s) (_hs : s ≤ 1024) :
    Calls Yba.prog 28 #[.pointer (some ⟨T, 0, none⟩), .int .i64 i, .int .i64 j] w fun e w' => e = .returned (.bool (decide (lt (f i) (f j)))) ∧ Below w.heap.size w w' := by
  have c0 := h.c0
  have hT : T < w.heap.size := World.block_lt_of_cell? _ _ c0
  have hg := h.row.lt
  have hr := h.row.tms i hi
  have a0 := hr 0 _ rfl
  have a1 := hr 1 _ rfl
  have a2 := hr 2 _ rfl
  have a3 := hr 3 _ rfl
  have a4 := hr 4 _ rfl
  have a5 := hr 5 _ rfl
  have hr' := h.row.tms j hj
  have b0 := hr' 0 _ rfl
  have b1 := hr' 1 _ rfl
  have b2 := hr' 2 _ rfl
  have b3 := hr' 3 _ rfl
  have b4 := hr' 4 _ rfl
  have b5 := hr' 5 _ rfl
  simp only [Nat.add_zero] at a0 b0
  have hi' : (i : Int) < (s : Int) := by omega
  have hj' : (j : Int) < (s : Int) := by omega
  clear h hr hr'
  unfold lt
  generalize f i = x at *
  generalize f j = y at *
  go_enter Yba.func28, Yba.ntmps28
  go_wp2
  go_region
  all_goals go_wp2
  all_goals go_ret
  all_goals refine ⟨congrArg (fun b => Ending.returned (Value.bool b)) ?_, (((Below.refl _ _).alloc (Nat.le_refl _) _).alloc (by simp) _).drew⟩
  all_goals first
    | rfl
    | exact (decide_eq_true (by omega)).symm
    | exact (decide_eq_false (by omega)).symm
    | exact decide_eq_decide.2 (by omega)

theorem blk_setCell {W : World} {g : Nat} {cur : Array Value} {t : TypeId} {fr : Nat × Nat} (h : W.heap[g]? = some (.cells cur t fr)) (o : Nat) (v : Value) : ∃ cur', (W.setCell ⟨g, o, none⟩ v).heap[g]? = some (.cells cur' t fr) ∧ cur'.size = cur.size := by
  refine ⟨cur.setIfInBounds o v, ?_, by simp⟩
  simp [World.setCell, Array.getElem?_modify, h]
theorem blk_setCells {g : Nat} {t : TypeId} {fr : Nat × Nat} : ∀ (vs : List Value) (o : Nat) {W : World} {cur : Array Value}, W.heap[g]? = some (.cells cur t fr) → ∃ cur', (W.setCells g o vs).heap[g]? = some (.cells cur' t fr) ∧ cur'.size = cur.size
  | [], _, _, cur, h => ⟨cur, h, rfl⟩
  | v :: r, o, W, cur, h => by
    obtain ⟨c1, h1, e1⟩ := blk_setCell h o v
    obtain ⟨c2, h2, e2⟩ := blk_setCells r (o + 1) h1
    exact ⟨c2, h2, e2.trans e1⟩
theorem below_setCells {B b : Nat} {a : World} (hb : B ≤ b) : ∀ (vs : List Value) (o : Nat) {w : World}, Below B a w → Below B a (w.setCells b o vs)
  | [], _, _, h => h
  | _ :: r, o, _, h => below_setCells hb r (o + 1) (h.setCell (p := ⟨b, o, none⟩) hb _)
theorem heap_setCells {b k : Nat} (hk : k ≠ b) : ∀ (vs : List Value) (o : Nat) (w : World), (w.setCells b o vs).heap[k]? = w.heap[k]?
  | [], _, _ => rfl
  | _ :: r, o, w => (heap_setCells hk r (o + 1) (w.setCell ⟨b, o, none⟩ _)).trans (Below.heap_setCell w ⟨b, o, none⟩ _ k hk)
theorem HRow.there {W : World} {g cap s : Nat} {f : Nat → Tm} (h : HRow W g cap s f) {i : Nat} (hi : i < s) : W.there g (i * 6) 6 := fun j hj => by
  obtain ⟨cur, hc, hs⟩ := h.blk
  have hle := h.le
  refine ⟨?_, ?_⟩
  · rw [cell_of_row W g _ cur 35 (0, 0) hc]
    have : i * 6 + j < cur.size := by omega
    simp [this]
  · simp [World.frozen?, hc]

/-- One timer laid at place i. -/
theorem HRow.put {W : World} {g cap s : Nat} {f f' : Nat → Tm} (h : HRow W g cap s f) {i : Nat} (hi : i < s) (hf : ∀ k, k < s → k ≠ i → f' k = f k) : HRow (W.setCells g (i * 6) (f' i).cells) g cap s f' where
  blk := by
    obtain ⟨cur, hc, hs⟩ := h.blk
    obtain ⟨cur', hc', hs'⟩ := blk_setCells (f' i).cells (i * 6) hc
    exact ⟨cur', hc', hs'.trans hs⟩
  le := h.le
  mx := h.mx
  tms := fun k hk => by
    by_cases e : k = i
    · subst e
      exact World.rangeAt_setCells_same _ _ _ _ (h.there hk)
    · rw [hf k hk e]
      refine World.rangeAt_setCells_apart (h.tms k hk) _ _ _ (.inr ?_)
      rw [Tm.len, Tm.len]
      omega

theorem HS.swapped0 {T : Nat} {w : World} {g cap s : Nat} {f : Nat → Tm} {sq : Int} (h : HS T w g cap s f sq) {i j : Nat} (hi : i < s) (hj : j < s) :
    HS T ((w.setCells g (i * 6) (f j).cells).setCells g (j * 6) (f i).cells) g cap s (sw f i j) sq ∧ Kept T g w ((w.setCells g (i * 6) (f j).cells).setCells g (j * 6) (f i).cells) := by
  have hTg : T ≠ g := Nat.ne_of_lt h.tg
  have r1 : HRow (w.setCells g (i * 6) (f j).cells) g cap s (fun k => if k = i then f j else f k) := by
    have := h.row.put (f' := fun k => if k = i then f j else f k) hi (fun k _ e => by simp [e])
    simpa using this
  have r2 : HRow ((w.setCells g (i * 6) (f j).cells).setCells g (j * 6) (f i).cells) g cap s (sw f i j) := by
    have := r1.put (f' := sw f i j) hj (fun k _ e => by simp [sw, e])
    rwa [sw_right] at this
  generalize (f j).cells = cj at *
  generalize (f i).cells = ci at *
  have hb : ∀ k, k ≠ g → ((w.setCells g (i * 6) cj).setCells g (j * 6) ci).heap[k]? = w.heap[k]? := fun k hk => (heap_setCells hk _ _ _).trans (heap_setCells hk _ _ _)
  have b0 : Below 0 w ((w.setCells g (i * 6) cj).setCells g (j * 6) ci) := below_setCells (Nat.zero_le _) _ _ (below_setCells (Nat.zero_le _) _ _ (Below.refl _ _))
  generalize (w.setCells g (i * 6) cj).setCells g (j * 6) ci = W2 at *
  exact ⟨⟨h.tg, (World.cell?_of_block (a := ⟨T, 0, none⟩) (hb T hTg)).trans h.c0, (World.cell?_of_block (a := ⟨T, 1, none⟩) (hb T hTg)).trans h.c1, fun o => (World.frozen?_of_block (a := ⟨T, o, none⟩) (hb T hTg)).trans (h.fz o), r2⟩, ⟨b0.os, b0.tape, b0.output, b0.size, fun k _ _ hg => hb k hg⟩⟩
theorem HS.drewN {T : Nat} {w : World} {g cap s : Nat} {f : Nat → Tm} {sq : Int} (h : HS T w g cap s f sq) (q : Nat) : HS T (w.drewN q) g cap s f sq := h.new (below_drewN _ _ _)
theorem Kept.drewN {T g : Nat} {w W : World} (h : Kept T g w W) (q : Nat) : Kept T g w (W.drewN q) := h.trans (Kept.of_below (below_drewN _ _ _))
end Go.Proofs.Ybulkcbxw
