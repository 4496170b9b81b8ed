/-
  Seat b3905aF: indexRecords where no two records in use bear one name.
-/
import Derived.Test.YbulkcbvsFmtQb
import Derived.Maps.OwnOps
namespace Go.Proofs.YbulkcbvsFmt
open Go.RowKit Go.Maps

/-- A whole struct into the block that was made last. -/
theorem wpList_store_new {P : Program} {ops : Array Oper} {rest : List Oper} {o : Oper} {a : Act} {w : World} {Q : Exit → Act → World → Prop} (hgd : o.guard = none) (ty : TypeId) (x y : Operand) (ho : o.op = .store ty x y)
    (t : TypeId) (c c' : Array Value) (hx : a.eval x = .pointer (some ⟨w.heap.size, 0, none⟩)) (hy : a.eval y = .agg c') (hi : (P.info? ty).map (·.size) = some c'.size) (hs : c.size = c'.size) (h1 : c'.all (·.oneCell') = true)
    (h : wpList P ops Q rest (a.put o.dst undef) (w.alloc (.cells c' t))) : wpList P ops Q (o :: rest) a (w.alloc (.cells c t)) :=
  wpList_store_row hgd ty x y ho w.heap.size c' hx hy t c (heap_alloc_last w _) hi hs h1 (by rw [World.setRow_alloc_new]; exact h)

theorem zero26 (w : World) : (zeroValue 26).run Ybaf.prog w = .ok (.int .u64 0) w := by kernel_rfl
theorem size47 : (Ybaf.prog.info? 47).map (·.size) = some 32 := by kernel_rfl

theorem RecsAt.below {w W : World} {B R n : Nat} {nm : Nat → List Int} {rf : Nat → Int} (h : RecsAt w R n nm rf) (b : Below B w W) (hR : R < B) : RecsAt W R n nm rf := fun i hi j v hv =>
  (b.cell (p := ⟨R, i * 33 + j, none⟩) hR).trans (h i hi j v hv)

theorem len_rec {nm : List Int} (h : Good nm) (r : Int) : (recCells nm r).length = 33 := by simp [recCells, h.1]
theorem rec_last {nm : List Int} (h : Good nm) (r : Int) : (recCells nm r)[32]? = some (.int .u64 r) := by
  unfold recCells
  rw [List.getElem?_append_right (by simp [h.1])]
  simp [h.1]
theorem rec_one {nm : List Int} (r : Int) : (recCells nm r).toArray.all (·.oneCell') = true := all_oneCell_toArray (fun v hv => by
  simp only [recCells, List.mem_append, List.mem_map, List.mem_singleton] at hv
  rcases hv with ⟨x, _, rfl⟩ | rfl <;> rfl)
theorem rec_name {nm : List Int} (r : Int) {b : Nat} {W : World} (t : TypeId) (hb : b = W.heap.size) : (W.alloc (.cells (recCells nm r).toArray t)).rangeAt b 0 (nmCells nm) := fun j v hv => by
  subst hb
  rw [Nat.zero_add, World.cell?_alloc_at _ _ _ _ rfl]
  have hj : j < nm.length := by
    have := (List.getElem?_eq_some_iff.1 hv).1
    simpa [nmCells] using this
  have : (recCells nm r)[j]? = some v := by
    unfold recCells
    rw [List.getElem?_append_left (by simpa using hj)]
    exact hv
  simpa using this

set_option maxRecDepth 100000 in
set_option maxHeartbeats 2000000 in
theorem index_ok (R n : Nat) (nm : Nat → List Int) (rf : Nat → Int) (fv : Value) (w : World) (hn : n ≤ 1024) (hr : RecsAt w R n nm rf) (hR : R < w.heap.size) (hg : ∀ i, i < n → Good (nm i)) (ha : Apart n nm rf) :
    Calls Ybaf.prog 9 #[.slice (some ⟨R, 0, none⟩) n n, fv] w fun e w' => ∃ D, e = .returned (.tuple #[.map (some w.heap.size), .nilIface]) ∧ Below w.heap.size w w' ∧
      w'.ownsMap Ybaf.prog 47 (plainElem Ybaf.prog 26) w.heap.size n D ∧ Idx D n nm rf := by
  have hmm := @run_makeMap Ybaf.prog
  go_enter Ybaf.func9, Ybaf.ntmps9
  go_wp2
  go_loopw [15] (fun i W => ∃ (k : Nat) (D : DataW Unit), k ≤ n ∧ i = .int .i64 k ∧ Below w.heap.size w W ∧ W.ownsMap Ybaf.prog 47 (plainElem Ybaf.prog 26) w.heap.size k D ∧ Idx D k nm rf) (fun i _ => n - (intOf i).toNat)
  case atStart => exact ⟨0, .map [], Nat.zero_le _, rfl, (Below.refl _ _).alloc (Nat.le_refl _) _, World.ownsMap_made _ _ _ _, Idx.zero nm rf⟩
  case round =>
    obtain ⟨k, D, hk, rfl, bl, hown, hi⟩ := hrel
    by_cases hlt : k < n
    · have hgk := hg k hlt
      have hrk := hr.below bl hR k hlt
      have h32 := rec_last hgk (rf k)
      have hlen : Hid ((recCells (nm k) (rf k)).length = 33) := len_rec hgk (rf k)
      have hone := rec_one (nm := nm k) (rf k)
      have hname := fun t => rec_name (nm := nm k) (rf k) (b := wr.heap.size) (W := wr) t rfl
      generalize (recCells (nm k) (rf k)) = X at *
      by_cases h0 : rf k = 0
      · have hi' := hi.skip h0
        have hown' := hown.mono (Nat.le_succ k)
        have hb0 : (rf k == 0) = true := by simp [h0]
        clear hi hmm hr hg ha h0
        go_wp2_with (first
          | (refine wpList_load_mid ?_ 49 (.tmp 18) ?_ R (k * 33) ?_ X _ hrk Ybaf.underlying49 rfl ?_ ?_
             · exact rfl
             · exact rfl
             · exact rfl
             · exact size49.trans (by rw [hlen.out]))
          | (refine wpList_store_new ?_ 49 (.tmp 8) (.tmp 19) ?_ 49 _ X.toArray ?_ ?_ ?_ ?_ hone ?_
             · exact rfl
             · exact rfl
             · exact rfl
             · exact rfl
             · exact size49.trans (by simp [hlen.out])
             · simp [hlen.out])
          | (refine wpList_load_mid ?_ 47 (.tmp 25) ?_ wr.heap.size 0 ?_ (nmCells (nm k)) _ (hname _) Ybaf.underlying47 rfl ?_ ?_
             · exact rfl
             · exact rfl
             · exact rfl
             · exact size47.trans (by simp [nmCells, hgk.1]))
          | (refine wpList_load_mid ?_ 47 (.tmp 40) ?_ wr.heap.size 0 ?_ (nmCells (nm k)) _ (hname _) Ybaf.underlying47 rfl ?_ ?_
             · exact rfl
             · exact rfl
             · exact rfl
             · exact size47.trans (by simp [nmCells, hgk.1]))
          | (at_lookup; refine wpList_lookup_own_ok_int _ rfl _ _ 57 rfl 47 26 .u64 law47 Ybaf.underlying57 Ybaf.underlying26 (zero26 _) w.heap.size k D rfl (hown.alloc _) (keyV (nm k)) _ rfl (key_good hgk) ?_; intro c hat hwc; clear hat hwc)
          | (at_mapUpdate; refine wpList_mapUpdate_own _ rfl _ _ _ 57 rfl 47 26 law47 Ybaf.underlying57 _ w.heap.size k D rfl (hown.alloc _) (by unfold maxLen; omega) (keyV (nm k)) _ _ rfl rfl (key_good hgk) _ [] (plainElem_int Ybaf.underlying26 (WalkArith.wf_u64 (by omega))) ?_; intro w1 hown1 hgrow1))
        go_roundw
        case rel => exact ⟨k + 1, D, by omega, by go_num, bl.alloc bl.size _, hown'.alloc _, hi'⟩
        case measure => simp [intOf]; omega
      · have hmiss := hi.miss ha hlt hgk h0
        have hi' := hi.put (fun i h => hg i (by omega)) h0 hmiss
        have hb0 : (rf k == 0) = false := by simp [h0]
        clear hi hmm hr hg ha h0
        go_wp2_with (first
          | (refine wpList_load_mid ?_ 49 (.tmp 18) ?_ R (k * 33) ?_ X _ hrk Ybaf.underlying49 rfl ?_ ?_
             · exact rfl
             · exact rfl
             · exact rfl
             · exact size49.trans (by rw [hlen.out]))
          | (refine wpList_store_new ?_ 49 (.tmp 8) (.tmp 19) ?_ 49 _ X.toArray ?_ ?_ ?_ ?_ hone ?_
             · exact rfl
             · exact rfl
             · exact rfl
             · exact rfl
             · exact size49.trans (by simp [hlen.out])
             · simp [hlen.out])
          | (refine wpList_load_mid ?_ 47 (.tmp 25) ?_ wr.heap.size 0 ?_ (nmCells (nm k)) _ (hname _) Ybaf.underlying47 rfl ?_ ?_
             · exact rfl
             · exact rfl
             · exact rfl
             · exact size47.trans (by simp [nmCells, hgk.1]))
          | (refine wpList_load_mid ?_ 47 (.tmp 40) ?_ wr.heap.size 0 ?_ (nmCells (nm k)) _ (hname _) Ybaf.underlying47 rfl ?_ ?_
             · exact rfl
             · exact rfl
             · exact rfl
             · exact size47.trans (by simp [nmCells, hgk.1]))
          | (at_lookup; refine wpList_lookup_own_ok_int _ rfl _ _ 57 rfl 47 26 .u64 law47 Ybaf.underlying57 Ybaf.underlying26 (zero26 _) w.heap.size k D rfl (hown.alloc _) (keyV (nm k)) _ rfl (key_good hgk) ?_; intro c hat hwc; clear hat hwc)
          | (at_mapUpdate; refine wpList_mapUpdate_own _ rfl _ _ _ 57 rfl 47 26 law47 Ybaf.underlying57 _ w.heap.size k D rfl (hown.alloc _) (by unfold maxLen; omega) (keyV (nm k)) _ _ rfl rfl (key_good hgk) _ [] (plainElem_int Ybaf.underlying26 (WalkArith.wf_u64 (by omega))) ?_; intro w1 hown1 hgrow1))
        go_roundw
        case rel => exact ⟨k + 1, _, by omega, by go_num, (bl.alloc bl.size _).grown hgrow1 (by simp; have := bl.size; omega) (fun j e => by cases e; exact Nat.le_refl _), hown1, hi'⟩
        case measure => simp [intOf]; omega
    · go_wp2
      go_ret2
      obtain rfl : k = n := by omega
      exact ⟨D, rfl, bl, hown, hi⟩
end Go.Proofs.YbulkcbvsFmt
