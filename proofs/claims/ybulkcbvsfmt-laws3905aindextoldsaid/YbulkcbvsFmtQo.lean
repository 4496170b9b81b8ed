/-
  Seat b3905aF: indexRecords and newPool where two records in use bear one name.
-/
import Derived.Test.YbulkcbvsFmtQn
namespace Go.Proofs.YbulkcbvsFmt
open Go.RowKit Go.Maps Go.Shelf Go.Extern.Stop Go.Stop Go.Extern

theorem Apart.zero (nm : Nat → List Int) (rf : Nat → Int) : Apart 0 nm rf := fun _ _ _ h => absurd h (Nat.not_lt_zero _)
theorem Apart.skip {k : Nat} {nm : Nat → List Int} {rf : Nat → Int} (h : Apart k nm rf) (h0 : rf k = 0) : Apart (k + 1) nm rf := fun i j hij hj h1 h2 => by
  by_cases e : j = k
  · subst e; exact absurd h0 h2
  · exact h i j hij (by omega) h1 h2
theorem Apart.put {D : DataW Unit} {k : Nat} {nm : Nat → List Int} {rf : Nat → Int} (h : Apart k nm rf) (hi : Idx D k nm rf) (hg : Good (nm k)) (hn : Maps.has D (kOf (nm k)) = false) : Apart (k + 1) nm rf := fun i j hij hj h1 h2 => by
  by_cases e : j = k
  · subst e
    intro hnm
    have := (hi.hs _ hg).2 ⟨i, hij, h1, hnm⟩
    rw [hn] at this
    cases this
  · exact h i j hij (by omega) h1 h2

set_option maxRecDepth 100000 in
set_option maxHeartbeats 2000000 in
theorem index_dup (F : Interp) (a : Addr) (s : ByteArray) (R n : Nat) (nm : Nat → List Int) (rf : Nat → Int) (w : World) (hn : n ≤ 1024) (hr : RecsAt w R n nm rf) (hR : R < w.heap.size) (hg : ∀ i, i < n → Good (nm i)) (hd : Hid (¬ Apart n nm rf))
    (hF : F.answers w.tape) (hgl : w.cell? ⟨0, 0, none⟩ = some (.iface 94 (.pointer (some a)))) (hs : w.cell? a = some (.string s)) :
    Calls Ybaf.prog 9 #[.slice (some ⟨R, 0, none⟩) n n, .func (.func 10) #[] #[]] w fun e w' => ∃ pb, e = .returned (.tuple #[.map none, .iface 81 (.pointer (some ⟨pb, 0, none⟩))]) ∧ Below w.heap.size w w' ∧ w.heap.size ≤ pb ∧ w'.cell? ⟨pb, 1, none⟩ = some (.iface 94 (.pointer (some a))) := by
  have hmm := @run_makeMap Ybaf.prog
  go_enter Ybaf.func9, Ybaf.ntmps9
  go_wp2
  go_loopw [15] (fun i W => ∃ (k : Nat) (D : DataW Unit), k ≤ n ∧ i = .int .i64 k ∧ Below w.heap.size w W ∧ W.ownsMap Ybaf.prog 47 (plainElem Ybaf.prog 26) w.heap.size k D ∧ Idx D k nm rf ∧ Apart k nm rf) (fun i _ => n - (intOf i).toNat)
  case atStart => exact ⟨0, .map [], Nat.zero_le _, rfl, (Below.refl _ _).alloc (Nat.le_refl _) _, World.ownsMap_made _ _ _ _, Idx.zero nm rf, Apart.zero nm rf⟩
  case round =>
    obtain ⟨k, D, hk, rfl, bl, hown, hi, hap⟩ := hrel
    by_cases hlt : k < n
    · have hgk := hg k hlt
      have hrk := hr.below bl hR k hlt
      have h32 := rec_last hgk (rf k)
      have hlen : Hid ((recCells (nm k) (rf k)).length = 33) := len_rec hgk (rf k)
      have hone := rec_one (nm := nm k) (rf k)
      have hname := fun t => rec_name (nm := nm k) (rf k) (b := wr.heap.size) (W := wr) t rfl
      have hFk : Hid (F.answers wr.tape) := by rw [Hid, bl.tape]; exact hF
      have hgl1 := (bl.cell (p := ⟨0, 0, none⟩) (World.block_lt_of_cell? _ _ hgl)).trans hgl
      have hs1 := (bl.cell (p := a) (World.block_lt_of_cell? _ _ hs)).trans hs
      have hx1 : ∀ o, (wr.alloc o).cell? ⟨0, 0, none⟩ = some (.iface 94 (.pointer (some a))) := fun o => by rw [World.cell?_alloc_old _ _ _ (Nat.ne_of_lt (World.block_lt_of_cell? _ _ hgl1))]; exact hgl1
      have hx2 : ∀ o, (wr.alloc o).cell? a = some (.string s) := fun o => by rw [World.cell?_alloc_old _ _ _ (Nat.ne_of_lt (World.block_lt_of_cell? _ _ hs1))]; exact hs1
      clear hgl1 hs1
      generalize (recCells (nm k) (rf k)) = X at *
      by_cases h0 : rf k = 0
      · have hi' := hi.skip h0
        have hap' := hap.skip h0
        have hown' := hown.mono (Nat.le_succ k)
        have hb0 : (rf k == 0) = true := by simp [h0]
        clear hi hmm hr hg h0 hx1 hx2 hFk hap
        go_wp2_with (first
          | (refine wpList_load_mid ?_ 49 (.tmp 18) ?_ R (k * 33) ?_ X _ hrk Ybaf.underlying49 rfl ?_ ?_
             · exact rfl
             · exact rfl
             · exact rfl
             · exact size49.trans (by rw [hlen.out]))
          | (refine wpList_store_new ?_ 49 (.tmp 8) (.tmp 19) ?_ 49 _ X.toArray ?_ ?_ ?_ ?_ hone ?_
             · exact rfl
             · exact rfl
             · exact rfl
             · exact rfl
             · exact size49.trans (by simp [hlen.out])
             · simp [hlen.out])
          | (refine wpList_load_mid ?_ 47 (.tmp 25) ?_ wr.heap.size 0 ?_ (nmCells (nm k)) _ (hname _) Ybaf.underlying47 rfl ?_ ?_
             · exact rfl
             · exact rfl
             · exact rfl
             · exact size47.trans (by simp [nmCells, hgk.1]))
          | (refine wpList_load_mid ?_ 47 (.tmp 40) ?_ wr.heap.size 0 ?_ (nmCells (nm k)) _ (hname _) Ybaf.underlying47 rfl ?_ ?_
             · exact rfl
             · exact rfl
             · exact rfl
             · exact size47.trans (by simp [nmCells, hgk.1]))
          | (at_lookup; refine wpList_lookup_own_ok_int _ rfl _ _ 57 rfl 47 26 .u64 law47 Ybaf.underlying57 Ybaf.underlying26 (zero26 _) w.heap.size k D rfl (hown.alloc _) (keyV (nm k)) _ rfl (key_good hgk) ?_; intro c hat hwc; clear hat hwc)
          | (at_mapUpdate; refine wpList_mapUpdate_own _ rfl _ _ _ 57 rfl 47 26 law47 Ybaf.underlying57 _ w.heap.size k D rfl (hown.alloc _) (by unfold maxLen; omega) (keyV (nm k)) _ _ rfl rfl (key_good hgk) _ [] (plainElem_int Ybaf.underlying26 (WalkArith.wf_u64 (by omega))) ?_; intro w1 hown1 hgrow1))
        go_roundw
        case rel => exact ⟨k + 1, D, by omega, by go_num, bl.alloc bl.size _, hown'.alloc _, hi', hap'⟩
        case measure => simp [intOf]; omega
      · have hb0 : (rf k == 0) = false := by simp [h0]
        cases hmiss : Maps.has D (kOf (nm k)) with
        | false =>
          have hi' := hi.put (fun i h => hg i (by omega)) h0 hmiss
          have hap' := hap.put hi hgk hmiss
          clear hi hmm hr hg h0 hx1 hx2 hFk hap
          go_wp2_with (first
          | (refine wpList_load_mid ?_ 49 (.tmp 18) ?_ R (k * 33) ?_ X _ hrk Ybaf.underlying49 rfl ?_ ?_
             · exact rfl
             · exact rfl
             · exact rfl
             · exact size49.trans (by rw [hlen.out]))
          | (refine wpList_store_new ?_ 49 (.tmp 8) (.tmp 19) ?_ 49 _ X.toArray ?_ ?_ ?_ ?_ hone ?_
             · exact rfl
             · exact rfl
             · exact rfl
             · exact rfl
             · exact size49.trans (by simp [hlen.out])
             · simp [hlen.out])
          | (refine wpList_load_mid ?_ 47 (.tmp 25) ?_ wr.heap.size 0 ?_ (nmCells (nm k)) _ (hname _) Ybaf.underlying47 rfl ?_ ?_
             · exact rfl
             · exact rfl
             · exact rfl
             · exact size47.trans (by simp [nmCells, hgk.1]))
          | (refine wpList_load_mid ?_ 47 (.tmp 40) ?_ wr.heap.size 0 ?_ (nmCells (nm k)) _ (hname _) Ybaf.underlying47 rfl ?_ ?_
             · exact rfl
             · exact rfl
             · exact rfl
             · exact size47.trans (by simp [nmCells, hgk.1]))
          | (at_lookup; refine wpList_lookup_own_ok_int _ rfl _ _ 57 rfl 47 26 .u64 law47 Ybaf.underlying57 Ybaf.underlying26 (zero26 _) w.heap.size k D rfl (hown.alloc _) (keyV (nm k)) _ rfl (key_good hgk) ?_; intro c hat hwc; clear hat hwc)
          | (at_mapUpdate; refine wpList_mapUpdate_own _ rfl _ _ _ 57 rfl 47 26 law47 Ybaf.underlying57 _ w.heap.size k D rfl (hown.alloc _) (by unfold maxLen; omega) (keyV (nm k)) _ _ rfl rfl (key_good hgk) _ [] (plainElem_int Ybaf.underlying26 (WalkArith.wf_u64 (by omega))) ?_; intro w1 hown1 hgrow1))
          go_roundw
          case rel => exact ⟨k + 1, _, by omega, by go_num, (bl.alloc bl.size _).grown hgrow1 (by simp; have := bl.size; omega) (fun j e => by cases e; exact Nat.le_refl _), hown1, hi', hap'⟩
          case measure => simp [intOf]; omega
        | true =>
          clear hi hmm hr hg h0 hap
          go_wp2_with (first
          | (refine wpList_load_mid ?_ 49 (.tmp 18) ?_ R (k * 33) ?_ X _ hrk Ybaf.underlying49 rfl ?_ ?_
             · exact rfl
             · exact rfl
             · exact rfl
             · exact size49.trans (by rw [hlen.out]))
          | (refine wpList_store_new ?_ 49 (.tmp 8) (.tmp 19) ?_ 49 _ X.toArray ?_ ?_ ?_ ?_ hone ?_
             · exact rfl
             · exact rfl
             · exact rfl
             · exact rfl
             · exact size49.trans (by simp [hlen.out])
             · simp [hlen.out])
          | (refine wpList_load_mid ?_ 47 (.tmp 25) ?_ wr.heap.size 0 ?_ (nmCells (nm k)) _ (hname _) Ybaf.underlying47 rfl ?_ ?_
             · exact rfl
             · exact rfl
             · exact rfl
             · exact size47.trans (by simp [nmCells, hgk.1]))
          | (refine wpList_load_mid ?_ 47 (.tmp 40) ?_ wr.heap.size 0 ?_ (nmCells (nm k)) _ (hname _) Ybaf.underlying47 rfl ?_ ?_
             · exact rfl
             · exact rfl
             · exact rfl
             · exact size47.trans (by simp [nmCells, hgk.1]))
          | (at_lookup; refine wpList_lookup_own_ok_int _ rfl _ _ 57 rfl 47 26 .u64 law47 Ybaf.underlying57 Ybaf.underlying26 (zero26 _) w.heap.size k D rfl (hown.alloc _) (keyV (nm k)) _ rfl (key_good hgk) ?_; intro c hat hwc; clear hat hwc)
          | (at_mapUpdate; refine wpList_mapUpdate_own _ rfl _ _ _ 57 rfl 47 26 law47 Ybaf.underlying57 _ w.heap.size k D rfl (hown.alloc _) (by unfold maxLen; omega) (keyV (nm k)) _ _ rfl rfl (key_good hgk) _ [] (plainElem_int Ybaf.underlying26 (WalkArith.wf_u64 (by omega))) ?_; intro w1 hown1 hgrow1)
          | (go_at_call 10; refine (dup_err F _ _ a s _ ?_ ?_ ?_).mono ?_
             · exact hFk.out
             · exact hx1 _
             · exact hx2 _
             rintro e w2 ⟨pb, rfl, bl2, hpb, hc2⟩))
          go_ret2
          exact ⟨pb, rfl, (bl.alloc bl.size _).trans (bl2.mono (Nat.le_trans bl.size (by simp))), Nat.le_trans (Nat.le_trans bl.size (by simp)) hpb, hc2⟩
    · obtain rfl : k = n := by omega
      exact absurd hap hd.out
end Go.Proofs.YbulkcbvsFmt
