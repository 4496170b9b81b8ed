/-
  Seat b3905aF: the empty slice that is not nil.
-/
import Derived.Test.YbulkcbvsFmtQk
namespace Go.Proofs.YbulkcbvsFmt
open Go.RowKit Go.Maps

set_option maxRecDepth 100000 in
set_option maxHeartbeats 1000000 in
theorem buildD_zero (a : Addr) (cap : Nat) (w : World) :
    Calls Ybaf.prog 8 #[.slice (some a) 0 cap] w fun e w' => e = .returned (.slice (some ⟨w.heap.size, 0, none⟩) 0 0) ∧ Below w.heap.size w w' ∧ w.heap.size < w'.heap.size := by
  have hnil := nil22 a 0 cap
  obtain ⟨i0, hi, hz0, hz1, hz2⟩ := info_parts info49
  go_enter Ybaf.func8, Ybaf.ntmps8
  go_wp2_with (at_make; refine wpList_make_full _ rfl _ _ 23 rfl w.heap.size 49 i0 _ 33 Ybaf.underlying23 hi hz0 hz1 .i64 .i64 _ _ 0 rfl rfl rfl rfl (by rw [hz2]; omega) (by unfold maxLen; omega) (Nat.le_refl _) ?_; intro w1 hown hgrow)
  have sz0 : w.heap.size < w1.heap.size := by
    rcases hown.2 with ⟨e, _⟩ | ⟨g, _, cur, e, _, hc', _⟩
    · cases e
    · cases e; exact (Array.getElem?_eq_some_iff.1 hc').1
  have bl0 : Below w.heap.size w w1 := (Below.refl _ _).grown hgrow (Nat.le_refl _) (fun k e => by cases e)
  clear hown hgrow hi hz0 hz1 hz2
  refine wp_loop_rounds 1 ?_
  rw [rounds_succ]
  go_wp2
  go_ret
  exact ⟨rfl, bl0, sz0⟩

set_option maxRecDepth 100000 in
set_option maxHeartbeats 1000000 in
theorem buildB_zero (a : Addr) (cap : Nat) (w : World) :
    Calls Ybaf.prog 5 #[.slice (some a) 0 cap] w fun e w' => e = .returned (.slice (some ⟨w.heap.size, 0, none⟩) 0 0) ∧ Below w.heap.size w w' ∧ w.heap.size < w'.heap.size := by
  have hnil := nil22 a 0 cap
  obtain ⟨i0, hi, hz0, hz1, hz2⟩ := info_parts info49
  go_enter Ybaf.func5, Ybaf.ntmps5
  go_wp2_with (at_make; refine wpList_make_full _ rfl _ _ 23 rfl w.heap.size 49 i0 _ 33 Ybaf.underlying23 hi hz0 hz1 .i64 .i64 _ _ 0 rfl rfl rfl rfl (by rw [hz2]; omega) (by unfold maxLen; omega) (Nat.le_refl _) ?_; intro w1 hown hgrow)
  have sz0 : w.heap.size < w1.heap.size := by
    rcases hown.2 with ⟨e, _⟩ | ⟨g, _, cur, e, _, hc', _⟩
    · cases e
    · cases e; exact (Array.getElem?_eq_some_iff.1 hc').1
  have bl0 : Below w.heap.size w w1 := (Below.refl _ _).grown hgrow (Nat.le_refl _) (fun k e => by cases e)
  clear hown hgrow hi hz0 hz1 hz2
  refine wp_loop_rounds 1 ?_
  rw [rounds_succ]
  go_wp2
  go_ret
  exact ⟨rfl, bl0, sz0⟩

set_option maxRecDepth 100000 in
set_option maxHeartbeats 4000000 in
theorem counts_zero (a : Addr) (cap : Nat) (w : World) : Calls Ybaf.prog 4 #[.slice (some a) 0 cap] w fun e w' => e = .returned (.bool true) ∧ Below w.heap.size w w' := by
  go_enter Ybaf.func4, Ybaf.ntmps4
  go_wp2_with (go_at_call 8; refine (buildD_zero a cap w).mono ?_; rintro e w1 ⟨rfl, bl1, hsz1⟩)
  refine (pool_ok none none none _ 0 (fun _ => []) (fun _ => 0) w1 (by omega) (.inr ⟨_, rfl, hsz1, fun i h => absurd h (Nat.not_lt_zero _)⟩) (fun i hi => absurd hi (Nat.not_lt_zero _)) (fun i j _ hj => absurd hj (Nat.not_lt_zero _))).mono ?_
  rintro e W0 ⟨h, D, rfl, bl2, hlt, ⟨wp, hC⟩, hV, hmap, hidx⟩
  obtain ⟨fv, hfv, hfo⟩ := hV.c13
  obtain ⟨ao1, cap1, rfl, hcap1, _⟩ := ownsRow_shape hfo
  have hc15 := hV.c15
  have hc16 := hV.c16
  have hc12 := hC.c12
  have hsize : Maps.size D = 0 := hidx.size
  simp [freeL, stL, mpL, down] at hfv hc15 hc16
  go_wp2
  refine wp_loop_rounds 1 ?_
  rw [rounds_succ]
  go_wp2
  refine wp_loop_rounds 1 ?_
  rw [rounds_succ]
  go_wp2
  refine wp_loop_rounds 1 ?_
  rw [rounds_succ]
  go_wp2_with (at_len; refine wpList_len_own _ rfl _ 57 rfl 47 26 Ybaf.underlying57 _ _ 0 D rfl hmap ?_)
  go_ret
  exact ⟨rfl, bl1.trans (bl2.mono bl1.size)⟩
end Go.Proofs.YbulkcbvsFmt
