/-
  Seat b3905aF: LawS3905AIndex at lists of no record, and at long ones.
-/
import Derived.Test.YbulkcbvsFmtQr
namespace Go.Proofs.YbulkcbvsFmt
open Go.RowKit Go.Maps

set_option maxRecDepth 100000 in
theorem index_big (a : Option Addr) (n cap : Nat) (w : World) (hn : 1024 < n) (hm : n ≤ maxLen) :
    Calls Ybaf.prog 3 #[.slice a n cap] w fun e w' => e = .returned (.bool true) ∧ Below w.heap.size w w' := by
  unfold maxLen at hm
  have hn' : (1024 : Int) < (n : Int) := by omega
  go_enter Ybaf.func3, Ybaf.ntmps3
  go_wp2
  go_ret
  exact ⟨rfl, Below.refl _ _⟩

set_option maxRecDepth 100000 in
set_option maxHeartbeats 4000000 in
theorem law_zero (a : Addr) (cap : Nat) (w : World) : Calls Ybaf.prog 3 #[.slice (some a) 0 cap] w fun e w' => e = .returned (.bool true) ∧ Below w.heap.size w w' := by
  have q25 := fun a => ptr_neq_same (tp := 25) a Ybaf.underlying25 (by kernel_rfl)
  have q42 := fun a => ptr_neq_same (tp := 42) a Ybaf.underlying42 (by kernel_rfl)
  go_enter Ybaf.func3, Ybaf.ntmps3
  go_wp2_with (go_at_call 5; refine (buildB_zero a cap w).mono ?_; rintro e w1 ⟨rfl, bl1, hsz1⟩)
  refine wp_loop_rounds 1 ?_
  rw [rounds_succ]
  go_wp2_with (go_at_call 6; refine (pool_ok _ _ _ _ 0 (fun _ => []) (fun _ => 0) _ (by omega) ?_ (fun i hi => absurd hi (Nat.not_lt_zero _)) (fun i j _ hj => absurd hj (Nat.not_lt_zero _))).mono ?_
               · exact .inr ⟨_, rfl, Nat.lt_of_lt_of_le hsz1 (by simp; omega), fun i h => absurd h (Nat.not_lt_zero _)⟩
               rintro e W0 ⟨h, D, rfl, bl2, hlt, ⟨wp, hC⟩, hV, hmap, hidx⟩
               have blB : Below w1.heap.size w1 W0 := (((Below.refl _ _).alloc (Nat.le_refl _) _).alloc (by simp) _).trans (bl2.mono (by simp; omega))
               have hc0 := hC.c0
               have hc1 := hC.c1
               have hc2 := hC.c2
               have hc5 := hC.c5
               obtain ⟨B, hc12, hmap2⟩ : ∃ B, W0.cell? ⟨h, 12, none⟩ = some (.map (some B)) ∧ ∀ q, (W0.drewN q).ownsMap Ybaf.prog 47 (plainElem Ybaf.prog 26) B 0 D := ⟨_, hC.c12, fun _ => hmap⟩
               have hc14 := hC.c14
               have hc17 := hC.c17
               have hsize : Maps.size D = 0 := hidx.size
               clear hV hmap)
  go_quiet (fail)
  go_wp2
  refine wp_loop_rounds 1 ?_
  rw [rounds_succ]
  go_wp2_with (at_len; refine wpList_len_own _ rfl _ 57 rfl 47 26 Ybaf.underlying57 _ B 0 D rfl (hmap2 _) ?_)
  go_ret
  exact ⟨rfl, (bl1.trans (blB.mono bl1.size)).trans (below_drewN _ _ _)⟩

set_option maxRecDepth 100000 in
set_option maxHeartbeats 4000000 in
theorem law_nil (w : World) : Calls Ybaf.prog 3 #[.slice none 0 0] w fun e w' => e = .returned (.bool true) ∧ Below w.heap.size w w' := by
  have q25 := fun a => ptr_neq_same (tp := 25) a Ybaf.underlying25 (by kernel_rfl)
  have q42 := fun a => ptr_neq_same (tp := 42) a Ybaf.underlying42 (by kernel_rfl)
  go_enter Ybaf.func3, Ybaf.ntmps3
  go_wp2_with (go_at_call 5; refine (buildB_nil w).mono ?_; rintro e w1 ⟨rfl, rfl⟩)
  refine wp_loop_rounds 1 ?_
  rw [rounds_succ]
  go_wp2_with (go_at_call 6; refine (pool_ok _ _ _ none 0 (fun _ => []) (fun _ => 0) _ (by omega) ?_ (fun i hi => absurd hi (Nat.not_lt_zero _)) (fun i j _ hj => absurd hj (Nat.not_lt_zero _))).mono ?_
               · exact .inl ⟨rfl, rfl⟩
               rintro e W0 ⟨h, D, rfl, bl2, hlt, ⟨wp, hC⟩, hV, hmap, hidx⟩
               have blB : Below w1.heap.size w1 W0 := (((Below.refl _ _).alloc (Nat.le_refl _) _).alloc (by simp) _).trans (bl2.mono (by simp; omega))
               have hc0 := hC.c0
               have hc1 := hC.c1
               have hc2 := hC.c2
               have hc5 := hC.c5
               obtain ⟨B, hc12, hmap2⟩ : ∃ B, W0.cell? ⟨h, 12, none⟩ = some (.map (some B)) ∧ ∀ q, (W0.drewN q).ownsMap Ybaf.prog 47 (plainElem Ybaf.prog 26) B 0 D := ⟨_, hC.c12, fun _ => hmap⟩
               have hc14 := hC.c14
               have hc17 := hC.c17
               have hsize : Maps.size D = 0 := hidx.size
               clear hV hmap)
  go_quiet (fail)
  go_wp2
  refine wp_loop_rounds 1 ?_
  rw [rounds_succ]
  go_wp2_with (at_len; refine wpList_len_own _ rfl _ 57 rfl 47 26 Ybaf.underlying57 _ B 0 D rfl (hmap2 _) ?_)
  go_ret
  exact ⟨rfl, blB.trans (below_drewN _ _ _)⟩
end Go.Proofs.YbulkcbvsFmt
