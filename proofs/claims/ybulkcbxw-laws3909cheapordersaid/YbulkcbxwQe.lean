/-
  Seat b3909a: Swap.
-/
import Derived.Test.YbulkcbxwQd
namespace Go.Proofs.Ybulkcbxw
open Go.RowKit

set_option maxRecDepth 100000 in
set_option maxHeartbeats 4000000 in
theorem swap_ne {T : Nat} {w : World} {g cap s : Nat} {f : Nat → Tm} {sq : Int} (h : HS T w g cap s f sq) (i j : Nat) (hi : i < s) (hj : j < s) (_hs : s ≤ 1024) (hij : i ≠ j) :
    Calls Yba.prog 30 #[.pointer (some ⟨T, 0, none⟩), .int .i64 i, .int .i64 j] w fun e w' => e = .returned (.tuple #[]) ∧ HS T w' g cap s (sw f i j) sq ∧ Kept T g w w' := by
  have hres := h.swapped0 hi hj
  have c0 := h.c0
  have hT : T < w.heap.size := World.block_lt_of_cell? _ _ c0
  have hg := h.row.lt
  have hTg : T < g := h.tg
  have hfz : ∀ o, w.frozen? ⟨g, o, none⟩ = false := fun o => by
    obtain ⟨cur, hc, _⟩ := h.row.blk
    simp [World.frozen?, hc]
  have hr := h.row.tms i hi
  have a0 := hr 0 _ rfl
  have a1 := hr 1 _ rfl
  have a2 := hr 2 _ rfl
  have a3 := hr 3 _ rfl
  have a4 := hr 4 _ rfl
  have a5 := hr 5 _ rfl
  have hr' := h.row.tms j hj
  have b0 := hr' 0 _ rfl
  have b1 := hr' 1 _ rfl
  have b2 := hr' 2 _ rfl
  have b3 := hr' 3 _ rfl
  have b4 := hr' 4 _ rfl
  have b5 := hr' 5 _ rfl
  simp only [Nat.add_zero] at a0 b0
  have hi' : (i : Int) < (s : Int) := by omega
  have hj' : (j : Int) < (s : Int) := by omega
  generalize sw f i j = f' at hres
  clear h hr hr'
  generalize f i = x at *
  generalize f j = y at *
  go_enter Yba.func30, Yba.ntmps30
  go_wp2
  go_region
  all_goals go_wp2
  go_end0
  simp only [Tm.cells, World.setCells, Nat.add_assoc, Nat.reduceAdd] at hres
  exact ⟨rfl, hres.1.drewN 1, hres.2.drewN 1⟩

set_option maxRecDepth 100000 in
set_option maxHeartbeats 4000000 in
theorem swap_eq {T : Nat} {w : World} {g cap s : Nat} {f : Nat → Tm} {sq : Int} (h : HS T w g cap s f sq) (i : Nat) (hi : i < s) (_hs : s ≤ 1024) :
    Calls Yba.prog 30 #[.pointer (some ⟨T, 0, none⟩), .int .i64 i, .int .i64 i] w fun e w' => e = .returned (.tuple #[]) ∧ HS T w' g cap s (sw f i i) sq ∧ Kept T g w w' := by
  have hres := h.swapped0 hi hi
  have c0 := h.c0
  have hT : T < w.heap.size := World.block_lt_of_cell? _ _ c0
  have hg := h.row.lt
  have hTg : T < g := h.tg
  have hfz : ∀ o, w.frozen? ⟨g, o, none⟩ = false := fun o => by
    obtain ⟨cur, hc, _⟩ := h.row.blk
    simp [World.frozen?, hc]
  have hr := h.row.tms i hi
  have a0 := hr 0 _ rfl
  have a1 := hr 1 _ rfl
  have a2 := hr 2 _ rfl
  have a3 := hr 3 _ rfl
  have a4 := hr 4 _ rfl
  have a5 := hr 5 _ rfl
  simp only [Nat.add_zero] at a0
  have hi' : (i : Int) < (s : Int) := by omega
  generalize sw f i i = f' at hres
  clear h hr
  generalize f i = x at *
  go_enter Yba.func30, Yba.ntmps30
  go_wp2
  go_region
  all_goals go_wp2
  go_end0
  simp only [Tm.cells, World.setCells, Nat.add_assoc, Nat.reduceAdd] at hres
  refine ⟨rfl, ?_⟩
  exact ⟨hres.1.drewN 1, hres.2.drewN 1⟩

theorem swap_tm {T : Nat} {w : World} {g cap s : Nat} {f : Nat → Tm} {sq : Int} (h : HS T w g cap s f sq) (i j : Nat) (hi : i < s) (hj : j < s) (hs : s ≤ 1024) :
    Calls Yba.prog 30 #[.pointer (some ⟨T, 0, none⟩), .int .i64 i, .int .i64 j] w fun e w' => e = .returned (.tuple #[]) ∧ HS T w' g cap s (sw f i j) sq ∧ Kept T g w w' := by
  by_cases e : i = j
  · subst e; exact swap_eq h i hi hs
  · exact swap_ne h i j hi hj hs e
end Go.Proofs.Ybulkcbxw
