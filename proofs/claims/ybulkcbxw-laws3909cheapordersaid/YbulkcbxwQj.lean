/-
  Seat b3909a: add; the timers that the law sets.
-/
import Derived.Test.YbulkcbxwQi
namespace Go.Proofs.Ybulkcbxw
open Go.RowKit

theorem HO.bump {T : Nat} {w : World} {s : Nat} {xs : List Value} {sq : Int} (h : HO T w s xs sq) (z : Int) (o : Obj) : HO T ((w.setCell ⟨T, 1, none⟩ (.int .u64 z)).alloc o) s xs z := by
  obtain ⟨sv, c0, hown⟩ := h.c0
  have hT : T < w.heap.size := World.block_lt_of_cell? _ _ c0
  have hs : (w.setCell ⟨T, 1, none⟩ (.int .u64 z)).heap.size = w.heap.size := by simp [World.setCell]
  have b : Below w.heap.size (w.setCell ⟨T, 1, none⟩ (.int .u64 z)) ((w.setCell ⟨T, 1, none⟩ (.int .u64 z)).alloc o) := (Below.refl _ _).alloc (by rw [hs]; exact Nat.le_refl _) o
  refine ⟨⟨sv, (b.cell (p := ⟨T, 0, none⟩) hT).trans ((World.cell?_setCell_other _ _ _ _ (fun e => by simp at e)).trans c0), (ownsRow_set hown (Nat.lt_succ_self _)).alloc o⟩, (b.cell (p := ⟨T, 1, none⟩) hT).trans (World.cell?_setCell_same _ _ _ h.c1), fun o' => ?_⟩
  rw [b.frozen (p := ⟨T, o', none⟩) hT, World.frozen?_setCell]
  exact h.fz o'

set_option maxRecDepth 100000 in
set_option maxHeartbeats 1000000 in
theorem add_tm {T : Nat} {w : World} {s : Nat} {xs : List Value} {f : Nat → Tm} (h : HO T w s xs (s : Int)) (hx : Flat xs s f) (hl : xs.length = s * 6) (hp : Heap f s) (due kind m : Int) (p : Option Addr) (hs : s < 1024) :
    Calls Yba.prog 6 #[.pointer (some ⟨T, 0, none⟩), .agg #[.int .i64 due, .int .u64 0, .int .u8 kind, .pointer p, .pointer none, .int .i64 m]] w fun e w' => e = .returned (.tuple #[]) ∧ ∃ g cap f', HS T w' g cap (s + 1) f' ((s + 1 : Nat) : Int) ∧ Heap f' (s + 1) ∧ Arr (s + 1) (ext f s ⟨due, (s : Int) + 1, kind, p, m⟩) f' ∧ Below T w w' := by
  have c1 := h.c1
  have f1 := h.fz 1
  have hT : T < w.heap.size := World.block_lt_of_cell? _ _ c1
  have hb := h.bump ((s : Int) + 1)
  have hbl : ∀ o, Below T w ((w.setCell ⟨T, 1, none⟩ (.int .u64 ((s : Int) + 1))).alloc o) := fun o =>
    ((Below.refl T w).setCell (p := ⟨T, 1, none⟩) (Nat.le_refl _) _).alloc (by simp [World.setCell]; omega) o
  go_enter Yba.func6, Yba.ntmps6
  go_wp2_with (go_at_call 9; refine (hpush_tm (hb _) hx hl hp ⟨due, (s : Int) + 1, kind, p, m⟩ hs).mono ?_; rintro e w3 ⟨rfl, g, cap, f', hH3, hp3, ha3, bl3⟩)
  go_end0
  have e : (((s + 1 : Nat) : Int)) = (s : Int) + 1 := by omega
  rw [e]
  exact ⟨rfl, g, cap, f', hH3, hp3, ha3, (hbl _).trans bl3⟩

/-- The timer that the law sets at index j. -/
def tmH (ats : Nat → Int) (j : Nat) : Tm := ⟨ats j, (j : Int) + 1, (j : Int) % 3, none, (j : Int)⟩
/-- The timers in the heap are some of the first n, each once. -/
structure Some (ats : Nat → Int) (f : Nat → Tm) (s n : Nat) : Prop where
  all : ∀ i, i < s → ∃ j, j < n ∧ f i = tmH ats j
  inj : Inj f s
theorem Some.add {ats : Nat → Int} {f f' : Nat → Tm} {s : Nat} (h : Some ats f s s) (ha : Arr (s + 1) (ext f s (tmH ats s)) f') : Some ats f' (s + 1) (s + 1) where
  all := fun i hi => by
    obtain ⟨k, hk, e⟩ := ha.from' i hi
    by_cases hks : k = s
    · refine ⟨s, by omega, ?_⟩
      rw [e, hks]
      simp [ext]
    · obtain ⟨j, hj, e'⟩ := h.all k (by omega)
      refine ⟨j, by omega, ?_⟩
      rw [e]
      simp [ext, hks, e']
  inj := ha.inj fun i k hi hk e => by
    by_cases h1 : i = s <;> by_cases h2 : k = s
    · omega
    · obtain ⟨j, hj, e'⟩ := h.all k (by omega)
      simp [ext, h1, h2, e', tmH] at e
      omega
    · obtain ⟨j, hj, e'⟩ := h.all i (by omega)
      simp [ext, h1, h2, e', tmH] at e
      omega
    · simp [ext, h1, h2] at e
      exact h.inj i k (by omega) (by omega) e
theorem popped_from {f f' : Nat → Tm} {m : Nat} (ha : Arr m (sw f 0 m) f') : ∀ i, i < m → ∃ q, 0 < q ∧ q < m + 1 ∧ f' i = f q := fun i hi => by
  obtain ⟨k, hk, e⟩ := ha.from' i hi
  by_cases h0 : k = 0
  · subst h0
    exact ⟨m, by omega, by omega, by rw [e, sw_left]⟩
  · exact ⟨k, by omega, by omega, by rw [e, sw_other f h0 (by omega)]⟩
theorem popped_inj {f f' : Nat → Tm} {m : Nat} (hi : Inj f (m + 1)) (ha : Arr m (sw f 0 m) f') : Inj f' m :=
  ha.inj fun i k h1 h2 e => (Arr.sw (n := m + 1) (f := f) (i := 0) (j := m) (by omega) (by omega)).inj hi i k (by omega) (by omega) e
end Go.Proofs.Ybulkcbxw
