/-
  Seat b3909a: Push (the timers' own).
-/
import Derived.Test.YbulkcbxwQd
import Derived.Deep.RegionLaw
import Derived.Deep.AppendLies
namespace Go.Proofs.Ybulkcbxw
open Go.RowKit

theorem as35f (v : Value) (w : World) : (Instr.typeAssert (.iface 35 v) 20 35 false).run Yba.prog w = .ok v w := by kernel_rfl

/-- The timers object at block T, its row wherever it lies. -/
structure HO (T : Nat) (W : World) (s : Nat) (xs : List Value) (sq : Int) : Prop where
  c0 : ∃ sv, W.cell? ⟨T, 0, none⟩ = some sv ∧ W.ownsRow (T + 1) 35 6 sv s xs
  c1 : W.cell? ⟨T, 1, none⟩ = some (.int .u64 sq)
  fz : ∀ o, W.frozen? ⟨T, o, none⟩ = false

theorem own_ne {W : World} {T : Nat} {sv : Value} {s : Nat} {xs : List Value} (h : W.ownsRow (T + 1) 35 6 sv s xs) : some T ≠ sv.ownBlock := by
  rcases h.2 with ⟨rfl, _⟩ | ⟨g, _, _, rfl, hb, _⟩
  · intro e; cases e
  · intro e; simp only [Value.ownBlock, Option.some.injEq] at e; omega

theorem ownsRow_set {W : World} {base : Nat} {e : TypeId} {size : Nat} {v u : Value} {k : Nat} {xs : List Value} {b o : Nat} (hr : W.ownsRow base e size v k xs) (hb : b < base) : (W.setCell ⟨b, o, none⟩ u).ownsRow base e size v k xs := by
  refine ⟨hr.1, hr.2.imp id ?_⟩
  rintro ⟨g, cap, cur, rfl, hb', hc, h1, h2, h3, h4⟩
  exact ⟨g, cap, cur, rfl, hb', (Below.heap_setCell W ⟨b, o, none⟩ u g (by show g ≠ b; omega)).trans hc, h1, h2, h3, h4⟩

set_option maxRecDepth 100000 in
set_option maxHeartbeats 2000000 in
theorem push_tm {T : Nat} {w : World} {s : Nat} {xs : List Value} {sq : Int} (h : HO T w s xs sq) (t : Tm) (hs : s ≤ 1024) :
    Calls Yba.prog 29 #[.pointer (some ⟨T, 0, none⟩), .iface 35 (.agg t.cells.toArray)] w fun e w' => e = .returned (.tuple #[]) ∧ HO T w' (s + 1) (xs ++ t.cells) sq ∧ Below T w w' := by
  obtain ⟨sv, c0, hown⟩ := h.c0
  have c1 := h.c1
  have fz := h.fz
  have hT : T < w.heap.size := World.block_lt_of_cell? _ _ c0
  have hne := own_ne hown
  obtain ⟨i0, hi, hz0, hz1, hz2⟩ := info_parts info35
  have has := as35f
  clear h
  show Calls Yba.prog 29 #[.pointer (some ⟨T, 0, none⟩), .iface 35 (.agg #[.int .i64 t.due, .int .u64 t.seq, .int .u8 t.kind, .pointer t.p, .pointer none, .int .i64 t.m])] w _
  go_enter Yba.func29, Yba.ntmps29
  go_wp2
  go_region_law (
    refine step_append_lies _ rfl (.tmp 8) (.tmp 11) 32 rfl (T + 1) 35 i0 _ 6 48 Yba.underlying32 hi hz0 hz1 hz2 rfl (by decide) sv s xs rfl ?_ ⟨w.heap.size, 0, none⟩ 1 1 [.int .i64 t.due, .int .u64 t.seq, .int .u8 t.kind, .pointer t.p, .pointer none, .int .i64 t.m] rfl rfl ?_ ?_ (by omega) ?_ ?_ ?_ _ rfl ?_
    · exact (hown.alloc _).drew
    · exact World.news_of_block (heap_alloc_last w _)
    · simp [Value.oneCell']
    · unfold maxLen; omega
    · omega
    · simp; omega
    intro g cap w1 hown1 hgrow1 hat1 hlt1
    have hc1 := (hgrow1.cell_far ⟨T, 0, none⟩ (by simp; omega) hne).trans ((World.cell?_alloc_old w _ ⟨T, 0, none⟩ (by show T ≠ _; omega)).trans c0)
    have hf1 := (hgrow1.frozen_far ⟨T, 0, none⟩ (by simp; omega) hne).trans ((World.frozen?_alloc_old w _ ⟨T, 0, none⟩ (by show T ≠ _; omega)).trans (fz 0)))
  all_goals go_wp2
  all_goals go_end0
  all_goals (
    have hal : ∀ o, (w.alloc o).drew.cell? ⟨T, 1, none⟩ = some (.int .u64 sq) := fun o => (World.cell?_alloc_old w o ⟨T, 1, none⟩ (by show T ≠ _; omega)).trans c1
    have hfl : ∀ o p, (w.alloc o).drew.frozen? ⟨T, p, none⟩ = false := fun o p => (World.frozen?_alloc_old w o ⟨T, p, none⟩ (by show T ≠ _; omega)).trans (fz p)
    have hsz : ∀ o, T < (w.alloc o).drew.heap.size := fun o => by simp; omega
    have b1 : ∀ o, Below T w (w.alloc o).drew := fun o => ((Below.refl _ _).alloc (Nat.le_of_lt hT) o).drew
    refine ⟨rfl, ⟨⟨_, World.cell?_setCell_same _ _ _ hc1, ownsRow_set hown1 (Nat.lt_succ_self _)⟩, ?_, fun o => ?_⟩, ?_⟩
    · rw [World.cell?_setCell_other _ _ _ _ (fun e => by simp at e)]
      exact (hgrow1.cell_far ⟨T, 1, none⟩ (hsz _) hne).trans (hal _)
    · rw [World.frozen?_setCell]
      exact (hgrow1.frozen_far ⟨T, o, none⟩ (hsz _) hne).trans (hfl _ _)
    · refine ((b1 _).grown hgrow1 (Nat.le_of_lt (hsz _)) (fun k e => ?_)).setCell (p := ⟨T, 0, none⟩) (Nat.le_refl _) _
      rcases hown.2 with ⟨rfl, _⟩ | ⟨g', _, _, rfl, hb, _⟩
      · cases e
      · simp only [Value.ownBlock, Option.some.injEq] at e; omega)

/-- The cells of s timers, one behind the other. -/
def Flat (xs : List Value) (s : Nat) (f : Nat → Tm) : Prop := ∀ i, i < s → ∀ j v, (f i).cells[j]? = some v → xs[i * 6 + j]? = some v
theorem HO.hs {T : Nat} {W : World} {s : Nat} {xs : List Value} {sq : Int} {f : Nat → Tm} (h : HO T W s xs sq) (hp : 0 < s) (hx : Flat xs s f) : ∃ g cap, HS T W g cap s f sq := by
  obtain ⟨sv, c0, hown⟩ := h.c0
  rcases hown.2 with ⟨_, e⟩ | ⟨g, cap, cur, rfl, hb, hc, h1, h2, h3, h4⟩
  · omega
  · refine ⟨g, cap, ⟨by omega, c0, h.c1, h.fz, ⟨⟨cur, hc, h3⟩, h1, h2, fun i hi j v hv => ?_⟩⟩⟩
    have hj : j < 6 := (List.getElem?_eq_some_iff.1 hv).1
    rw [hown.cellAt (i * 6 + j) (by omega)]
    exact hx i hi j v hv
theorem HS.ho {T : Nat} {W : World} {g cap s : Nat} {f : Nat → Tm} {sq : Int} (h : HS T W g cap s f sq) : ∃ xs, HO T W s xs sq ∧ Flat xs s f ∧ xs.length = s * 6 := by
  obtain ⟨cur, hc, hs⟩ := h.row.blk
  have hle := h.row.le
  have htg := h.tg
  refine ⟨cur.toList.take (s * 6), ⟨⟨_, h.c0, ⟨?_, .inr ⟨g, cap, cur, rfl, by omega, hc, hle, h.row.mx, hs, rfl⟩⟩⟩, h.c1, h.fz⟩, fun i hi j v hv => ?_, ?_⟩
  · simp [hs]; omega
  · have hj : j < 6 := (List.getElem?_eq_some_iff.1 hv).1
    have := h.row.tms i hi j v hv
    rw [cell_of_row W g _ cur 35 (0, 0) hc] at this
    rw [List.getElem?_take_of_lt (by omega)]
    simpa using this
  · simp [hs]; omega
theorem Flat.push {xs : List Value} {s : Nat} {f : Nat → Tm} (h : Flat xs s f) (hl : xs.length = s * 6) (t : Tm) : Flat (xs ++ t.cells) (s + 1) (fun i => if i = s then t else f i) := fun i hi j v hv => by
  by_cases e : i = s
  · subst e
    simp only [if_true] at hv
    rw [List.getElem?_append_right (by omega), hl]
    have : i * 6 + j - i * 6 = j := by omega
    rw [this]
    exact hv
  · simp only [e, if_false] at hv
    have hj : j < 6 := (List.getElem?_eq_some_iff.1 hv).1
    rw [List.getElem?_append_left (by omega)]
    exact h i (by omega) j v hv
end Go.Proofs.Ybulkcbxw
