/-
  Seat b3909a: container/heap's Push and Pop over the timers; add.
-/
import Derived.Test.YbulkcbxwQh
namespace Go.Proofs.Ybulkcbxw
open Go.RowKit

def ext (f : Nat → Tm) (s : Nat) (t : Tm) : Nat → Tm := fun i => if i = s then t else f i
theorem Heap.ext {f : Nat → Tm} {s : Nat} (h : Heap f s) (t : Tm) : Heap (ext f s t) s := fun c h0 hc => by
  have e1 : c ≠ s := by omega
  have e2 : (c - 1) / 2 ≠ s := by omega
  simp only [Ybulkcbxw.ext, e1, e2, if_false]
  exact h c h0 hc

theorem len_o {T : Nat} {w : World} {s : Nat} {xs : List Value} {sq : Int} (h : HO T w s xs sq) (_hs : s ≤ 1024) :
    Calls Yba.prog 7 #[.pointer (some ⟨T, 0, none⟩)] w fun e w' => e = .returned (.int .i64 s) ∧ w' = w := by
  obtain ⟨sv, c0, hown⟩ := h.c0
  obtain ⟨ao, cap, rfl⟩ : ∃ ao cap, sv = .slice ao s cap := by
    rcases hown.2 with ⟨rfl, rfl⟩ | ⟨g, cap, _, rfl, _⟩
    · exact ⟨_, _, rfl⟩
    · exact ⟨_, _, rfl⟩
  clear h hown
  go_enter Yba.func7, Yba.ntmps7
  go_wp2
  go_ret
  exact ⟨rfl, rfl⟩

set_option maxRecDepth 100000 in
set_option maxHeartbeats 1000000 in
theorem hpush_tm {T : Nat} {w : World} {s : Nat} {xs : List Value} {sq : Int} {f : Nat → Tm} (h : HO T w s xs sq) (hx : Flat xs s f) (hl : xs.length = s * 6) (hp : Heap f s) (t : Tm) (hs : s < 1024) :
    Calls Yba.prog 9 #[.iface 36 (.pointer (some ⟨T, 0, none⟩)), .iface 35 (.agg t.cells.toArray)] w fun e w' => e = .returned (.tuple #[]) ∧ ∃ g cap f', HS T w' g cap (s + 1) f' sq ∧ Heap f' (s + 1) ∧ Arr (s + 1) (ext f s t) f' ∧ Below T w w' := by
  have m1 := mPush
  have m2 := mLen
  go_enter Yba.func9, Yba.ntmps9
  go_wp2_with (first
    | (go_at_call 29; refine (push_tm h t (by omega)).mono ?_; rintro e w1 ⟨rfl, h1, bl1⟩
       obtain ⟨g, cap, hH1⟩ := h1.hs (f := ext f s t) (Nat.succ_pos _) (hx.push hl t))
    | (go_at_call 7; refine (len_tm hH1).mono ?_; rintro e w2 ⟨rfl, rfl⟩)
    | (go_at_call 11; refine (up_tm hH1 s (Nat.lt_succ_self _) (by omega) (UpInv.start (hp.ext t))).mono ?_; rintro e w3 ⟨rfl, f', hH3, kp3, hp3, ha3⟩))
  go_end0
  have hT : T < w.heap.size := World.block_lt_of_cell? _ _ h.c1
  exact ⟨rfl, g, cap, f', hH3, hp3, ha3, bl1.trans (kp3.below (Nat.le_trans (Nat.le_of_lt hT) bl1.size) (Nat.le_refl _) (Nat.le_of_lt hH1.tg))⟩

theorem HS.popped {T : Nat} {w w' : World} {g cap m : Nat} {f : Nat → Tm} {sq : Int} (h : HS T w g cap (m + 1) f sq) (hg : w.grownBy w' (some T)) (c0 : w'.cell? ⟨T, 0, none⟩ = some (.slice (some ⟨g, 0, none⟩) m cap)) (c1 : w'.cell? ⟨T, 1, none⟩ = w.cell? ⟨T, 1, none⟩) (hf : ∀ o, w'.frozen? ⟨T, o, none⟩ = w.frozen? ⟨T, o, none⟩) :
    HS T w' g cap m f sq ∧ Kept T g w w' := by
  have hTg := h.tg
  have hb : w'.heap[g]? = w.heap[g]? := hg.block g h.row.lt (fun e => by cases e; omega)
  obtain ⟨cur, hc, hs⟩ := h.row.blk
  have hle := h.row.le
  exact ⟨⟨h.tg, c0, c1.trans h.c1, fun o => (hf o).trans (h.fz o), ⟨⟨cur, hb.trans hc, hs⟩, by omega, h.row.mx, fun i hi j v hv => (World.cell?_of_block (a := ⟨g, i * 6 + j, none⟩) hb).trans (h.row.tms i (by omega) j v hv)⟩⟩,
    ⟨hg.os, hg.tape, hg.output, hg.size, fun k hk h1 _ => hg.block k hk (fun e => h1 (by cases e; rfl))⟩⟩

set_option maxRecDepth 100000 in
set_option maxHeartbeats 1000000 in
theorem hpop_tm {T : Nat} {w : World} {g cap n : Nat} {f : Nat → Tm} {sq : Int} (h : HS T w g cap (n + 1) f sq) (hp : Heap f (n + 1)) (hs : n + 1 ≤ 1024) :
    Calls Yba.prog 8 #[.iface 36 (.pointer (some ⟨T, 0, none⟩))] w fun e w' => e = .returned (.iface 35 (.agg (f 0).cells.toArray)) ∧ ∃ f', HS T w' g cap n f' sq ∧ Kept T g w w' ∧ Heap f' n ∧ Arr n (sw f 0 n) f' := by
  have m1 := mLen
  have m2 := mSwap
  have m3 := mPop
  go_enter Yba.func8, Yba.ntmps8
  go_wp2_with (first
    | (go_at_call 7; refine (len_tm h).mono ?_; rintro e w1 ⟨rfl, rfl⟩)
    | (go_at_call 30; refine (swap_i h 0 n (by simp) (by omega) (Nat.succ_pos _) (Nat.lt_succ_self _) hs).mono ?_; rintro e w2 ⟨rfl, h2, kp2⟩)
    | (go_at_call 10; refine (down_tm h2 n (Nat.lt_succ_self _) hs (DownInv.start hp)).mono ?_; rintro e w3 ⟨⟨b, rfl⟩, f3, h3, kp3, hp3, ha3⟩
       have he : f3 n = f 0 := (ha3.far n (Nat.le_refl _)).trans (sw_right _ _ _))
    | (go_at_call 5; refine (pop_tm T g n cap (f 0) _ h3.c0 h3.row.le h3.row.mx (h3.fz 0) (he ▸ h3.row.tms n (Nat.lt_succ_self _))).mono ?_; rintro e w4 ⟨rfl, hg4, c04, c14, f4⟩))
  go_ret
  obtain ⟨h4, kp4⟩ := h3.popped hg4 c04 c14 f4
  exact ⟨rfl, f3, h4, (kp2.trans kp3).trans kp4, hp3, ha3⟩
end Go.Proofs.Ybulkcbxw
