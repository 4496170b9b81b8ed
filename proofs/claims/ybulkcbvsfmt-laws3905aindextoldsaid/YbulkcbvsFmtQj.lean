/-
  Seat b3905aF: facts for the law Counts: the names that builddistinct makes; what the loops gather; rows below.
-/
import Derived.Test.YbulkcbvsFmtQi
namespace Go.Proofs.YbulkcbvsFmt
open Go.RowKit Go.Shelf Go.Maps

theorem nmD_good {i : Nat} {x : Int} (hi : i < 1024) (hx : 0 ≤ x ∧ x ≤ 255) : Good (nmD i x) := by
  refine ⟨rfl, fun y hy => ?_⟩
  simp only [nmD, zeros28, List.mem_cons] at hy
  rcases hy with rfl | rfl | rfl | rfl | hy
  · omega
  · omega
  · omega
  · exact hx
  · simp at hy; omega
theorem nmD_inj {i j : Nat} {x y : Int} (h : nmD i x = nmD j y) : i = j := by
  simp only [nmD, List.cons.injEq] at h
  omega
theorem nmD_apart {n : Nat} {nf rf : Nat → Int} : Apart n (fun i => nmD i (nf i)) rf := fun i j hij _ _ _ e => by
  have := nmD_inj e
  omega

theorem stL_down {n : Nat} (rf : Nat → Int) : ∀ k j, k + j = n → stL rf (down n k) + cnt rf j = cnt rf n
  | 0, j, h => by have : j = n := by omega
                  subst this; simp [stL, down]
  | k + 1, j, h => by
    have ih := stL_down (n := n) rf k (j + 1) (by omega)
    rw [down_succ (n := n) (k := k) (m := j) (by omega)]
    by_cases h0 : rf j = 0
    · rw [stL_zero rf (by exact h0)]
      simp [cnt, h0] at ih
      exact ih
    · rw [stL_use rf (by exact h0)]
      simp [cnt, h0] at ih
      omega

theorem ownsRow_below {A B : World} {base : Nat} {e : TypeId} {size : Nat} {v : Value} {k : Nat} {xs : List Value} (h : A.ownsRow base e size v k xs) (hb : Below A.heap.size A B) : B.ownsRow base e size v k xs := by
  refine ⟨h.1, h.2.imp id ?_⟩
  rintro ⟨g, cap, cur, rfl, hb', hc, h1, h2, h3, h4⟩
  exact ⟨g, cap, cur, rfl, hb', (hb.block g (Array.getElem?_eq_some_iff.1 hc).1).trans hc, h1, h2, h3, h4⟩

theorem ownsRow_shape {W : World} {base : Nat} {v : Value} {k : Nat} {xs : List Value} (h : W.ownsRow base 26 1 v k xs) : ∃ ao cap, v = .slice ao k cap ∧ k ≤ cap ∧ (0 < k → ∃ g, ao = some ⟨g, 0, none⟩ ∧ base ≤ g ∧ ∀ j, j < k → W.cell? ⟨g, j, none⟩ = xs[j]?) := by
  rcases h.2 with ⟨rfl, rfl⟩ | ⟨g, cap, cur, rfl, hb, hc, h1, h2, h3, h4⟩
  · exact ⟨none, 0, rfl, Nat.le_refl _, fun h => absurd h (Nat.lt_irrefl _)⟩
  · exact ⟨_, cap, rfl, h1, fun _ => ⟨g, rfl, hb, fun j hj => h.cellAt j (by omega)⟩⟩

theorem PoolV.below {h : Nat} {fl : List Value} {st : Nat} {mp : Int} {W W' : World} (i : PoolV h fl st mp W) (b : Below W.heap.size W W') (hs : h < W.heap.size) : PoolV h fl st mp W' := by
  obtain ⟨fv, f1, f2⟩ := i.c13
  exact ⟨⟨fv, (b.cell (p := ⟨h, 13, none⟩) hs).trans f1, ownsRow_below f2 b⟩, (b.cell (p := ⟨h, 15, none⟩) hs).trans i.c15, (b.cell (p := ⟨h, 16, none⟩) hs).trans i.c16⟩

theorem ownsMap_below {A B : World} {P : Program} {k : TypeId} {R : Value → Option (DataW Unit × List MemPlace)} {b m c : Nat} {D : DataW Unit} (h : A.ownsMap P k R b m D) (hb : Below c A B) (hc : b < c) : B.ownsMap P k R b m D := by
  obtain ⟨es, clock, h1, h2⟩ := h
  exact ⟨es, clock, (hb.block b hc).trans h1, h2⟩

theorem pool_ok (pd pk ps ao : Option Addr) (n : Nat) (nm : Nat → List Int) (rf : Nat → Int) (w : World) (hn : n ≤ 1024) (hr : RecSl w.heap.size w (.slice ao n n) n nm rf) (hg : ∀ i, i < n → Good (nm i)) (ha : Apart n nm rf) :
    Calls Ybaf.prog 6 #[.pointer pd, .pointer pk, .pointer ps, .slice ao n n] w fun e W => ∃ h D, e = .returned (.tuple #[.pointer (some ⟨h, 0, none⟩), .nilIface]) ∧ Below w.heap.size w W ∧ w.heap.size < h ∧ (∃ w1, PoolC w1 h pd pk ps ao n w.heap.size W) ∧
      PoolV h (freeL rf (down n n)) (stL rf (down n n)) (mpL rf (down n n)) W ∧ W.ownsMap Ybaf.prog 47 (plainElem Ybaf.prog 26) w.heap.size n D ∧ Idx D n nm rf := by
  refine ((callsIn_wide (n := 3)).1 (pool_in Fence.wide rfl trivial trivial trivial trivial rfl pd pk ps ao n nm rf w hn hr hg ha)).mono ?_
  rintro e W ⟨w1, D, rfl, bl, hlt, hC, hV, hm, hi⟩
  exact ⟨_, D, rfl, bl.trans (hC.bl.mono bl.size), hlt, ⟨w1, hC⟩, hV, ownsMap_below hm hC.bl hlt, hi⟩
end Go.Proofs.YbulkcbvsFmt
