/-
  Seat b3905aF: the walk of LawS3905ACounts.
-/
import Derived.Test.YbulkcbvsFmtQj
import Derived.Deep.QuietTactic
import Derived.BigQuiet
namespace Go.Proofs.YbulkcbvsFmt
open Go.RowKit Go.Maps

theorem own_base {W : World} {base : Nat} {e : TypeId} {size : Nat} {v : Value} {k : Nat} {xs : List Value} (h : W.ownsRow base e size v k xs) {j : Nat} (hj : v.ownBlock = some j) : base ≤ j := by
  rcases h.2 with ⟨rfl, _⟩ | ⟨g, _, _, rfl, hb, _⟩
  · cases hj
  · simp only [Value.ownBlock, Option.some.injEq] at hj; omega

set_option maxRecDepth 100000 in
set_option maxHeartbeats 4000000 in
theorem counts_row (b off n cap : Nat) (nf rf : Nat → Int) (w : World) (hn : n ≤ 1024) (hin : InAt w b off n nf rf) (hnf : ∀ i, i < n → 0 ≤ nf i ∧ nf i ≤ 255) :
    Calls Ybaf.prog 4 #[.slice (some ⟨b, off, none⟩) n cap] w fun e w' => e = .returned (.bool true) ∧ Below w.heap.size w w' := by
  have hn' : ¬ ((1024 : Int) < (n : Int)) := by omega
  go_enter Ybaf.func4, Ybaf.ntmps4
  go_wp2_with (go_at_call 8; refine (buildD_row b off n cap nf rf w hn hin).mono ?_; rintro e w1 ⟨rfl, bl1, hsz1, hrec⟩)
  have hrs : RecSl w1.heap.size w1 (.slice (some ⟨w.heap.size, 0, none⟩) n n) n (fun i => nmD i (nf i)) rf := .inr ⟨_, rfl, hsz1, hrec⟩
  refine (pool_ok none none none _ n _ rf w1 hn hrs (fun i hi => nmD_good (by omega) (hnf i hi)) nmD_apart).mono ?_
  rintro e W0 ⟨h, D, rfl, bl2, hlt, ⟨wp, hC⟩, hV, hmap, hidx⟩
  obtain ⟨i0, hi, hz0, hz1, hz2⟩ := info_parts info26
  have hRb : RecsAt W0 w.heap.size n (fun i => nmD i (nf i)) rf := hrec.below bl2 hsz1
  have hR0 : w.heap.size < W0.heap.size := Nat.lt_of_lt_of_le hsz1 bl2.size
  have blw : Below w.heap.size w W0 := bl1.trans (bl2.mono bl1.size)
  go_wp2
  go_loopw [6, 7, 8, 9] (fun wt st mp i W => ∃ j k : Nat, k + j = n ∧ i = .int .i64 ((j : Int) - 1) ∧ Below W0.heap.size W0 W ∧ W.ownsRow W0.heap.size 26 1 wt (freeL rf (down n k)).length (freeL rf (down n k)) ∧ st = .int .u64 (stL rf (down n k) : Nat) ∧ mp = .int .u64 (mpL rf (down n k)))
    (fun _ _ _ i _ => (intOf i + 1).toNat)
  case atStart => exact ⟨n, 0, by omega, rfl, Below.refl _ _, World.ownsRow_nil _ _ _ _, rfl, rfl⟩
  case round =>
    obtain ⟨j, k, hk, rfl, bl, hown, rfl, rfl⟩ := hrel
    cases j with
    | zero =>
      obtain rfl : k = n := by omega
      have hhW : h < W0.heap.size := by have := hC.sz; omega
      have hV' := hV.below bl hhW
      obtain ⟨fv, hfv, hfo⟩ := hV'.c13
      have hc15 := hV'.c15
      have hc16 := hV'.c16
      have hc12 := (bl.cell (p := ⟨h, 12, none⟩) hhW).trans hC.c12
      have hmap' := ownsMap_below hmap bl (Nat.lt_trans hlt hhW)
      obtain ⟨ao2, cap2, rfl, hcap2, hrow2⟩ := ownsRow_shape hown
      obtain ⟨ao1, cap1, rfl, hcap1, hrow1⟩ := ownsRow_shape hfo
      have hfl := freeL_le rf (down k k)
      have hst := stL_le rf (down k k)
      have hlen := down_length (n := k) k (by omega)
      rw [hlen] at hst
      have hsize : Hid (Maps.size D = stL rf (down k k)) := by
        have := stL_down (n := k) rf k 0 (by omega)
        simp [cnt] at this
        exact hidx.size.trans this.symm
      have hLi : ∀ j, j < (freeL rf (down k k)).length → ∃ y : Int, (freeL rf (down k k))[j]? = some (.int .u64 y) := fun j hj => by
        unfold freeL at hj ⊢
        rw [List.length_map] at hj
        exact ⟨_, by rw [List.getElem?_map, List.getElem?_eq_getElem hj]; rfl⟩
      have hrw : ∀ m, m < k → wr.cell? ⟨w.heap.size, m * 33 + 32, none⟩ = some (.int .u64 (rf m)) := fun m hm => (bl.cell (p := ⟨w.heap.size, m * 33 + 32, none⟩) hR0).trans (hRb m hm 32 _ (rec_last (nmD_good (by omega) (hnf m hm)) _))
      have hiw : ∀ m, m < k → wr.cell? ⟨b, off + m * 2 + 1, none⟩ = some (.int .u64 (rf m)) := fun m hm => by
        have hb := World.block_lt_of_cell? _ _ (hin m hm).2
        exact (bl.cell (p := ⟨b, off + m * 2 + 1, none⟩) (Nat.lt_of_lt_of_le hb blw.size)).trans ((blw.cell (p := ⟨b, off + m * 2 + 1, none⟩) hb).trans (hin m hm).2)
      have hbel : Below w.heap.size w wr := blw.trans (bl.mono blw.size)
      clear hV hV' hC hmap hfo hown hrs hidx hRb hrec hin hi hz0 hz1 hz2
      generalize freeL rf (down k k) = L at *
      generalize mpL rf (down k k) = mp at *
      generalize stL rf (down k k) = st at *
      go_wp2
      go_loopw [10] (fun i W => ∃ j q : Nat, j ≤ L.length ∧ i = .int .i64 j ∧ W = wr.drewN q) (fun i _ => L.length - (intOf i).toNat)
      case atStart => exact ⟨0, 0, Nat.zero_le _, rfl, rfl⟩
      case round =>
        obtain ⟨j, q, hj, rfl, rfl⟩ := hrel
        by_cases hjl : j < L.length
        · obtain ⟨g1, rfl, _, hr1⟩ := hrow1 (by omega)
          obtain ⟨g2, rfl, _, hr2⟩ := hrow2 (by omega)
          obtain ⟨y, hy⟩ := hLi j hjl
          have k1 := (hr1 j hjl).trans hy
          have k2 := (hr2 j hjl).trans hy
          have hjl' : (j : Int) < (L.length : Int) := by omega
          clear hr1 hr2 hy hrow1 hrow2 hLi
          go_wp2
          go_quiet (fail)
          go_wp2
          go_roundw
          case rel => exact ⟨j + 1, _, by omega, by go_num, rfl⟩
          case measure => simp [intOf]; omega
        · have hjl' : ¬ (j : Int) < (L.length : Int) := by omega
          go_wp2
          go_loopw [11] (fun i W => ∃ j q : Nat, j ≤ k ∧ i = .int .i64 j ∧ W = wr.drewN q) (fun i _ => k - (intOf i).toNat)
          case atStart => exact ⟨0, q, Nat.zero_le _, rfl, rfl⟩
          case round =>
            obtain ⟨m, q', hm, rfl, rfl⟩ := hrel
            by_cases hmk : m < k
            · have k1 := hrw m hmk
              have k2 := hiw m hmk
              have hmk' : (m : Int) < (k : Int) := by omega
              go_wp2
              go_quiet (fail)
              go_wp2
              go_roundw
              case rel => exact ⟨m + 1, _, by omega, by go_num, rfl⟩
              case measure => simp [intOf]; omega
            · have hmk' : ¬ (m : Int) < (k : Int) := by omega
              have hsd : Maps.size D ≤ k := by rw [hsize.out]; exact hst
              have hfin : ((Maps.size D : Int) == (st : Int)) = true := by rw [hsize.out]; simp
              go_wp2_with (at_len; refine wpList_len_own _ rfl _ 57 rfl 47 26 Ybaf.underlying57 _ w1.heap.size k D rfl hmap' ?_)
              go_ret
              exact ⟨rfl, hbel.trans ⟨rfl, rfl, rfl, Nat.le_refl _, fun _ _ => rfl⟩⟩
    | succ m =>
      have e1 : (((m + 1 : Nat) : Int) - 1) = (m : Int) := by omega
      rw [e1]
      have hmn : m < n := by omega
      have hd := down_succ (n := n) (k := k) (m := m) (by omega)
      have hlen := down_length (n := n) k (by omega)
      have hfl := freeL_le rf (down n k)
      have hst := stL_le rf (down n k)
      have hrf : wr.cell? ⟨w.heap.size, m * 33 + 32, none⟩ = some (.int .u64 (rf m)) := (bl.cell (p := ⟨w.heap.size, m * 33 + 32, none⟩) hR0).trans (hRb m hmn 32 _ (rec_last (nmD_good (by omega) (hnf m hmn)) _))
      by_cases h0 : rf m = 0
      · have hb0 : (rf m == 0) = true := by simp [h0]
        have hfz := freeL_zero rf (pre := down n k) (x := ⟨m, hmn⟩) h0
        have hsz' := stL_zero rf (pre := down n k) (x := ⟨m, hmn⟩) h0
        have hmz := mpL_zero rf (pre := down n k) (x := ⟨m, hmn⟩) h0
        rw [← hd] at hfz hsz' hmz
        have HF : Hid (freeL rf (down n (k + 1)) = freeL rf (down n k) ++ [Value.int .u64 (m : Int)]) := hfz
        have HS : Hid (stL rf (down n (k + 1)) = stL rf (down n k)) := hsz'
        have HM : Hid (mpL rf (down n (k + 1)) = mpL rf (down n k)) := hmz
        clear hfz hsz' hmz hd h0
        go_wp2_with (at_builtin; refine wpList_append_own _ rfl _ _ 58 rfl W0.heap.size 26 i0 (.int .u64 0) 1 8 Ybaf.underlying58 hi hz0 hz1 hz2 rfl (by decide) _ _ _ rfl (hown.alloc _) ⟨wr.heap.size, 0, none⟩ 1 1 [.int .u64 (m : Int)] rfl rfl (cell_one_new _ _ _) (by simp [Value.oneCell']) (by unfold maxLen; omega) (by omega) (by have := bl.size; simp; omega) ?_; intro v' w2 hown' hgrow hnil)
        go_roundw
        case rel => exact ⟨m, k + 1, by omega, rfl, (bl.alloc bl.size _).grown hgrow (Nat.le_trans bl.size (by simp)) (fun j e => own_base hown e), by rw [HF.out]; simpa using hown', by rw [HS.out], by rw [HM.out]⟩
        case measure => simp [intOf]
      · have hb0 : (rf m == 0) = false := by simp [h0]
        have hfz := freeL_use rf (pre := down n k) (x := ⟨m, hmn⟩) h0
        have hsz' := stL_use rf (pre := down n k) (x := ⟨m, hmn⟩) h0
        have hmz := mpL_use rf (pre := down n k) (x := ⟨m, hmn⟩) h0
        rw [← hd] at hfz hsz' hmz
        have HF : Hid (freeL rf (down n (k + 1)) = freeL rf (down n k)) := hfz
        have HS : Hid (stL rf (down n (k + 1)) = stL rf (down n k) + 1) := hsz'
        have HM : Hid (mpL rf (down n (k + 1)) = IntKind.u64.wrap (mpL rf (down n k) + rf m)) := hmz
        clear hfz hsz' hmz hd h0
        go_wp2
        go_roundw
        case rel => exact ⟨m, k + 1, by omega, rfl, bl, by rw [HF.out]; exact hown, by rw [HS.out]; go_num, by rw [HM.out]⟩
        case measure => simp [intOf]

theorem counts_big (a : Option Addr) (n cap : Nat) (w : World) (hn : 1024 < n) (hm : n ≤ maxLen) :
    Calls Ybaf.prog 4 #[.slice a n cap] w fun e w' => e = .returned (.bool true) ∧ Below w.heap.size w w' := by
  unfold maxLen at hm
  have hn' : (1024 : Int) < (n : Int) := by omega
  go_enter Ybaf.func4, Ybaf.ntmps4
  go_wp2
  go_ret
  exact ⟨rfl, Below.refl _ _⟩

set_option maxRecDepth 100000 in
set_option maxHeartbeats 4000000 in
theorem counts_nil (w : World) : Calls Ybaf.prog 4 #[.slice none 0 0] w fun e w' => e = .returned (.bool true) ∧ Below w.heap.size w w' := by
  go_enter Ybaf.func4, Ybaf.ntmps4
  go_wp2_with (go_at_call 8; refine (buildD_nil w).mono ?_; rintro e w1 ⟨rfl, rfl⟩)
  refine (pool_ok none none none none 0 (fun _ => []) (fun _ => 0) _ (by omega) (.inl ⟨rfl, rfl⟩) (fun i hi => absurd hi (Nat.not_lt_zero _)) (fun i j _ hj => absurd hj (Nat.not_lt_zero _))).mono ?_
  rintro e W0 ⟨h, D, rfl, bl2, hlt, ⟨wp, hC⟩, hV, hmap, hidx⟩
  obtain ⟨fv, hfv, hfo⟩ := hV.c13
  obtain ⟨ao1, cap1, rfl, hcap1, _⟩ := ownsRow_shape hfo
  have hc15 := hV.c15
  have hc16 := hV.c16
  have hc12 := hC.c12
  have hsize : Maps.size D = 0 := hidx.size
  simp [freeL, stL, mpL, down] at hfv hc15 hc16
  go_wp2
  refine wp_loop_rounds 1 ?_
  rw [rounds_succ]
  go_wp2
  refine wp_loop_rounds 1 ?_
  rw [rounds_succ]
  go_wp2
  refine wp_loop_rounds 1 ?_
  rw [rounds_succ]
  go_wp2_with (at_len; refine wpList_len_own _ rfl _ 57 rfl 47 26 Ybaf.underlying57 _ _ 0 D rfl hmap ?_)
  go_ret
  exact ⟨rfl, bl2⟩
end Go.Proofs.YbulkcbvsFmt
