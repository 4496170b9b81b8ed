/-
  Seat b3909a: the walk of LawS3909CHeapOrder.
-/
import Derived.Test.YbulkcbxwQj
namespace Go.Proofs.Ybulkcbxw
open Go.RowKit

theorem info4 : (Yba.prog.info? 4).map (fun i => (i.zero, i.size, i.bytes)) = some (some (.bool false), 1, 1) := by kernel_rfl

theorem hpop_lit {T : Nat} {w : World} {g cap n : Nat} {f : Nat → Tm} {sq : Int} (ats : Nat → Int) (j : Nat) (h : HS T w g cap (n + 1) f sq) (hp : Heap f (n + 1)) (hs : n + 1 ≤ 1024) (e0 : f 0 = tmH ats j) :
    Calls Yba.prog 8 #[.iface 36 (.pointer (some ⟨T, 0, none⟩))] w fun e w' => e = .returned (.iface 35 (.agg #[.int .i64 (ats j), .int .u64 ((j : Int) + 1), .int .u8 ((j : Int) % 3), .pointer none, .pointer none, .int .i64 (j : Int)])) ∧ ∃ f', HS T w' g cap n f' sq ∧ Kept T g w w' ∧ Heap f' n ∧ Arr n (sw f 0 n) f' := by
  have := hpop_tm h hp hs
  rw [e0] at this
  exact this

/-- What has been seen, in block S. -/
structure SeenAt (W : World) (S n : Nat) (sn : Nat → Bool) : Prop where
  lt : S < W.heap.size
  at_ : ∀ i, i < n + 1 → W.cell? ⟨S, i, none⟩ = some (.bool (sn i))
  fz : ∀ o, W.frozen? ⟨S, o, none⟩ = false

theorem HS.same {T : Nat} {W W' : World} {g cap s : Nat} {f : Nat → Tm} {sq : Int} (h : HS T W g cap s f sq) (hT : W'.heap[T]? = W.heap[T]?) (hg : W'.heap[g]? = W.heap[g]?) : HS T W' g cap s f sq := by
  obtain ⟨cur, hc, hs⟩ := h.row.blk
  exact ⟨h.tg, (World.cell?_of_block (a := ⟨T, 0, none⟩) hT).trans h.c0, (World.cell?_of_block (a := ⟨T, 1, none⟩) hT).trans h.c1, fun o => (World.frozen?_of_block (a := ⟨T, o, none⟩) hT).trans (h.fz o),
    ⟨⟨cur, hg.trans hc, hs⟩, h.row.le, h.row.mx, fun i hi j v hv => (World.cell?_of_block (a := ⟨g, i * 6 + j, none⟩) hg).trans (h.row.tms i hi j v hv)⟩⟩

theorem seen_put {w : World} {S n : Nat} {sn : Nat → Bool} (h : SeenAt w S n sn) (x : Nat) (hx : x < n + 1) (o : Obj) (q : Nat) :
    SeenAt (((w.setCell ⟨S, x, none⟩ (.bool true)).alloc o).drewN q) S n (fun i => if i = x then true else sn i) ∧ Below S w (((w.setCell ⟨S, x, none⟩ (.bool true)).alloc o).drewN q) ∧ ∀ k, k < w.heap.size → k ≠ S → (((w.setCell ⟨S, x, none⟩ (.bool true)).alloc o).drewN q).heap[k]? = w.heap[k]? := by
  have hs : (w.setCell ⟨S, x, none⟩ (.bool true)).heap.size = w.heap.size := by simp [World.setCell]
  have b : Below w.heap.size (w.setCell ⟨S, x, none⟩ (.bool true)) (((w.setCell ⟨S, x, none⟩ (.bool true)).alloc o).drewN q) := ((Below.refl _ _).alloc (by rw [hs]; exact Nat.le_refl _) o).trans (below_drewN _ _ _)
  have b1 : Below S w (w.setCell ⟨S, x, none⟩ (.bool true)) := (Below.refl _ _).setCell (p := ⟨S, x, none⟩) (Nat.le_refl _) _
  have hlt := h.lt
  refine ⟨⟨?_, fun i hi => ?_, fun o' => ?_⟩, b1.trans (b.mono (Nat.le_of_lt hlt)), fun k hk hne => (b.block k hk).trans (Below.heap_setCell w ⟨S, x, none⟩ _ k hne)⟩
  · exact Nat.lt_of_lt_of_le hlt (by rw [← hs]; exact b.size)
  · refine (b.cell (p := ⟨S, i, none⟩) hlt).trans ?_
    by_cases e : i = x
    · subst e
      simp only [if_true]
      exact World.cell?_setCell_same _ _ _ (h.at_ i hi)
    · simp only [e, if_false]
      rw [World.cell?_setCell_other _ _ _ _ (fun e' => e (congrArg Addr.off e').symm)]
      exact h.at_ i hi
  · rw [b.frozen (p := ⟨S, o', none⟩) hlt, World.frozen?_setCell]
    exact h.fz o'

set_option maxRecDepth 100000 in
set_option maxHeartbeats 4000000 in
theorem order_row (b off n cap : Nat) (ats : Nat → Int) (w : World) (hn : n ≤ 512) (hpos : 0 < n) (hats : ∀ i, i < n → w.cell? ⟨b, off + i, none⟩ = some (.int .i64 (ats i))) :
    Calls Yba.prog 4 #[.slice (some ⟨b, off, none⟩) n cap] w fun e w' => e = .returned (.bool true) ∧ Below w.heap.size w w' := by
  obtain ⟨i0, hi, hz0, hz1, hz2⟩ := info_parts info4
  have hn' : ¬ ((512 : Int) < (n : Int)) := by omega
  have has := as35
  have h0 : HO w.heap.size (w.alloc (.cells #[.slice none 0 0, .int .u64 0] 38)) 0 [] 0 := ⟨⟨_, by simp [go_sem], World.ownsRow_nil _ _ _ _⟩, by simp [go_sem], fun o => by simp [go_sem]⟩
  go_enter Yba.func4, Yba.ntmps4
  go_wp2
  go_loopw [5] (fun iv W => ∃ (k : Nat) (xs : List Value) (f : Nat → Tm), k ≤ n ∧ iv = .int .i64 k ∧ HO w.heap.size W k xs (k : Int) ∧ Flat xs k f ∧ xs.length = k * 6 ∧ Heap f k ∧ Some ats f k k ∧ Below w.heap.size w W) (fun iv _ => n - (intOf iv).toNat)
  case atStart => exact ⟨0, [], fun _ => ⟨0, 0, 0, none, 0⟩, Nat.zero_le _, rfl, h0, fun i h => absurd h (Nat.not_lt_zero _), rfl, fun c _ h => absurd h (Nat.not_lt_zero _), ⟨fun i h => absurd h (Nat.not_lt_zero _), fun i k h => absurd h (Nat.not_lt_zero _)⟩, (Below.refl _ _).alloc (Nat.le_refl _) _⟩
  case round =>
    obtain ⟨k, xs, f, hk, rfl, hO, hx, hl, hp, hS, bl⟩ := hrel
    clear h0
    by_cases hkn : k < n
    · have hkn' : (k : Int) < (n : Int) := by omega
      have hak := hats k hkn
      have hak' := (bl.cell (p := ⟨b, off + k, none⟩) (World.block_lt_of_cell? _ _ hak)).trans hak
      clear hak
      go_wp2_with (go_at_call 6; refine (add_tm hO hx hl hp (ats k) ((k : Int) % 3) (k : Int) none (by omega)).mono ?_; rintro e w1 ⟨rfl, g, capg, f', hH, hp', ha, bl1⟩)
      obtain ⟨xs', hO', hx', hl'⟩ := hH.ho
      go_roundw
      case rel => exact ⟨k + 1, xs', f', by omega, by go_num, hO', hx', hl', hp', hS.add ha, bl.trans bl1⟩
      case measure => simp [intOf]; omega
    · obtain rfl : k = n := by omega
      have hkn' : ¬ (k : Int) < (k : Int) := by omega
      obtain ⟨g, capg, hH⟩ := hO.hs hpos hx
      clear hO hx hl
      go_wp2_with (at_make; refine wpList_make_full _ rfl _ _ 43 rfl 0 4 i0 _ 1 Yba.underlying43 hi hz0 hz1 .i64 .i64 _ _ (k + 1) rfl rfl (by simp) (by simp) (by rw [hz2]; omega) (by unfold maxLen; omega) (Nat.zero_le _) ?_; intro w2 hown2 hgrow2)
      have b2 : Below wr.heap.size wr w2 := (Below.refl _ _).grown hgrow2 (Nat.le_refl _) (fun k e => by cases e)
      have hH2 := hH.new b2
      have hTg := hH.tg
      have hgS := hH.row.lt
      have hse2 : SeenAt w2 wr.heap.size k (fun _ => false) := by
        refine ⟨?_, fun i hi => ?_, fun o => hown2.frozenAt o⟩
        · rcases hown2.2 with ⟨e, _⟩ | ⟨g', _, cur, e, _, hc', _⟩
          · cases e
          · cases e; exact (Array.getElem?_eq_some_iff.1 hc').1
        · rw [hown2.cellAt i (by omega)]
          have hrep : (madeCells (Value.bool false).cells ((k + 1) * 1)).toList = List.replicate ((k + 1) * 1) (.bool false) := toList_madeCells_one _ _
          rw [hrep, List.getElem?_replicate, if_pos (by omega)]
      have bl2 : Below w.heap.size w w2 := bl.trans (b2.mono bl.size)
      have hbT : b < w.heap.size := World.block_lt_of_cell? _ _ (hats 0 hpos)
      have hall2 : ∀ i, i < k → ∃ j, j < k ∧ f i = tmH ats j ∧ (fun _ : Nat => false) (j + 1) = false := fun i hi => by
        obtain ⟨j, hj, e⟩ := hS.all i hi
        exact ⟨j, hj, e, rfl⟩
      clear hown2 hgrow2 b2 hH hi hz0 hz1 hz2 bl
      generalize wr.heap.size = S at *
      have hinj2 := hS.inj
      clear hS
      go_loopw [7, 8, 9, 10, 11, 12] (fun pa ps kv _ _ _ W => ∃ (c r : Nat) (f1 : Nat → Tm) (sn : Nat → Bool) (PA PS : Int), c + r = k ∧ kv = .int .i64 c ∧ pa = .int .i64 PA ∧ ps = .int .u64 PS ∧ HS w.heap.size W g capg r f1 (k : Int) ∧ Heap f1 r ∧ Inj f1 r ∧ (∀ i, i < r → ∃ j, j < k ∧ f1 i = tmH ats j ∧ sn (j + 1) = false) ∧ (0 < c → ∀ i, i < r → PA < (f1 i).due ∨ (PA = (f1 i).due ∧ PS < (f1 i).seq)) ∧ SeenAt W S k sn ∧ Below w.heap.size w W) (fun _ _ kv _ _ _ _ => k - (intOf kv).toNat)
      case atStart => exact ⟨0, k, f, _, 0, 0, by omega, rfl, rfl, rfl, hH2, hp, hinj2, hall2, fun h => absurd h (Nat.lt_irrefl _), hse2, bl2⟩
      case round =>
        obtain ⟨c, r, f1, sn, PA, PS, hcr, rfl, rfl, rfl, hH, hp1, hinj, hall, hprev, hse, bl5⟩ := hrel
        clear hH2 hp hinj2 hall2 hse2 bl2
        cases r with
        | zero =>
          have hck : ¬ (c : Int) < (k : Int) := by omega
          have hc1 := hH.c1
          go_wp2_with (go_at_call 7; refine (len_tm hH).mono ?_; rintro e w9 ⟨rfl, rfl⟩)
          go_ret
          exact ⟨rfl, bl5⟩
        | succ m =>
          have hck : (c : Int) < (k : Int) := by omega
          have hcm : (k : Int) - (c : Int) = (m : Int) + 1 := by omega
          obtain ⟨j, hj, e0, hsn⟩ := hall 0 (Nat.succ_pos _)
          have hall' : ∀ f', Arr m (sw f1 0 m) f' → ∀ i, i < m → ∃ j', j' < k ∧ f' i = tmH ats j' ∧ (if j' + 1 = j + 1 then true else sn (j' + 1)) = false := fun f' ha i hi => by
            obtain ⟨q, hq0, hq, e⟩ := popped_from ha i hi
            obtain ⟨j', hj', e', hs'⟩ := hall q hq
            refine ⟨j', hj', e.trans e', ?_⟩
            have hne : j' ≠ j := fun hjj => by
              have := hinj q 0 hq (Nat.succ_pos _) (by rw [e', e0, hjj])
              omega
            simp [hne, hs']
          have hlt' : ∀ f', Arr m (sw f1 0 m) f' → ∀ i, i < m → ats j < (f' i).due ∨ (ats j = (f' i).due ∧ (j : Int) + 1 < (f' i).seq) := fun f' ha i hi => by
            obtain ⟨q, hq0, hq, e⟩ := popped_from ha i hi
            have h1 := hp1.least q hq
            have h2 : (f1 0).seq ≠ (f1 q).seq := fun hqq => by
              have := hinj 0 q (Nat.succ_pos _) hq hqq
              omega
            have := lt_of_le h1 h2
            rw [e0] at this
            rw [e]
            exact this
          have hpr : 0 < c → PA < ats j ∨ (PA = ats j ∧ PS < (j : Int) + 1) := fun h => by
            have := hprev h 0 (Nat.succ_pos _)
            rw [e0] at this
            exact this
          clear hall hprev
          by_cases hc0 : 0 < c
          · have hc0' : 0 < (c : Int) := by omega
            rcases hpr hc0 with hA | ⟨hA, hB⟩
            · have t1 : ¬ (ats j < PA) := by omega
              have t2 : (ats j == PA) = false := by simp; omega
              go_wp2_with (first
                | (go_at_call 7; refine (len_tm hH).mono ?_; rintro e w9 ⟨rfl, rfl⟩)
                | (go_at_call 8; refine (hpop_lit ats j hH hp1 (by omega) e0).mono ?_; rintro e w3 ⟨rfl, f', hH3, kp3, hp3, ha3⟩
                   have hSb := kp3.block S hse.lt (by omega) (by omega)
                   have hse3 : SeenAt w3 S k sn := ⟨Nat.lt_of_lt_of_le hse.lt kp3.size, fun i hi => (World.cell?_of_block (a := ⟨S, i, none⟩) hSb).trans (hse.at_ i hi), fun o => (World.frozen?_of_block (a := ⟨S, o, none⟩) hSb).trans (hse.fz o)⟩
                   have hs3 := hse3.at_ (j + 1) (by omega)
                   rw [hsn] at hs3
                   have hf3 := hse3.fz (j + 1)
                   have hl3 := hse3.lt
                   have hg3 := hH3.row.lt
                   have blw3 : Below w.heap.size w w3 := bl5.trans (kp3.below bl5.size (Nat.le_refl _) (Nat.le_of_lt hTg))
                   have hat3 := (blw3.cell (p := ⟨b, off + j, none⟩) hbT).trans (hats j hj)
                   have hbl3 : b < w3.heap.size := by omega))
              go_quiet (fail)
              go_wp2
              go_roundw
              case rel =>
                obtain ⟨p1, p2, p3⟩ := seen_put hse3 (j + 1) (by omega) (.cells #[.int .i64 (ats j), .int .u64 ((j : Int) + 1), .int .u8 ((j : Int) % 3), .pointer none, .pointer none, .int .i64 (j : Int)] 35) _
                exact ⟨c + 1, m, f', _, ats j, (j : Int) + 1, by omega, by go_num, rfl, rfl, hH3.same (p3 _ (by omega) (by omega)) (p3 _ (by omega) (by omega)), hp3, popped_inj hinj ha3, hall' f' ha3, fun _ => hlt' f' ha3, p1, blw3.trans (p2.mono (by omega))⟩
              case measure => simp [intOf]; omega
            · have t1 : ¬ (ats j < PA) := by omega
              have t2 : (ats j == PA) = true := by simp; omega
              have t3 : ¬ ((j : Int) + 1 ≤ PS) := by omega
              go_wp2_with (first
                | (go_at_call 7; refine (len_tm hH).mono ?_; rintro e w9 ⟨rfl, rfl⟩)
                | (go_at_call 8; refine (hpop_lit ats j hH hp1 (by omega) e0).mono ?_; rintro e w3 ⟨rfl, f', hH3, kp3, hp3, ha3⟩
                   have hSb := kp3.block S hse.lt (by omega) (by omega)
                   have hse3 : SeenAt w3 S k sn := ⟨Nat.lt_of_lt_of_le hse.lt kp3.size, fun i hi => (World.cell?_of_block (a := ⟨S, i, none⟩) hSb).trans (hse.at_ i hi), fun o => (World.frozen?_of_block (a := ⟨S, o, none⟩) hSb).trans (hse.fz o)⟩
                   have hs3 := hse3.at_ (j + 1) (by omega)
                   rw [hsn] at hs3
                   have hf3 := hse3.fz (j + 1)
                   have hl3 := hse3.lt
                   have hg3 := hH3.row.lt
                   have blw3 : Below w.heap.size w w3 := bl5.trans (kp3.below bl5.size (Nat.le_refl _) (Nat.le_of_lt hTg))
                   have hat3 := (blw3.cell (p := ⟨b, off + j, none⟩) hbT).trans (hats j hj)
                   have hbl3 : b < w3.heap.size := by omega))
              go_quiet (fail)
              go_wp2
              go_roundw
              case rel =>
                obtain ⟨p1, p2, p3⟩ := seen_put hse3 (j + 1) (by omega) (.cells #[.int .i64 (ats j), .int .u64 ((j : Int) + 1), .int .u8 ((j : Int) % 3), .pointer none, .pointer none, .int .i64 (j : Int)] 35) _
                exact ⟨c + 1, m, f', _, ats j, (j : Int) + 1, by omega, by go_num, rfl, rfl, hH3.same (p3 _ (by omega) (by omega)) (p3 _ (by omega) (by omega)), hp3, popped_inj hinj ha3, hall' f' ha3, fun _ => hlt' f' ha3, p1, blw3.trans (p2.mono (by omega))⟩
              case measure => simp [intOf]; omega
          · have hc0' : ¬ (0 < (c : Int)) := by omega
            go_wp2_with (first
              | (go_at_call 7; refine (len_tm hH).mono ?_; rintro e w9 ⟨rfl, rfl⟩)
              | (go_at_call 8; refine (hpop_lit ats j hH hp1 (by omega) e0).mono ?_; rintro e w3 ⟨rfl, f', hH3, kp3, hp3, ha3⟩
                 have hSb := kp3.block S hse.lt (by omega) (by omega)
                 have hse3 : SeenAt w3 S k sn := ⟨Nat.lt_of_lt_of_le hse.lt kp3.size, fun i hi => (World.cell?_of_block (a := ⟨S, i, none⟩) hSb).trans (hse.at_ i hi), fun o => (World.frozen?_of_block (a := ⟨S, o, none⟩) hSb).trans (hse.fz o)⟩
                 have hs3 := hse3.at_ (j + 1) (by omega)
                 rw [hsn] at hs3
                 have hf3 := hse3.fz (j + 1)
                 have hl3 := hse3.lt
                 have hg3 := hH3.row.lt
                 have blw3 : Below w.heap.size w w3 := bl5.trans (kp3.below bl5.size (Nat.le_refl _) (Nat.le_of_lt hTg))
                 have hat3 := (blw3.cell (p := ⟨b, off + j, none⟩) hbT).trans (hats j hj)
                 have hbl3 : b < w3.heap.size := by omega))
            go_quiet (fail)
            go_wp2
            go_roundw
            case rel =>
              obtain ⟨p1, p2, p3⟩ := seen_put hse3 (j + 1) (by omega) (.cells #[.int .i64 (ats j), .int .u64 ((j : Int) + 1), .int .u8 ((j : Int) % 3), .pointer none, .pointer none, .int .i64 (j : Int)] 35) _
              exact ⟨c + 1, m, f', _, ats j, (j : Int) + 1, by omega, by go_num, rfl, rfl, hH3.same (p3 _ (by omega) (by omega)) (p3 _ (by omega) (by omega)), hp3, popped_inj hinj ha3, hall' f' ha3, fun _ => hlt' f' ha3, p1, blw3.trans (p2.mono (by omega))⟩
            case measure => simp [intOf]; omega
end Go.Proofs.Ybulkcbxw
