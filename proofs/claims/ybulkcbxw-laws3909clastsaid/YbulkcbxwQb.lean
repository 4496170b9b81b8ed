/-
  Seat b3909a: the walk of LawS3909CLast.
-/
import Derived.Test.YbulkcbxwQa
import Derived.OwnWalk
namespace Go.Proofs.Ybulkcbxw
open Go.RowKit

theorem there_sub {w : World} {b N o n : Nat} (h : w.there b 0 N) (hn : o + n ≤ N) : w.there b o n := fun j hj => by
  have := h (o + j) (by omega)
  simpa using this
theorem below_setCells {B b : Nat} {a : World} (hb : B ≤ b) : ∀ (vs : List Value) (o : Nat) {w : World}, Below B a w → Below B a (w.setCells b o vs)
  | [], _, _, h => h
  | _ :: r, o, _, h => below_setCells hb r (o + 1) (h.setCell (p := ⟨b, o, none⟩) hb _)
theorem heap_setCells {b k : Nat} (hk : k ≠ b) : ∀ (vs : List Value) (o : Nat) (w : World), (w.setCells b o vs).heap[k]? = w.heap[k]?
  | [], _, _ => rfl
  | _ :: r, o, w => (heap_setCells hk r (o + 1) (w.setCell ⟨b, o, none⟩ _)).trans (Below.heap_setCell w ⟨b, o, none⟩ _ k hk)
theorem made_there {w w1 : World} {len base : Nat} {z : List Value} (h : w1.ownsRow base 35 6 (.slice (some ⟨w.heap.size, 0, none⟩) len len) len z) : w1.there w.heap.size 0 (len * 6) := fun j hj => by
  refine ⟨?_, ?_⟩
  · simp only [Nat.zero_add]
    rw [h.cellAt j hj]
    have := h.1
    simp
    omega
  · simpa using h.frozenAt j
theorem made_lt {w w1 : World} {len base : Nat} {z : List Value} (h : w1.ownsRow base 35 6 (.slice (some ⟨w.heap.size, 0, none⟩) len len) len z) : w.heap.size < w1.heap.size := by
  rcases h.2 with ⟨e, _⟩ | ⟨g, _, cur, e, _, hc', _⟩
  · cases e
  · cases e; exact (Array.getElem?_eq_some_iff.1 hc').1

/-- The timer that the law makes at index i. -/
def tmL (S len1 : Nat) (ats mf : Nat → Int) (i : Nat) : Tm := { due := ats i, seq := (i : Int) * 3, kind := (i : Int) % 3, p := if i % 2 = 1 then some ⟨S, 0, none⟩ else none, m := if i < len1 then mf i else 0 }

theorem tms_put {W : World} {R k : Nat} {f : Nat → Tm} (h : TmsAt W R k f) (ht : W.there R (k * 6) 6) (cs : List Value) (hcs : cs = (f k).cells) : TmsAt (W.setCells R (k * 6) cs) R (k + 1) f := fun i hi => by
  by_cases e : i < k
  · refine World.rangeAt_setCells_apart (h i e) _ _ _ (.inr (.inl ?_))
    have : (f i).cells.length = 6 := rfl
    rw [this]; omega
  · obtain rfl : i = k := by omega
    rw [hcs]
    exact World.rangeAt_setCells_same _ _ _ _ ht
theorem tms_other {W : World} {R R' k o : Nat} {f : Nat → Tm} (h : TmsAt W R k f) (hne : R ≠ R') (cs : List Value) : TmsAt (W.setCells R' o cs) R k f := fun i hi => World.rangeAt_setCells_apart (h i hi) _ _ _ (.inl hne)
theorem tms_below {W W' : World} {R k B : Nat} {f : Nat → Tm} (h : TmsAt W R k f) (b : Below B W W') (hR : R < B) : TmsAt W' R k f := fun i hi j v hv =>
  (b.cell (p := ⟨R, i * 6 + j, none⟩) hR).trans (h i hi j v hv)

theorem there_below {W W' : World} {R n B : Nat} (h : W.there R 0 n) (b : Below B W W') (hR : R < B) : W'.there R 0 n := fun j hj => by
  have := h j hj
  exact ⟨by rw [b.cell (p := ⟨R, 0 + j, none⟩) hR]; exact this.1, by rw [b.frozen (p := ⟨R, 0 + j, none⟩) hR]; exact this.2⟩
theorem tms_alloc {W : World} {R k : Nat} {f : Nat → Tm} (h : TmsAt W R k f) (o : Obj) : TmsAt (W.alloc o) R k f := fun i hi => World.rangeAt_alloc (h i hi) o

set_option maxRecDepth 100000 in
set_option maxHeartbeats 2000000 in
theorem last_row (b off m cap : Nat) (ats : Nat → Int) (a1 : Option Addr) (len1 cap1 : Nat) (mf : Nat → Int) (sq : Int) (w : World) (hm : m < 1024) (hats : ∀ i, i < m + 1 → w.cell? ⟨b, off + i, none⟩ = some (.int .i64 (ats i)))
    (hms : ∀ i, i < len1 → ∃ b1 o1, a1 = some ⟨b1, o1, none⟩ ∧ w.cell? ⟨b1, o1 + i, none⟩ = some (.int .i64 (mf i))) (_hl1 : len1 ≤ maxLen) :
    Calls Yba.prog 3 #[.slice (some ⟨b, off, none⟩) (m + 1) cap, .slice a1 len1 cap1, .int .u64 sq] w fun e w' => e = .returned (.bool true) ∧ Below w.heap.size w w' := by
  unfold maxLen at _hl1
  obtain ⟨i0, hi, hz0, hz1, hz2⟩ := info_parts info35
  have hmm : ¬ ((1024 : Int) < (m : Int) + 1) := by omega
  have hm0 : (((m : Int) + 1) == 0) = false := by simp; omega
  go_enter Yba.func3, Yba.ntmps3
  go_wp2_with (first
    | (at_make; refine wpList_make_full _ rfl (.tmp 28) _ 32 rfl 0 35 i0 _ 6 Yba.underlying32 hi hz0 hz1 .i64 .i64 _ _ (m + 1) rfl rfl (by simp) (by simp) (by rw [hz2]; omega) (by unfold maxLen; omega) (Nat.zero_le _) ?_; intro w1 hown1 hgrow1)
    | (at_make; refine wpList_make_full _ rfl (.tmp 30) _ 32 rfl 0 35 i0 _ 6 Yba.underlying32 hi hz0 hz1 .i64 .i64 _ _ (m + 1) rfl rfl (by simp) (by simp) (by rw [hz2]; omega) (by unfold maxLen; omega) (Nat.zero_le _) ?_; intro w2 hown2 hgrow2))
  have hsz : ∀ o, (w.alloc o).heap.size = w.heap.size + 1 := fun o => by simp
  have ht1 := made_there hown1
  have lt1 := made_lt hown1
  have ht2 := made_there hown2
  have lt2 := made_lt hown2
  rw [hsz] at ht1 lt1
  have blA : Below w.heap.size w w1 := ((Below.refl _ _).alloc (Nat.le_refl _) _).grown hgrow1 (by simp) (fun k e => by cases e)
  have blB : Below w1.heap.size w1 w2 := (Below.refl _ _).grown hgrow2 (Nat.le_refl _) (fun k e => by cases e)
  have ht1' := there_below ht1 blB lt1
  have bl0 : Below w.heap.size w w2 := blA.trans (blB.mono blA.size)
  clear hown1 hown2 hgrow1 hgrow2 blA blB ht1 hi hz0 hz1 hz2 hsz
  generalize w1.heap.size = R2 at *
  generalize hf : tmL w.heap.size len1 ats mf = f
  go_loopw [11, 12] (fun i _ W => ∃ k : Nat, k ≤ m + 1 ∧ i = .int .i64 k ∧ Below w.heap.size w W ∧ R2 < W.heap.size ∧ W.there (w.heap.size + 1) 0 ((m + 1) * 6) ∧ W.there R2 0 ((m + 1) * 6) ∧ TmsAt W (w.heap.size + 1) k f ∧ TmsAt W R2 k f) (fun i _ _ => m + 1 - (intOf i).toNat)
  case atStart => exact ⟨0, Nat.zero_le _, rfl, bl0, lt2, ht1', ht2, fun i h => absurd h (Nat.not_lt_zero _), fun i h => absurd h (Nat.not_lt_zero _)⟩
  case round =>
    obtain ⟨k, hk, rfl, bl, lt2, ht1, ht2, hA, hB⟩ := hrel
    clear bl0 ht1'
    by_cases hkm : k < m + 1
    · have hkm' : (k : Int) < (m : Int) + 1 := by omega
      have hak := hats k hkm
      have hak' := (bl.cell (p := ⟨b, off + k, none⟩) (World.block_lt_of_cell? _ _ hak)).trans hak
      have ht1k := there_sub (o := k * 6) (n := 6) ht1 (by omega)
      have ht2k := there_sub (o := k * 6) (n := 6) ht2 (by omega)
      have hfk : f k = tmL w.heap.size len1 ats mf k := by rw [hf]
      have hne : w.heap.size + 1 ≠ R2 := by omega
      clear hak
      have hsz2 : ∀ o c1 c2, R2 < (((wr.alloc o).setCells (w.heap.size + 1) (k * 6) c1).setCells R2 (k * 6) c2).heap.size := fun o c1 c2 =>
        Nat.lt_of_lt_of_le lt2 (Nat.le_trans (by simp) (below_setCells (B := 0) (Nat.zero_le _) _ _ (below_setCells (B := 0) (Nat.zero_le _) _ _ (Below.refl 0 (wr.alloc o)))).size)
      have hld : ∀ c0 cs, ((wr.alloc (.cells c0 35)).setCells (w.heap.size + 1) (k * 6) cs).heap[wr.heap.size]? = some (.cells c0 35 (0, 0)) := fun c0 cs => (heap_setCells (by omega) _ _ _).trans (heap_alloc_last wr _)
      by_cases hk1 : k < len1
      · obtain ⟨b1, o1, rfl, hc1⟩ := hms k hk1
        have hc1' := (bl.cell (p := ⟨b1, o1 + k, none⟩) (World.block_lt_of_cell? _ _ hc1)).trans hc1
        have hlt := World.block_lt_of_cell? _ _ hc1'
        have hk1' : (k : Int) < (len1 : Int) := by omega
        clear hc1
        by_cases hk2 : k % 2 = 1
        · have hk2' : (k : Int) % 2 = 1 := by omega
          go_wp2_with (first
            | (refine wpList_store_mid ?_ 35 (.tmp 65) (.tmp 64) ?_ (w.heap.size + 1) (k * 6) #[.int .i64 (ats k), .int .u64 ((k : Int) * 3), .int .u8 ((k : Int) % 3), .pointer (some ⟨w.heap.size, 0, none⟩), .pointer none, .int .i64 (mf k)] ?_ ?_ ?_ ?_ ?_ ?_
               · exact rfl
               · exact rfl
               · exact rfl
               · exact rfl
               · exact World.there_alloc ht1k _
               · exact size35
               · simp [Value.oneCell'])
            | (refine wpList_store_mid ?_ 35 (.tmp 69) (.tmp 68) ?_ R2 (k * 6) #[.int .i64 (ats k), .int .u64 ((k : Int) * 3), .int .u8 ((k : Int) % 3), .pointer (some ⟨w.heap.size, 0, none⟩), .pointer none, .int .i64 (mf k)] ?_ ?_ ?_ ?_ ?_ ?_
               · exact rfl
               · exact rfl
               · exact rfl
               · exact rfl
               · exact World.there_setCells (World.there_alloc ht2k _) _ _ _
               · exact size35
               · simp [Value.oneCell'])
            | (refine wpList_load_row ?_ 35 (.tmp 12) ?_ wr.heap.size ?_ 35 #[.int .i64 (ats k), .int .u64 ((k : Int) * 3), .int .u8 ((k : Int) % 3), .pointer (some ⟨w.heap.size, 0, none⟩), .pointer none, .int .i64 (mf k)] (0, 0) _ ?_ Yba.underlying35 rfl ?_ ?_
               · exact rfl
               · exact rfl
               · exact rfl
               · first | exact hld _ _ | exact heap_alloc_last wr _
               · exact size35))
          go_roundw
          case rel => exact ⟨k + 1, by omega, by go_num, below_setCells (by omega) _ _ (below_setCells (by omega) _ _ (bl.alloc bl.size _)), hsz2 _ _ _, World.there_setCells (World.there_setCells (World.there_alloc ht1 _) _ _ _) _ _ _, World.there_setCells (World.there_setCells (World.there_alloc ht2 _) _ _ _) _ _ _,
            tms_other (tms_put (tms_alloc hA _) (World.there_alloc ht1k _) _ (by rw [hfk]; simp [tmL, Tm.cells, hk2, hk1])) hne _, tms_put (tms_other (tms_alloc hB _) (Ne.symm hne) _) (World.there_setCells (World.there_alloc ht2k _) _ _ _) _ (by rw [hfk]; simp [tmL, Tm.cells, hk2, hk1])⟩
          case measure => simp [intOf]; omega
        · have hk2' : (k : Int) % 2 = 0 := by omega
          go_wp2_with (first
            | (refine wpList_store_mid ?_ 35 (.tmp 65) (.tmp 64) ?_ (w.heap.size + 1) (k * 6) #[.int .i64 (ats k), .int .u64 ((k : Int) * 3), .int .u8 ((k : Int) % 3), .pointer none, .pointer none, .int .i64 (mf k)] ?_ ?_ ?_ ?_ ?_ ?_
               · exact rfl
               · exact rfl
               · exact rfl
               · exact rfl
               · exact World.there_alloc ht1k _
               · exact size35
               · simp [Value.oneCell'])
            | (refine wpList_store_mid ?_ 35 (.tmp 69) (.tmp 68) ?_ R2 (k * 6) #[.int .i64 (ats k), .int .u64 ((k : Int) * 3), .int .u8 ((k : Int) % 3), .pointer none, .pointer none, .int .i64 (mf k)] ?_ ?_ ?_ ?_ ?_ ?_
               · exact rfl
               · exact rfl
               · exact rfl
               · exact rfl
               · exact World.there_setCells (World.there_alloc ht2k _) _ _ _
               · exact size35
               · simp [Value.oneCell'])
            | (refine wpList_load_row ?_ 35 (.tmp 12) ?_ wr.heap.size ?_ 35 #[.int .i64 (ats k), .int .u64 ((k : Int) * 3), .int .u8 ((k : Int) % 3), .pointer none, .pointer none, .int .i64 (mf k)] (0, 0) _ ?_ Yba.underlying35 rfl ?_ ?_
               · exact rfl
               · exact rfl
               · exact rfl
               · first | exact hld _ _ | exact heap_alloc_last wr _
               · exact size35))
          go_roundw
          case rel => exact ⟨k + 1, by omega, by go_num, below_setCells (by omega) _ _ (below_setCells (by omega) _ _ (bl.alloc bl.size _)), hsz2 _ _ _, World.there_setCells (World.there_setCells (World.there_alloc ht1 _) _ _ _) _ _ _, World.there_setCells (World.there_setCells (World.there_alloc ht2 _) _ _ _) _ _ _,
            tms_other (tms_put (tms_alloc hA _) (World.there_alloc ht1k _) _ (by rw [hfk]; simp [tmL, Tm.cells, hk2, hk1])) hne _, tms_put (tms_other (tms_alloc hB _) (Ne.symm hne) _) (World.there_setCells (World.there_alloc ht2k _) _ _ _) _ (by rw [hfk]; simp [tmL, Tm.cells, hk2, hk1])⟩
          case measure => simp [intOf]; omega
      · have hk1' : ¬ (k : Int) < (len1 : Int) := by omega
        by_cases hk2 : k % 2 = 1
        · have hk2' : (k : Int) % 2 = 1 := by omega
          go_wp2_with (first
            | (refine wpList_store_mid ?_ 35 (.tmp 65) (.tmp 64) ?_ (w.heap.size + 1) (k * 6) #[.int .i64 (ats k), .int .u64 ((k : Int) * 3), .int .u8 ((k : Int) % 3), .pointer (some ⟨w.heap.size, 0, none⟩), .pointer none, .int .i64 0] ?_ ?_ ?_ ?_ ?_ ?_
               · exact rfl
               · exact rfl
               · exact rfl
               · exact rfl
               · exact World.there_alloc ht1k _
               · exact size35
               · simp [Value.oneCell'])
            | (refine wpList_store_mid ?_ 35 (.tmp 69) (.tmp 68) ?_ R2 (k * 6) #[.int .i64 (ats k), .int .u64 ((k : Int) * 3), .int .u8 ((k : Int) % 3), .pointer (some ⟨w.heap.size, 0, none⟩), .pointer none, .int .i64 0] ?_ ?_ ?_ ?_ ?_ ?_
               · exact rfl
               · exact rfl
               · exact rfl
               · exact rfl
               · exact World.there_setCells (World.there_alloc ht2k _) _ _ _
               · exact size35
               · simp [Value.oneCell'])
            | (refine wpList_load_row ?_ 35 (.tmp 12) ?_ wr.heap.size ?_ 35 #[.int .i64 (ats k), .int .u64 ((k : Int) * 3), .int .u8 ((k : Int) % 3), .pointer (some ⟨w.heap.size, 0, none⟩), .pointer none, .int .i64 0] (0, 0) _ ?_ Yba.underlying35 rfl ?_ ?_
               · exact rfl
               · exact rfl
               · exact rfl
               · first | exact hld _ _ | exact heap_alloc_last wr _
               · exact size35))
          go_roundw
          case rel => exact ⟨k + 1, by omega, by go_num, below_setCells (by omega) _ _ (below_setCells (by omega) _ _ (bl.alloc bl.size _)), hsz2 _ _ _, World.there_setCells (World.there_setCells (World.there_alloc ht1 _) _ _ _) _ _ _, World.there_setCells (World.there_setCells (World.there_alloc ht2 _) _ _ _) _ _ _,
            tms_other (tms_put (tms_alloc hA _) (World.there_alloc ht1k _) _ (by rw [hfk]; simp [tmL, Tm.cells, hk2, hk1])) hne _, tms_put (tms_other (tms_alloc hB _) (Ne.symm hne) _) (World.there_setCells (World.there_alloc ht2k _) _ _ _) _ (by rw [hfk]; simp [tmL, Tm.cells, hk2, hk1])⟩
          case measure => simp [intOf]; omega
        · have hk2' : (k : Int) % 2 = 0 := by omega
          go_wp2_with (first
            | (refine wpList_store_mid ?_ 35 (.tmp 65) (.tmp 64) ?_ (w.heap.size + 1) (k * 6) #[.int .i64 (ats k), .int .u64 ((k : Int) * 3), .int .u8 ((k : Int) % 3), .pointer none, .pointer none, .int .i64 0] ?_ ?_ ?_ ?_ ?_ ?_
               · exact rfl
               · exact rfl
               · exact rfl
               · exact rfl
               · exact World.there_alloc ht1k _
               · exact size35
               · simp [Value.oneCell'])
            | (refine wpList_store_mid ?_ 35 (.tmp 69) (.tmp 68) ?_ R2 (k * 6) #[.int .i64 (ats k), .int .u64 ((k : Int) * 3), .int .u8 ((k : Int) % 3), .pointer none, .pointer none, .int .i64 0] ?_ ?_ ?_ ?_ ?_ ?_
               · exact rfl
               · exact rfl
               · exact rfl
               · exact rfl
               · exact World.there_setCells (World.there_alloc ht2k _) _ _ _
               · exact size35
               · simp [Value.oneCell'])
            | (refine wpList_load_row ?_ 35 (.tmp 12) ?_ wr.heap.size ?_ 35 #[.int .i64 (ats k), .int .u64 ((k : Int) * 3), .int .u8 ((k : Int) % 3), .pointer none, .pointer none, .int .i64 0] (0, 0) _ ?_ Yba.underlying35 rfl ?_ ?_
               · exact rfl
               · exact rfl
               · exact rfl
               · first | exact hld _ _ | exact heap_alloc_last wr _
               · exact size35))
          go_roundw
          case rel => exact ⟨k + 1, by omega, by go_num, below_setCells (by omega) _ _ (below_setCells (by omega) _ _ (bl.alloc bl.size _)), hsz2 _ _ _, World.there_setCells (World.there_setCells (World.there_alloc ht1 _) _ _ _) _ _ _, World.there_setCells (World.there_setCells (World.there_alloc ht2 _) _ _ _) _ _ _,
            tms_other (tms_put (tms_alloc hA _) (World.there_alloc ht1k _) _ (by rw [hfk]; simp [tmL, Tm.cells, hk2, hk1])) hne _, tms_put (tms_other (tms_alloc hB _) (Ne.symm hne) _) (World.there_setCells (World.there_alloc ht2k _) _ _ _) _ (by rw [hfk]; simp [tmL, Tm.cells, hk2, hk1])⟩
          case measure => simp [intOf]; omega
    · have hkm' : ¬ (k : Int) < (m : Int) + 1 := by omega
      obtain rfl : k = m + 1 := by omega
      have hneq := tm_neq
      have has := as35
      have hszw := bl.size
      clear hms hats hf ht1 ht2 hkm
      go_wp2_with (first
        | (go_at_call 5; refine (pop_tm wr.heap.size (w.heap.size + 1) m (m + 1) (f m) _ ?_ (Nat.le_refl _) ?_ ?_ ?_).mono ?_
           · simp [go_sem]
           · unfold maxLen; omega
           · simp [go_sem]
           · exact World.rangeAt_alloc (hA m (Nat.lt_succ_self _)) _
           rintro e w3 ⟨rfl, hg3, hc3, hs3, hf3⟩
           have blP : Below wr.heap.size wr w3 := ((Below.refl _ _).alloc (Nat.le_refl _) _).grown hg3 (by simp) (fun k e => by cases e; exact Nat.le_refl _)
           have hT3 := World.block_lt_of_cell? _ _ hc3
           clear hg3 hf3
           simp [go_sem] at hs3)
        | (refine wpList_store_new ?_ 35 (.tmp 15) (.tmp 79) ?_ 35 _ (f m).cells.toArray ?_ ?_ ?_ ?_ (Tm.one _) ?_
           · exact rfl
           · exact rfl
           · exact rfl
           · exact rfl
           · exact size35
           · rfl))
      have hlt1 : w.heap.size + 1 < wr.heap.size := by omega
      have b4 : Below w3.heap.size w3 (w3.alloc (.cells (f m).cells.toArray 35)) := (Below.refl _ _).alloc (Nat.le_refl _) _
      have hA4 := tms_below (tms_below hA blP hlt1) b4 (Nat.lt_of_lt_of_le hlt1 blP.size)
      have hB4 := tms_below (tms_below hB blP lt2) b4 (Nat.lt_of_lt_of_le lt2 blP.size)
      have hnew := Tm.new (f m) (W := w3) 35
      have hc4 := (b4.cell (p := ⟨wr.heap.size, 0, none⟩) hT3).trans hc3
      have hs4 := (b4.cell (p := ⟨wr.heap.size, 1, none⟩) hT3).trans hs3
      have hbl4 : Below w.heap.size w (w3.alloc (.cells (f m).cells.toArray 35)) := (bl.trans (blP.mono bl.size)).trans (b4.mono (Nat.le_trans bl.size blP.size))
      have hlen : Hid ((f m).cells.length = 6) := rfl
      refine wp_region_quiet_lit (by kernel_rfl) (by kernel_rfl) ?_
      repeat (first
        | (refine quiet_load_mid 35 (.tmp 15) ?_ ?_ w3.heap.size 0 ?_ (f m).cells _ ?_ Yba.underlying35 rfl ?_ ?_
           · exact rfl
           · exact rfl
           · exact rfl
           · rintro _ ⟨q, rfl⟩; exact hnew
           · exact size35
           simp only [Act.put, List.setIfInBounds_toArray, List.set_cons_succ, List.set_cons_zero])
        | (refine quiet_load_mid 35 (.tmp 88) ?_ ?_ R2 (m * 6) ?_ (f m).cells _ ?_ Yba.underlying35 rfl ?_ ?_
           · exact rfl
           · exact rfl
           · exact rfl
           · rintro _ ⟨q, rfl⟩; exact hB4 m (Nat.lt_succ_self _)
           · exact size35
           simp only [Act.put, List.setIfInBounds_toArray, List.set_cons_succ, List.set_cons_zero])
        | go_big_quiet_step (fail))
      refine wpQuiet_nil ?_
      rintro _ ⟨nq, rfl⟩
      clear hnew
      have hL4 : R2 < (w3.alloc (.cells (f m).cells.toArray 35)).heap.size := Nat.lt_of_lt_of_le lt2 (Nat.le_trans blP.size b4.size)
      have hT4 : wr.heap.size < (w3.alloc (.cells (f m).cells.toArray 35)).heap.size := Nat.lt_of_lt_of_le hT3 b4.size
      clear b4 hc3 hs3 blP hA hB bl lt2 hT3
      generalize w3.alloc (.cells (f m).cells.toArray 35) = W4 at *
      generalize wr.heap.size = T at *
      go_wp2
      go_loopw [17] (fun i W => ∃ x : Nat, x ≤ m ∧ i = .int .i64 x ∧ Below W4.heap.size W4 W) (fun i _ => m - (intOf i).toNat)
      case atStart => exact ⟨0, Nat.zero_le _, rfl, below_drewN _ _ _⟩
      case round =>
        obtain ⟨x, hx, rfl, bl5⟩ := hrel
        by_cases hxm : x < m
        · have hxm' : (x : Int) < (m : Int) := by omega
          have hc5 := (bl5.cell (p := ⟨T, 0, none⟩) hT4).trans hc4
          have hA5 := tms_below hA4 bl5 (by omega) x (by omega)
          have hB5 := tms_below hB4 bl5 hL4 x (by omega)
          go_wp2
          refine wp_region_quiet_lit (by kernel_rfl) (by kernel_rfl) ?_
          repeat (first
            | (refine quiet_load_mid 35 (.tmp 119) ?_ ?_ (w.heap.size + 1) (x * 6) ?_ (f x).cells _ ?_ Yba.underlying35 rfl ?_ ?_
               · exact rfl
               · exact rfl
               · exact rfl
               · rintro _ ⟨q, rfl⟩; exact hA5
               · exact size35
               simp only [Act.put, List.setIfInBounds_toArray, List.set_cons_succ, List.set_cons_zero])
            | (refine quiet_load_mid 35 (.tmp 123) ?_ ?_ R2 (x * 6) ?_ (f x).cells _ ?_ Yba.underlying35 rfl ?_ ?_
               · exact rfl
               · exact rfl
               · exact rfl
               · rintro _ ⟨q, rfl⟩; exact hB5
               · exact size35
               simp only [Act.put, List.setIfInBounds_toArray, List.set_cons_succ, List.set_cons_zero])
            | go_big_quiet_step (fail))
          refine wpQuiet_nil ?_
          rintro _ ⟨nq, rfl⟩
          go_wp2
          go_roundw
          case rel => exact ⟨x + 1, by omega, by go_num, bl5.trans (below_drewN _ _ _)⟩
          case measure => simp [intOf]; omega
        · have hxm' : ¬ (x : Int) < (m : Int) := by omega
          go_wp2
          go_ret
          exact ⟨rfl, hbl4.trans (bl5.mono hbl4.size)⟩
end Go.Proofs.Ybulkcbxw
