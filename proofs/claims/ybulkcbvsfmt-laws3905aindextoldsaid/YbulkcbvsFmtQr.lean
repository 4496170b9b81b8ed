/-
  Seat b3905aF: the walk of LawS3905AIndex.
-/
import Derived.Test.YbulkcbvsFmtQp
namespace Go.Proofs.YbulkcbvsFmt
open Go.RowKit Go.Maps Go.Extern.Stop Go.Stop Go.Extern

/-- No record in use among the first j bears the name of record k. -/
def Clear (k j : Nat) (nm : Nat → List Int) (rf : Nat → Int) : Prop := ∀ i, i < j → rf i ≠ 0 → nm i ≠ nm k
theorem Clear.step {k j : Nat} {nm : Nat → List Int} {rf : Nat → Int} (h : rf j = 0 ∨ nm j ≠ nm k) : Clear k (j + 1) nm rf ↔ Clear k j nm rf := by
  refine ⟨fun H i hi h1 => H i (by omega) h1, fun H i hi h1 => ?_⟩
  by_cases e : i = j
  · subst e
    rcases h with h | h
    · exact absurd h h1
    · exact h
  · exact H i (by omega) h1
theorem Clear.hit {k j : Nat} {nm : Nat → List Int} {rf : Nat → Int} (h0 : rf j ≠ 0) (h : nm j = nm k) : ¬ Clear k (j + 1) nm rf := fun H => H j (by omega) h0 h
theorem Apart.clear {k : Nat} {nm : Nat → List Int} {rf : Nat → Int} (h0 : rf k ≠ 0) : Apart (k + 1) nm rf ↔ Apart k nm rf ∧ Clear k k nm rf := by
  refine ⟨fun H => ⟨fun i j hij hj h1 h2 => H i j hij (by omega) h1 h2, fun i hi h1 => H i k hi (by omega) h1 h0⟩, fun ⟨H1, H2⟩ i j hij hj h1 h2 => ?_⟩
  by_cases e : j = k
  · subst e; exact H2 i hij h1
  · exact H1 i j hij (by omega) h1 h2

set_option maxRecDepth 100000 in
set_option maxHeartbeats 4000000 in
theorem index_row (F : Interp) (ga : Addr) (s : ByteArray) (b off n cap : Nat) (nf rf : Nat → Int) (w : World) (hn : n ≤ 1024) (hpos : 0 < n) (hin : InAt w b off n nf rf) (hnf : ∀ i, i < n → 0 ≤ nf i ∧ nf i ≤ 255) (hrf : ∀ i, i < n → 0 ≤ rf i)
    (hF : F.answers w.tape) (hgl : w.cell? ⟨0, 0, none⟩ = some (.iface 94 (.pointer (some ga)))) (hs : w.cell? ga = some (.string s)) :
    Calls Ybaf.prog 3 #[.slice (some ⟨b, off, none⟩) n cap] w fun e w' => e = .returned (.bool true) ∧ Below w.heap.size w w' := by
  have hn' : ¬ ((1024 : Int) < (n : Int)) := by omega
  go_enter Ybaf.func3, Ybaf.ntmps3
  go_wp2_with (go_at_call 5; refine (buildB_row b off n cap nf rf w hn hin).mono ?_; rintro e w1 ⟨rfl, bl1, hsz1, hrec⟩)
  have hg : ∀ i, i < n → Good (nmB (nf i)) := fun i hi => nmB_good (hnf i hi)
  generalize hnm : (fun i => nmB (nf i)) = nm at hrec
  replace hg : ∀ i, i < n → Good (nm i) := fun i hi => by rw [← hnm]; exact hg i hi
  clear hnm hnf hin
  go_loopw [6, 7, 8] (fun d i _ W => ∃ (k : Nat) (db : Bool), k ≤ n ∧ i = .int .i64 k ∧ d = .bool db ∧ (db = false ↔ Apart k nm rf) ∧ Below w1.heap.size w1 W) (fun _ i _ _ => n - (intOf i).toNat)
  case atStart => exact ⟨0, false, Nat.zero_le _, rfl, rfl, ⟨fun _ => Apart.zero nm rf, fun _ => rfl⟩, ((Below.refl _ _).alloc (Nat.le_refl _) _).alloc (by simp) _⟩
  case round =>
    obtain ⟨k, db, hk, rfl, rfl, hdb, bl⟩ := hrel
    by_cases hkn : k < n
    · have hkn' : (k : Int) < (n : Int) := by omega
      have hrecW := hrec.below bl hsz1
      have hck := hrecW k hkn 32 _ (rec_last (hg k hkn) _)
      by_cases h0 : rf k = 0
      · have hb0 : (rf k == 0) = true := by simp [h0]
        have hdb' : db = false ↔ Apart (k + 1) nm rf := hdb.trans ⟨fun h => h.skip h0, fun h i j hij hj h1 h2 => h i j hij (by omega) h1 h2⟩
        clear h0 hdb
        go_wp2
        go_roundw
        case rel => exact ⟨k + 1, db, by omega, by go_num, rfl, hdb', bl⟩
        case measure => simp [intOf]; omega
      · have hb0 : (rf k == 0) = false := by simp [h0]
        go_wp2
        go_loopw [6, 8] (fun d j W => ∃ (m : Nat) (db : Bool), m ≤ k ∧ j = .int .i64 m ∧ d = .bool db ∧ (db = false ↔ Apart k nm rf ∧ Clear k m nm rf) ∧ Below w1.heap.size w1 W) (fun _ j _ => k - (intOf j).toNat)
        case atStart => exact ⟨0, db, Nat.zero_le _, rfl, rfl, hdb.trans ⟨fun h => ⟨h, fun i hi => absurd hi (Nat.not_lt_zero _)⟩, fun h => h.1⟩, bl⟩
        case round =>
          obtain ⟨m, db2, hm, rfl, rfl, hdb2, bl2⟩ := hrel
          by_cases hmk : m < k
          · have hmk' : (m : Int) < (k : Int) := by omega
            have hmn : m < n := by omega
            have hgm := hg m hmn
            have hgk := hg k hkn
            have hrecW2 := hrec.below bl2 hsz1
            have hcm := hrecW2 m hmn 32 _ (rec_last hgm _)
            have hnm1 := rec_names hrecW2 hmn
            have hnm2 := rec_names hrecW2 hkn
            by_cases hm0 : rf m = 0
            · have hgt : ¬ (0 < rf m) := by omega
              have hdc : decide (0 < rf m) = false := by simp [hgt]
              have hdb3 : db2 = false ↔ Apart k nm rf ∧ Clear k (m + 1) nm rf := by rw [Clear.step (.inl hm0)]; exact hdb2
              clear hm0 hdb2 hnm1 hnm2 hdb
              go_wp2
              go_quiet (fail)
              go_wp2
              go_roundw
              case rel => exact ⟨m + 1, db2, by omega, by go_num, rfl, hdb3, bl2.trans (below_drewN _ _ _)⟩
              case measure => simp [intOf]; omega
            · have hgt : 0 < rf m := by have := hrf m hmn; omega
              have hdc : decide (0 < rf m) = true := by simp [hgt]
              by_cases he : nm m = nm k
              · have heq : ∀ wx, (binOp .eql 47 (.agg (nmCells (nm m)).toArray) (.agg (nmCells (nm k)).toArray)).run Ybaf.prog wx = .ok (.bool true) wx := fun wx => by
                  have := name_eql hgm hgk wx
                  rw [decide_eq_true he] at this
                  exact this
                have hdb3 : true = false ↔ Apart k nm rf ∧ Clear k (m + 1) nm rf := ⟨fun h => Bool.noConfusion h, fun h => absurd h.2 (Clear.hit hm0 he)⟩
                clear hm0 hdb2 hdb he
                go_wp2
                refine wp_region_quiet_lit (by kernel_rfl) (by kernel_rfl) ?_
                repeat (first
                  | (refine quiet_load_mid 47 (.tmp 53) ?_ ?_ w.heap.size (m * 33) ?_ (nmCells (nm m)) _ ?_ Ybaf.underlying47 rfl ?_ ?_
                     · exact rfl
                     · exact rfl
                     · exact rfl
                     · rintro _ ⟨q, rfl⟩; exact hnm1
                     · exact size47.trans (by simp [nmCells, hgm.1])
                     simp only [Act.put, List.setIfInBounds_toArray, List.set_cons_succ, List.set_cons_zero])
                  | (refine quiet_load_mid 47 (.tmp 58) ?_ ?_ w.heap.size (k * 33) ?_ (nmCells (nm k)) _ ?_ Ybaf.underlying47 rfl ?_ ?_
                     · exact rfl
                     · exact rfl
                     · exact rfl
                     · rintro _ ⟨q, rfl⟩; exact hnm2
                     · exact size47.trans (by simp [nmCells, hgk.1])
                     simp only [Act.put, List.setIfInBounds_toArray, List.set_cons_succ, List.set_cons_zero])
                  | go_big_quiet_step (fail))
                refine wpQuiet_nil ?_
                rintro _ ⟨nq, rfl⟩
                go_wp2
                go_roundw
                case rel => exact ⟨m + 1, true, by omega, by go_num, rfl, hdb3, bl2.trans (below_drewN _ _ _)⟩
                case measure => simp [intOf]; omega
              · have heq : ∀ wx, (binOp .eql 47 (.agg (nmCells (nm m)).toArray) (.agg (nmCells (nm k)).toArray)).run Ybaf.prog wx = .ok (.bool false) wx := fun wx => by
                  have := name_eql hgm hgk wx
                  rw [decide_eq_false he] at this
                  exact this
                have hdb3 : db2 = false ↔ Apart k nm rf ∧ Clear k (m + 1) nm rf := by rw [Clear.step (.inr he)]; exact hdb2
                clear hm0 hdb2 hdb he
                go_wp2
                refine wp_region_quiet_lit (by kernel_rfl) (by kernel_rfl) ?_
                repeat (first
                  | (refine quiet_load_mid 47 (.tmp 53) ?_ ?_ w.heap.size (m * 33) ?_ (nmCells (nm m)) _ ?_ Ybaf.underlying47 rfl ?_ ?_
                     · exact rfl
                     · exact rfl
                     · exact rfl
                     · rintro _ ⟨q, rfl⟩; exact hnm1
                     · exact size47.trans (by simp [nmCells, hgm.1])
                     simp only [Act.put, List.setIfInBounds_toArray, List.set_cons_succ, List.set_cons_zero])
                  | (refine quiet_load_mid 47 (.tmp 58) ?_ ?_ w.heap.size (k * 33) ?_ (nmCells (nm k)) _ ?_ Ybaf.underlying47 rfl ?_ ?_
                     · exact rfl
                     · exact rfl
                     · exact rfl
                     · rintro _ ⟨q, rfl⟩; exact hnm2
                     · exact size47.trans (by simp [nmCells, hgk.1])
                     simp only [Act.put, List.setIfInBounds_toArray, List.set_cons_succ, List.set_cons_zero])
                  | go_big_quiet_step (fail))
                refine wpQuiet_nil ?_
                rintro _ ⟨nq, rfl⟩
                go_wp2
                go_roundw
                case rel => exact ⟨m + 1, db2, by omega, by go_num, rfl, hdb3, bl2.trans (below_drewN _ _ _)⟩
                case measure => simp [intOf]; omega
          · have hmk' : ¬ (m : Int) < (k : Int) := by omega
            obtain rfl : m = k := by omega
            have hdb3 : db2 = false ↔ Apart (m + 1) nm rf := hdb2.trans (Apart.clear h0).symm
            clear hdb hdb2 h0
            go_wp2
            go_roundw
            case rel => exact ⟨m + 1, db2, by omega, by go_num, rfl, hdb3, bl2⟩
            case measure => simp [intOf]; omega
    · have hkn' : ¬ (k : Int) < (n : Int) := by omega
      obtain rfl : k = n := by omega
      have hrecW := hrec.below bl hsz1
      have hszW : w.heap.size < wr.heap.size := Nat.lt_of_lt_of_le hsz1 bl.size
      have blw : Below w.heap.size w wr := bl1.trans (bl.mono bl1.size)
      have hlt0 := World.block_lt_of_cell? _ _ hgl
      have hgl1 := (blw.cell (p := ⟨0, 0, none⟩) hlt0).trans hgl
      have hs1 := (blw.cell (p := ga) (World.block_lt_of_cell? _ _ hs)).trans hs
      cases db with
      | true =>
        have hd : Hid (¬ Apart k nm rf) := fun h => Bool.noConfusion (hdb.2 h)
        clear hdb
        go_wp2_with (first
          | (go_at_call 6; refine (pool_dup F ga s _ _ _ w.heap.size k nm rf _ hn ?_ ?_ hg hd ?_ ?_ ?_).mono ?_
             · exact hrecW
             · exact hszW
             · rw [blw.tape]; exact hF
             · exact hgl1
             · exact hs1
             rintro e w2 ⟨pb, rfl, bl2, hpb, hc2⟩
             have hg2 := (bl2.cell (p := ⟨0, 0, none⟩) (Nat.lt_of_lt_of_le hlt0 blw.size)).trans hgl1)
          | (go_at_call 7; refine (is_wrap_same pb 0 ga _ ?_).mono ?_
             · exact hc2
             rintro e w3 ⟨rfl, rfl⟩))
        go_ret
        exact ⟨rfl, blw.trans (bl2.mono blw.size)⟩
      | false =>
        have hap : Hid (Apart k nm rf) := hdb.1 rfl
        have q25 := fun a => ptr_neq_same (tp := 25) a Ybaf.underlying25 (by kernel_rfl)
        have q42 := fun a => ptr_neq_same (tp := 42) a Ybaf.underlying42 (by kernel_rfl)
        have q61 := fun a => ptr_neq_same (tp := 61) a Ybaf.underlying61 (by kernel_rfl)
        have hpos' : 0 < (k : Int) := by omega
        clear hdb hF hgl1 hs1 hgl hs hlt0
        go_wp2_with (go_at_call 6; refine (pool_ok _ _ _ _ k nm rf _ hn ?_ hg hap.out).mono ?_
                     · exact .inr ⟨_, rfl, hszW, hrecW⟩
                     rintro e W0 ⟨h, D, rfl, bl2, hlt, ⟨wp, hC⟩, hV, hmap, hidx⟩
                     have hc0 := hC.c0
                     have hc1 := hC.c1
                     have hc2 := hC.c2
                     have hc5 := hC.c5
                     have hc14 := hC.c14
                     have hc17 := hC.c17
                     clear hV)
        have hhW : h < W0.heap.size := by have := hC.sz; omega
        have hrec0 := hrecW.below bl2 hszW
        have hRW0 : w.heap.size < W0.heap.size := Nat.lt_of_lt_of_le hszW bl2.size
        have blw0 : Below w.heap.size w W0 := blw.trans (bl2.mono blw.size)
        generalize hB : wr.heap.size = B at *
        go_quiet (fail)
        go_wp2
        go_loopw [11, 12, 13, 14, 15, 16] (fun dist i _ _ _ _ W => ∃ m : Nat, m ≤ k ∧ i = .int .i64 m ∧ dist = .int .i64 (cnt rf m : Nat) ∧ Below W0.heap.size W0 W) (fun _ i _ _ _ _ _ => k - (intOf i).toNat)
        case atStart => exact ⟨0, Nat.zero_le _, rfl, rfl, below_drewN _ _ _⟩
        case round =>
          obtain ⟨m, hm, rfl, rfl, bl3⟩ := hrel
          have hcl := cnt_le rf m
          have hc12 := (bl3.cell (p := ⟨h, 12, none⟩) hhW).trans hC.c12
          have hmap3 := ownsMap_below hmap bl3 (Nat.lt_trans hlt hhW)
          by_cases hmk : m < k
          · have hmk' : (m : Int) < (k : Int) := by omega
            have hgm := hg m hmk
            have hrec3 := hrec0.below bl3 hRW0
            have hcm := hrec3 m hmk 32 _ (rec_last hgm _)
            by_cases h0 : rf m = 0
            · have hb0 : (rf m == 0) = true := by simp [h0]
              have hct : Hid (cnt rf (m + 1) = cnt rf m) := by simp [Hid, cnt, h0]
              clear h0
              go_wp2
              go_roundw
              case rel => exact ⟨m + 1, by omega, by go_num, by rw [hct.out], bl3⟩
              case measure => simp [intOf]; omega
            · have hb0 : (rf m == 0) = false := by simp [h0]
              have hct : Hid (cnt rf (m + 1) = cnt rf m + 1) := by simp [Hid, cnt, h0]
              have hat := hidx.vals m hmk h0
              have hhas := (hidx.hs _ hgm).2 ⟨m, hmk, h0, rfl⟩
              go_wp2
              go_loopw [13, 14] (fun f j W => ∃ x : Nat, x ≤ m ∧ j = .int .i64 x ∧ f = .int .i64 m ∧ Below W0.heap.size W0 W) (fun _ j _ => m - (intOf j).toNat)
              case atStart => exact ⟨0, Nat.zero_le _, rfl, rfl, bl3⟩
              case round =>
                obtain ⟨x, hx, rfl, rfl, bl4⟩ := hrel
                by_cases hxm : x < m
                · have hxm' : (x : Int) < (m : Int) := by omega
                  have hxk : x < k := by omega
                  have hgx := hg x hxk
                  have hrec4 := hrec0.below bl4 hRW0
                  have hcx := hrec4 x hxk 32 _ (rec_last hgx _)
                  have hnm1 := rec_names hrec4 hxk
                  have hnm2 := rec_names hrec4 hmk
                  clear hat hhas
                  by_cases hx0 : rf x = 0
                  · have hgt : ¬ (0 < rf x) := by omega
                    have hdc : decide (0 < rf x) = false := by simp [hgt]
                    clear hx0 hnm1 hnm2 h0
                    go_wp2
                    go_quiet (fail)
                    go_wp2
                    go_roundw
                    case rel => exact ⟨x + 1, by omega, by go_num, rfl, bl4.trans (below_drewN _ _ _)⟩
                    case measure => simp [intOf]; omega
                  · have hgt : 0 < rf x := by have := hrf x hxk; omega
                    have hdc : decide (0 < rf x) = true := by simp [hgt]
                    have he : nm x ≠ nm m := hap.out x m hxm hmk hx0 h0
                    have heq : ∀ wx, (binOp .eql 47 (.agg (nmCells (nm x)).toArray) (.agg (nmCells (nm m)).toArray)).run Ybaf.prog wx = .ok (.bool false) wx := fun wx => by
                      have := name_eql hgx hgm wx
                      rw [decide_eq_false he] at this
                      exact this
                    clear hx0 h0 he
                    go_wp2
                    refine wp_region_quiet_lit (by kernel_rfl) (by kernel_rfl) ?_
                    repeat (first
                      | (refine quiet_load_mid 47 (.tmp 166) ?_ ?_ w.heap.size (x * 33) ?_ (nmCells (nm x)) _ ?_ Ybaf.underlying47 rfl ?_ ?_
                         · exact rfl
                         · exact rfl
                         · exact rfl
                         · rintro _ ⟨q, rfl⟩; exact hnm1
                         · exact size47.trans (by simp [nmCells, hgx.1])
                         simp only [Act.put, List.setIfInBounds_toArray, List.set_cons_succ, List.set_cons_zero])
                      | (refine quiet_load_mid 47 (.tmp 171) ?_ ?_ w.heap.size (m * 33) ?_ (nmCells (nm m)) _ ?_ Ybaf.underlying47 rfl ?_ ?_
                         · exact rfl
                         · exact rfl
                         · exact rfl
                         · rintro _ ⟨q, rfl⟩; exact hnm2
                         · exact size47.trans (by simp [nmCells, hgm.1])
                         simp only [Act.put, List.setIfInBounds_toArray, List.set_cons_succ, List.set_cons_zero])
                      | go_big_quiet_step (fail))
                    refine wpQuiet_nil ?_
                    rintro _ ⟨nq, rfl⟩
                    go_wp2
                    go_roundw
                    case rel => exact ⟨x + 1, by omega, by go_num, rfl, bl4.trans (below_drewN _ _ _)⟩
                    case measure => simp [intOf]; omega
                · have hxm' : ¬ (x : Int) < (m : Int) := by omega
                  obtain rfl : x = m := by omega
                  have hc12' := (bl4.cell (p := ⟨h, 12, none⟩) hhW).trans hC.c12
                  have hmap4 := ownsMap_below hmap bl4 (Nat.lt_trans hlt hhW)
                  have hnm3 := rec_names (hrec0.below bl4 hRW0) hmk
                  clear h0 hc12 hmap3
                  go_wp2
                  refine wp_region_quiet_lit (by kernel_rfl) (by kernel_rfl) ?_
                  repeat (first
                    | (refine quiet_load_mid 47 (.tmp 189) ?_ ?_ w.heap.size (x * 33) ?_ (nmCells (nm x)) _ ?_ Ybaf.underlying47 rfl ?_ ?_
                       · exact rfl
                       · exact rfl
                       · exact rfl
                       · rintro _ ⟨q, rfl⟩; exact hnm3
                       · exact size47.trans (by simp [nmCells, hgm.1])
                       simp only [Act.put, List.setIfInBounds_toArray, List.set_cons_succ, List.set_cons_zero])
                    | (refine quiet_lookup_int (.tmp 185) (.tmp 190) 57 ?_ ?_ 47 26 .u64 law47 Ybaf.underlying57 Ybaf.underlying26 zero26 B k D ?_ ?_ (keyV (nm x)) _ ?_ (key_good hgm) x hat true hhas ?_
                       · exact rfl
                       · exact rfl
                       · exact rfl
                       · rintro _ ⟨q, rfl⟩; exact hmap4
                       · exact rfl
                       simp only [Act.put, List.setIfInBounds_toArray, List.set_cons_succ, List.set_cons_zero])
                    | go_big_quiet_step (fail))
                  refine wpQuiet_nil ?_
                  rintro _ ⟨nq, rfl⟩
                  go_wp2
                  go_roundw
                  case rel => exact ⟨x + 1, by omega, by go_num, by rw [hct.out]; go_num, bl4.trans (below_drewN _ _ _)⟩
                  case measure => simp [intOf]; omega
          · have hmk' : ¬ (m : Int) < (k : Int) := by omega
            obtain rfl : m = k := by omega
            have hsize : Maps.size D = cnt rf m := hidx.size
            have hfin : ((Maps.size D : Int) == (cnt rf m : Int)) = true := by rw [hsize]; simp
            go_wp2_with (at_len; refine wpList_len_own _ rfl _ 57 rfl 47 26 Ybaf.underlying57 _ B m D rfl hmap3 ?_)
            go_ret
            exact ⟨rfl, blw0.trans (bl3.mono blw0.size)⟩
end Go.Proofs.YbulkcbvsFmt
