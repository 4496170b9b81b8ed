/-
  Seat b3905aF: the records in memory; the contracts of zzs3905abuild and zzs3905abuilddistinct.
-/
import Derived.Test.YbulkcbvsFmtRows
import Derived.WalkKit
import Derived.ProofKit
import Derived.Deep.MidRow
import Derived.Deep.WholeRow
namespace Go.Proofs.YbulkcbvsFmt
open Go.RowKit

/-- What the walks are told of the argument: element i's two cells. -/
def InAt (w : World) (b off len : Nat) (nf rf : Nat → Int) : Prop :=
  ∀ i, i < len → w.cell? ⟨b, off + i * 2, none⟩ = some (.int .u8 (nf i)) ∧ w.cell? ⟨b, off + i * 2 + 1, none⟩ = some (.int .u64 (rf i))

/-- A record's 33 cells: the name's 32 bytes, the count. -/
def recCells (nm : List Int) (r : Int) : List Value := nm.map (fun x => .int .u8 x) ++ [.int .u64 r]
/-- n records lie in block R. -/
def RecsAt (W : World) (R n : Nat) (nm : Nat → List Int) (rf : Nat → Int) : Prop := ∀ i, i < n → W.rangeAt R (i * 33) (recCells (nm i) (rf i))

def zeros28 : List Int := [0, 0, 0, 0, 0, 0, 0, 0, 0, 0, 0, 0, 0, 0, 0, 0, 0, 0, 0, 0, 0, 0, 0, 0, 0, 0, 0, 0]
def nmD (i : Nat) (x : Int) : List Int := (i : Int) % 256 :: (i : Int) / 256 :: 90 :: x :: zeros28
def nmB (x : Int) : List Int := x :: 90 :: 0 :: 0 :: zeros28

theorem below_setCells {B b : Nat} {a : World} (hb : B ≤ b) : ∀ (vs : List Value) (o : Nat) {w : World}, Below B a w → Below B a (w.setCells b o vs)
  | [], _, _, h => h
  | _ :: r, o, _, h => below_setCells hb r (o + 1) (h.setCell (p := ⟨b, o, none⟩) hb _)

theorem there_sub {w : World} {b N o n : Nat} (h : w.there b 0 N) (hn : o + n ≤ N) : w.there b o n := fun j hj => by
  have := h (o + j) (by omega)
  simpa using this

theorem info49 : (Ybaf.prog.info? 49).map (fun i => (i.zero, i.size, i.bytes)) = some (some (.agg #[.int .u8 0, .int .u8 0, .int .u8 0, .int .u8 0, .int .u8 0, .int .u8 0, .int .u8 0, .int .u8 0, .int .u8 0, .int .u8 0, .int .u8 0, .int .u8 0, .int .u8 0, .int .u8 0, .int .u8 0, .int .u8 0, .int .u8 0, .int .u8 0, .int .u8 0, .int .u8 0, .int .u8 0, .int .u8 0, .int .u8 0, .int .u8 0, .int .u8 0, .int .u8 0, .int .u8 0, .int .u8 0, .int .u8 0, .int .u8 0, .int .u8 0, .int .u8 0, .int .u64 0]), 33, 40) := by kernel_rfl
theorem size49 : (Ybaf.prog.info? 49).map (·.size) = some 33 := by kernel_rfl

theorem nil22 (a : Addr) (l c : Nat) (wx : World) : (binOp .eql 22 (.slice (some a) l c) (.slice none 0 0)).run Ybaf.prog wx = .ok (.bool false) wx := by
  have h : ∀ d : Nat, (Op.equalIn (d + 1) 22 (.slice (some a) l c) (.slice none 0 0)).run Ybaf.prog wx = .ok false wx := fun d => by
    simp [Op.equalIn, run_underlying Ybaf.underlying22]
  simp only [binOp]
  simp [Op.equal, Op.maxDepth, h 9999]

theorem made_there {w w1 : World} {len : Nat} {z : List Value} (h : w1.ownsRow w.heap.size 49 33 (.slice (some ⟨w.heap.size, 0, none⟩) len len) len z) : w1.there w.heap.size 0 (len * 33) := fun j hj => by
  refine ⟨?_, ?_⟩
  · simp only [Nat.zero_add]
    rw [h.cellAt j hj]
    have := h.1
    simp
    omega
  · simpa using h.frozenAt j

theorem all_ints (l : List Value) (h : l.all (·.oneCell') = true) : l.toArray.all (·.oneCell') = true := all_oneCell_toArray (fun v hv => List.all_eq_true.1 h v hv)

theorem recs_step {wr : World} {R k : Nat} {nm : Nat → List Int} {rf : Nat → Int} (h : RecsAt wr R k nm rf) (h32 : ∀ i, (nm i).length = 32) (ht : wr.there R (k * 33) 33) (o : Obj) (cs : List Value) (hcs : cs = recCells (nm k) (rf k)) :
    RecsAt ((wr.alloc o).setCells R (k * 33) cs) R (k + 1) nm rf := by
  intro i hi
  have hl : ∀ i, (recCells (nm i) (rf i)).length = 33 := fun i => by simp [recCells, h32]
  by_cases e : i < k
  · refine World.rangeAt_setCells_apart (World.rangeAt_alloc (h i e) o) _ _ _ (.inr (.inl ?_))
    rw [hl]; omega
  · obtain rfl : i = k := by omega
    rw [hcs]
    exact World.rangeAt_setCells_same _ _ _ _ (by rw [hl]; exact World.there_alloc ht o)

set_option maxRecDepth 100000 in
set_option maxHeartbeats 1000000 in
theorem buildD_row (b off len cap : Nat) (nf rf : Nat → Int) (w : World) (hl : len ≤ 1024) (hc : InAt w b off len nf rf) :
    Calls Ybaf.prog 8 #[.slice (some ⟨b, off, none⟩) len cap] w fun e w' => e = .returned (.slice (some ⟨w.heap.size, 0, none⟩) len len) ∧ Below w.heap.size w w' ∧ w.heap.size < w'.heap.size ∧ RecsAt w' w.heap.size len (fun i => nmD i (nf i)) rf := by
  have hnil := nil22 ⟨b, off, none⟩ len cap
  obtain ⟨i0, hi, hz0, hz1, hz2⟩ := info_parts info49
  go_enter Ybaf.func8, Ybaf.ntmps8
  go_wp2_with (at_make; refine wpList_make_full _ rfl _ _ 23 rfl w.heap.size 49 i0 _ 33 Ybaf.underlying23 hi hz0 hz1 .i64 .i64 _ _ len rfl rfl rfl rfl (by rw [hz2]; omega) (by unfold maxLen; omega) (Nat.le_refl _) ?_; intro w1 hown hgrow)
  have ht0 := made_there hown
  have sz0 : w.heap.size < w1.heap.size := by
    rcases hown.2 with ⟨e, _⟩ | ⟨g, _, cur, e, _, hc', _⟩
    · cases e
    · cases e; exact (Array.getElem?_eq_some_iff.1 hc').1
  have bl0 : Below w.heap.size w w1 := (Below.refl _ _).grown hgrow (Nat.le_refl _) (fun k e => by cases e)
  clear hown hgrow hi hz0 hz1 hz2
  go_loopw [13] (fun i W => ∃ k : Nat, k ≤ len ∧ i = .int .i64 k ∧ Below w.heap.size w W ∧ w.heap.size < W.heap.size ∧ W.there w.heap.size 0 (len * 33) ∧ RecsAt W w.heap.size k (fun i => nmD i (nf i)) rf) (fun i _ => len - (intOf i).toNat)
  case atStart => exact ⟨0, Nat.zero_le _, rfl, bl0, sz0, ht0, fun i h => absurd h (Nat.not_lt_zero _)⟩
  case round =>
    obtain ⟨k, hk, rfl, bl, hsz, ht, hr⟩ := hrel
    clear bl0 ht0 sz0
    by_cases hlt : k < len
    · obtain ⟨hc0, hc1⟩ := hc k hlt
      have hb := World.block_lt_of_cell? _ _ hc0
      have hb' : b < wr.heap.size := Nat.lt_of_lt_of_le hb bl.size
      have hd0 := (bl.cell (p := ⟨b, off + k * 2, none⟩) hb).trans hc0
      have hd1 := (bl.cell (p := ⟨b, off + k * 2 + 1, none⟩) hb).trans hc1
      clear hc0 hc1
      have ht3 : wr.there w.heap.size (k * 33) 33 := there_sub ht (by omega)
      go_wp2_with (first
        | (refine wpList_store_mid ?sg 49 (.tmp 43) (.tmp 42) ?so w.heap.size (k * 33) ?sc ?sx ?sy ?st ?si ?sa ?sk
           case so => exact rfl
           case sg => exact rfl
           case sx => exact rfl
           case sy => exact rfl
           case st => exact World.there_alloc ht3 _
           case si => exact size49
           case sa => exact all_ints _ rfl)
        | (refine wpList_load_row ?lg 49 (.tmp 5) ?lo wr.heap.size ?lx 49 ?lc (0, 0) _ ?lh Ybaf.underlying49 rfl ?li ?lk
           case lo => exact rfl
           case lg => exact rfl
           case lx => exact rfl
           case lh => exact heap_alloc_last wr _
           case li => exact size49))
      go_roundw
      case rel =>
        refine ⟨k + 1, by omega, by go_num, ?_, Nat.lt_of_lt_of_le hsz (Nat.le_trans (by simp) (below_setCells (B := 0) (Nat.zero_le _) _ _ (Below.refl 0 _)).size), World.there_setCells (World.there_alloc ht _) _ _ _, ?_⟩
        · exact below_setCells (Nat.le_refl _) _ _ (bl.alloc bl.size _)
        · exact recs_step hr (fun i => rfl) ht3 _ _ rfl
      case measure => simp [intOf]; omega
    · go_wp2
      go_ret
      obtain rfl : k = len := by omega
      exact ⟨rfl, bl, hsz, hr⟩

set_option maxRecDepth 100000 in
set_option maxHeartbeats 1000000 in
theorem buildB_row (b off len cap : Nat) (nf rf : Nat → Int) (w : World) (hl : len ≤ 1024) (hc : InAt w b off len nf rf) :
    Calls Ybaf.prog 5 #[.slice (some ⟨b, off, none⟩) len cap] w fun e w' => e = .returned (.slice (some ⟨w.heap.size, 0, none⟩) len len) ∧ Below w.heap.size w w' ∧ w.heap.size < w'.heap.size ∧ RecsAt w' w.heap.size len (fun i => nmB (nf i)) rf := by
  have hnil := nil22 ⟨b, off, none⟩ len cap
  obtain ⟨i0, hi, hz0, hz1, hz2⟩ := info_parts info49
  go_enter Ybaf.func5, Ybaf.ntmps5
  go_wp2_with (at_make; refine wpList_make_full _ rfl _ _ 23 rfl w.heap.size 49 i0 _ 33 Ybaf.underlying23 hi hz0 hz1 .i64 .i64 _ _ len rfl rfl rfl rfl (by rw [hz2]; omega) (by unfold maxLen; omega) (Nat.le_refl _) ?_; intro w1 hown hgrow)
  have ht0 := made_there hown
  have sz0 : w.heap.size < w1.heap.size := by
    rcases hown.2 with ⟨e, _⟩ | ⟨g, _, cur, e, _, hc', _⟩
    · cases e
    · cases e; exact (Array.getElem?_eq_some_iff.1 hc').1
  have bl0 : Below w.heap.size w w1 := (Below.refl _ _).grown hgrow (Nat.le_refl _) (fun k e => by cases e)
  clear hown hgrow hi hz0 hz1 hz2
  go_loopw [13] (fun i W => ∃ k : Nat, k ≤ len ∧ i = .int .i64 k ∧ Below w.heap.size w W ∧ w.heap.size < W.heap.size ∧ W.there w.heap.size 0 (len * 33) ∧ RecsAt W w.heap.size k (fun i => nmB (nf i)) rf) (fun i _ => len - (intOf i).toNat)
  case atStart => exact ⟨0, Nat.zero_le _, rfl, bl0, sz0, ht0, fun i h => absurd h (Nat.not_lt_zero _)⟩
  case round =>
    obtain ⟨k, hk, rfl, bl, hsz, ht, hr⟩ := hrel
    clear bl0 ht0 sz0
    by_cases hlt : k < len
    · obtain ⟨hc0, hc1⟩ := hc k hlt
      have hb := World.block_lt_of_cell? _ _ hc0
      have hb' : b < wr.heap.size := Nat.lt_of_lt_of_le hb bl.size
      have hd0 := (bl.cell (p := ⟨b, off + k * 2, none⟩) hb).trans hc0
      have hd1 := (bl.cell (p := ⟨b, off + k * 2 + 1, none⟩) hb).trans hc1
      clear hc0 hc1
      have ht3 : wr.there w.heap.size (k * 33) 33 := there_sub ht (by omega)
      go_wp2_with (first
        | (refine wpList_store_mid ?sg 49 (.tmp 34) (.tmp 33) ?so w.heap.size (k * 33) ?sc ?sx ?sy ?st ?si ?sa ?sk
           case so => exact rfl
           case sg => exact rfl
           case sx => exact rfl
           case sy => exact rfl
           case st => exact World.there_alloc ht3 _
           case si => exact size49
           case sa => exact all_ints _ rfl)
        | (refine wpList_load_row ?lg 49 (.tmp 5) ?lo wr.heap.size ?lx 49 ?lc (0, 0) _ ?lh Ybaf.underlying49 rfl ?li ?lk
           case lo => exact rfl
           case lg => exact rfl
           case lx => exact rfl
           case lh => exact heap_alloc_last wr _
           case li => exact size49))
      go_roundw
      case rel =>
        refine ⟨k + 1, by omega, by go_num, ?_, Nat.lt_of_lt_of_le hsz (Nat.le_trans (by simp) (below_setCells (B := 0) (Nat.zero_le _) _ _ (Below.refl 0 _)).size), World.there_setCells (World.there_alloc ht _) _ _ _, ?_⟩
        · exact below_setCells (Nat.le_refl _) _ _ (bl.alloc bl.size _)
        · exact recs_step hr (fun i => rfl) ht3 _ _ rfl
      case measure => simp [intOf]; omega
    · go_wp2
      go_ret
      obtain rfl : k = len := by omega
      exact ⟨rfl, bl, hsz, hr⟩

theorem buildD_nil (w : World) : Calls Ybaf.prog 8 #[.slice none 0 0] w fun e w' => e = .returned (.slice none 0 0) ∧ w' = w := by
  have hnil : ∀ wx, (binOp .eql 22 (.slice none 0 0) (.slice none 0 0)).run Ybaf.prog wx = .ok (.bool true) wx := fun _ => by kernel_rfl
  go_enter Ybaf.func8, Ybaf.ntmps8
  go_wp2
  go_ret
  exact ⟨rfl, rfl⟩

theorem buildB_nil (w : World) : Calls Ybaf.prog 5 #[.slice none 0 0] w fun e w' => e = .returned (.slice none 0 0) ∧ w' = w := by
  have hnil : ∀ wx, (binOp .eql 22 (.slice none 0 0) (.slice none 0 0)).run Ybaf.prog wx = .ok (.bool true) wx := fun _ => by kernel_rfl
  go_enter Ybaf.func5, Ybaf.ntmps5
  go_wp2
  go_ret
  exact ⟨rfl, rfl⟩
end Go.Proofs.YbulkcbvsFmt
