/-
  Seat b3902aD: the contracts of scramble, zzs3902amix, zzs3902akind, next, between and drawKind. 'mixS': splitmix64's output function in the walk's own form; 'kindS': the band; 'goldS': one step of the state.
-/
import Derived.Test.YbulkcbucDoorRows
import Derived.WalkKit
import Derived.ProofKit
namespace Go.Proofs.YbulkcbucDoor

def mixS (z : Int) : Int :=
  bits BinOp.xor IntKind.u64
    (IntKind.u64.wrap (bits BinOp.xor IntKind.u64 (IntKind.u64.wrap (bits BinOp.xor IntKind.u64 z (z / 1073741824) * 13787848793156543929)) (IntKind.u64.wrap (bits BinOp.xor IntKind.u64 z (z / 1073741824) * 13787848793156543929) / 134217728) * 10723151780598845931))
    (IntKind.u64.wrap (bits BinOp.xor IntKind.u64 (IntKind.u64.wrap (bits BinOp.xor IntKind.u64 z (z / 1073741824) * 13787848793156543929)) (IntKind.u64.wrap (bits BinOp.xor IntKind.u64 z (z / 1073741824) * 13787848793156543929) / 134217728) * 10723151780598845931) / 2147483648)
def goldS (z : Int) : Int := IntKind.u64.wrap (z + 11400714819323198485)
def kindS (r : Int) : Int := if r % 100 + 1 ≤ 55 then 0 else if r % 100 + 1 ≤ 70 then 1 else if r % 100 + 1 ≤ 90 then 2 else 3

theorem mixS_lo (z : Int) : 0 ≤ mixS z := bits_lo_u64 _ _ _
theorem goldS_lo (z : Int) : 0 ≤ goldS z := wrap_u64_nonneg _

set_option maxHeartbeats 400000 in
theorem scramble_any (z : Int) (w : World) (_h0 : 0 ≤ z) :
    Calls Ybad.prog 10 #[.int .u64 z] w fun e w' => e = .returned (.int .u64 (mixS z)) ∧ w' = w := by
  go_enter Ybad.func10, Ybad.ntmps10
  go_wp2
  go_ret
  exact ⟨rfl, rfl⟩

set_option maxHeartbeats 400000 in
theorem mix_any (z : Int) (w : World) (_h0 : 0 ≤ z) :
    Calls Ybad.prog 7 #[.int .u64 z] w fun e w' => e = .returned (.int .u64 (mixS z)) ∧ w' = w := by
  go_enter Ybad.func7, Ybad.ntmps7
  go_wp2
  go_ret
  exact ⟨rfl, rfl⟩

theorem ret_int {k : IntKind} {a b : Int} (h : a = b) : Ending.returned (.int k a) = .returned (.int k b) := by rw [h]

set_option maxHeartbeats 400000 in
theorem kind_any (z : Int) (w : World) (h0 : 0 ≤ z) :
    Calls Ybad.prog 6 #[.int .u64 z] w fun e w' => e = .returned (.int .i64 (kindS z)) ∧ w' = w := by
  go_enter Ybad.func6, Ybad.ntmps6
  go_wp2
  all_goals go_ret
  all_goals refine ⟨ret_int ?_, rfl⟩
  all_goals unfold kindS
  · rw [if_pos ‹_›]
  · rw [if_neg (by omega), if_pos ‹_›]
  · rw [if_neg (by omega), if_neg (by omega), if_pos ‹_›]
  · rw [if_neg (by omega), if_neg (by omega), if_neg (by omega)]

set_option maxHeartbeats 400000 in
theorem next_any (bs : Nat) (z : Int) (w : World) (hc : w.cell? ⟨bs, 0, none⟩ = some (.int .u64 z)) (hz : w.frozen? ⟨bs, 0, none⟩ = false) :
    Calls Ybad.prog 9 #[.pointer (some ⟨bs, 0, none⟩)] w fun e w' => e = .returned (.int .u64 (mixS (goldS z))) ∧ w' = w.setCell ⟨bs, 0, none⟩ (.int .u64 (goldS z)) := by
  go_enter Ybad.func9, Ybad.ntmps9
  go_wp2_with fail
  refine (scramble_any _ _ (goldS_lo z)).mono ?_
  rintro e w' ⟨rfl, rfl⟩
  go_wp2
  go_ret
  exact ⟨rfl, rfl⟩

set_option maxHeartbeats 400000 in
theorem between_any (bs : Nat) (z : Int) (w : World) (hc : w.cell? ⟨bs, 0, none⟩ = some (.int .u64 z)) (hz : w.frozen? ⟨bs, 0, none⟩ = false) :
    Calls Ybad.prog 8 #[.pointer (some ⟨bs, 0, none⟩), .int .i64 1, .int .i64 100] w fun e w' => e = .returned (.int .i64 (1 + mixS (goldS z) % 100)) ∧ w' = w.setCell ⟨bs, 0, none⟩ (.int .u64 (goldS z)) := by
  have hm := mixS_lo (goldS z)
  go_enter Ybad.func8, Ybad.ntmps8
  go_wp2_with fail
  refine (next_any bs z _ hc hz).mono ?_
  rintro e w' ⟨rfl, rfl⟩
  go_wp2
  go_ret
  exact ⟨rfl, rfl⟩

/-- What drawKind reads of phaseWeights. -/
def Wts (w : World) : Prop := w.cell? ⟨0, 0, none⟩ = some (.int .i64 55) ∧ w.cell? ⟨0, 1, none⟩ = some (.int .i64 15) ∧ w.cell? ⟨0, 2, none⟩ = some (.int .i64 20) ∧ w.cell? ⟨0, 3, none⟩ = some (.int .i64 10)

set_option maxHeartbeats 1000000 in
theorem draw_any (bs bm : Nat) (z : Int) (w : World) (hc : w.cell? ⟨bs, 0, none⟩ = some (.int .u64 z)) (hz : w.frozen? ⟨bs, 0, none⟩ = false)
    (hm : w.cell? ⟨bm, 0, none⟩ = some (.pointer (some ⟨bs, 0, none⟩))) (hw : Wts w) (hb : 0 < bs) :
    Calls Ybad.prog 5 #[.pointer (some ⟨bm, 0, none⟩)] w fun e w' => e = .returned (.int .i64 (kindS (mixS (goldS z)))) ∧ w' = w.setCell ⟨bs, 0, none⟩ (.int .u64 (goldS z)) := by
  obtain ⟨g0, g1, g2, g3⟩ := hw
  have i0 : ∀ w, (Instr.index 48 (.agg #[.int .i64 55, .int .i64 15, .int .i64 20, .int .i64 10]) (.int .i64 0)).run Ybad.prog w = .ok (.int .i64 55) w := fun _ => by kernel_rfl
  have i1 : ∀ w, (Instr.index 48 (.agg #[.int .i64 55, .int .i64 15, .int .i64 20, .int .i64 10]) (.int .i64 1)).run Ybad.prog w = .ok (.int .i64 15) w := fun _ => by kernel_rfl
  have i2 : ∀ w, (Instr.index 48 (.agg #[.int .i64 55, .int .i64 15, .int .i64 20, .int .i64 10]) (.int .i64 2)).run Ybad.prog w = .ok (.int .i64 20) w := fun _ => by kernel_rfl
  have i3 : ∀ w, (Instr.index 48 (.agg #[.int .i64 55, .int .i64 15, .int .i64 20, .int .i64 10]) (.int .i64 3)).run Ybad.prog w = .ok (.int .i64 10) w := fun _ => by kernel_rfl
  have hlo := mixS_lo (goldS z)
  go_enter Ybad.func5, Ybad.ntmps5
  go_wp2_with fail
  refine (between_any bs z _ hc hz).mono ?_
  rintro e w' ⟨rfl, rfl⟩
  go_wp2
  refine wp_loop_rounds 4 ?_
  by_cases h1 : mixS (goldS z) % 100 + 1 ≤ 55
  · have t1 : 1 + mixS (goldS z) % 100 ≤ 55 := by omega
    rw [rounds_succ]
    go_wp2
    go_ret
    exact ⟨ret_int (by unfold kindS; rw [if_pos h1]), rfl⟩
  by_cases h2 : mixS (goldS z) % 100 + 1 ≤ 70
  · have t1 : ¬ 1 + mixS (goldS z) % 100 ≤ 55 := by omega
    have t2 : 1 + mixS (goldS z) % 100 - 55 ≤ 15 := by omega
    rw [rounds_succ]
    go_wp2
    rw [rounds_succ]
    go_wp2
    go_ret
    exact ⟨ret_int (by unfold kindS; rw [if_neg (by omega), if_pos h2]), rfl⟩
  by_cases h3 : mixS (goldS z) % 100 + 1 ≤ 90
  · have t1 : ¬ 1 + mixS (goldS z) % 100 ≤ 55 := by omega
    have t2 : ¬ 1 + mixS (goldS z) % 100 - 55 ≤ 15 := by omega
    have t3 : 1 + mixS (goldS z) % 100 - 55 - 15 ≤ 20 := by omega
    rw [rounds_succ]
    go_wp2
    rw [rounds_succ]
    go_wp2
    rw [rounds_succ]
    go_wp2
    go_ret
    exact ⟨ret_int (by unfold kindS; rw [if_neg (by omega), if_neg (by omega), if_pos h3]), rfl⟩
  · have t1 : ¬ 1 + mixS (goldS z) % 100 ≤ 55 := by omega
    have t2 : ¬ 1 + mixS (goldS z) % 100 - 55 ≤ 15 := by omega
    have t3 : ¬ 1 + mixS (goldS z) % 100 - 55 - 15 ≤ 20 := by omega
    have t4 : 1 + mixS (goldS z) % 100 - 55 - 15 - 20 ≤ 10 := by omega
    rw [rounds_succ]
    go_wp2
    rw [rounds_succ]
    go_wp2
    rw [rounds_succ]
    go_wp2
    rw [rounds_succ]
    go_wp2
    go_ret
    exact ⟨ret_int (by unfold kindS; rw [if_neg (by omega), if_neg (by omega), if_neg (by omega)]), rfl⟩
end Go.Proofs.YbulkcbucDoor
