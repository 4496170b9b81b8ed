/-
  The proof of Rows.LawS3899CSumSaid: the shell given with the seed, its walk filled.
-/
import Derived.Test.YbulkcbsmRows
import Derived.Test.YbulkcbsmQWalks
import Derived.WalkKit
import Derived.ProofKit
import Derived.OpenShut
import Derived.ShutString
import Derived.ChangeOld
import Derived.Below
namespace Go.Proofs.Ybulkcbsm.lawS3899CSum
open Go.ChangeShapes Go.WideShapes Go.ChangeAt Go.RowKit
open Go.ChangeMaps (open_string shut_string)
set_option linter.unusedVariables false

theorem own : ownKnob Yba.prog.godebug = none := by kernel_rfl
theorem laidOut : laidOutB Yba.prog = true := by kernel_rfl

/-- WHAT THE WALK IS TOLD OF A SLICE OF INTEGERS THAT CAME IN: it is nil; or it leads to a row of 'cap' cells, the numbers 'zs' (the first 'len' are its elements, the rest its spare room), each fitting its kind. -/
def IsRow (k : IntKind) (w : World) (a : Option Addr) (len cap : Nat) (zs : List Int) : Prop :=
  (a = none ∧ len = 0 ∧ cap = 0 ∧ zs = []) ∨
  ∃ x, a = some x ∧ len ≤ cap ∧ cap ≤ maxLen ∧ zs.length = cap ∧ (∀ i, i < zs.length → w.cell? (x.add i) = some (.int k (zs.getD i 0))) ∧ ∀ n ∈ zs, (Lit.int k n).wf = true

/-! ### STEP 1: THE WALK -/
set_option maxHeartbeats 1000000 in
theorem walk_nil (a0 a1 : Int) (w : World) :
    Calls Yba.prog 4 #[.int .i64 a0, .int .i64 a1, .slice none 0 0] w fun e w' => e = .returned (.bool true) ∧ Below w.heap.size w w' := by
  go_enter Yba.func4, Yba.ntmps4
  go_wp2_with (go_at_call 5; refine (new_q a0 a1 w).mono ?_; rintro e W1 ⟨rfl, q1⟩)
  have c28 := q1.c28
  refine wp_loop_rounds 1 ?_
  rw [rounds_succ]
  go_wp2
  go_ret
  exact ⟨rfl, q1.bl⟩

set_option maxHeartbeats 1000000 in
theorem walk_zero (a0 a1 : Int) (x : Addr) (w : World) :
    Calls Yba.prog 4 #[.int .i64 a0, .int .i64 a1, .slice (some x) 0 0] w fun e w' => e = .returned (.bool true) ∧ Below w.heap.size w w' := by
  go_enter Yba.func4, Yba.ntmps4
  go_wp2_with (go_at_call 5; refine (new_q a0 a1 w).mono ?_; rintro e W1 ⟨rfl, q1⟩)
  have c28 := q1.c28
  refine wp_loop_rounds 1 ?_
  rw [rounds_succ]
  go_wp2
  go_ret
  exact ⟨rfl, q1.bl⟩

set_option maxHeartbeats 1000000 in
theorem walk_row (a0 a1 : Int) (b off len cap : Nat) (zs : List Int) (w : World) (hz : zs.length = cap) (hl : len ≤ cap) (hm : len ≤ 1024)
    (hc : ∀ j, j < zs.length → w.cell? ⟨b, off + j, none⟩ = some (.int .i64 (zs.getD j 0))) (hb : b < w.heap.size) :
    Calls Yba.prog 4 #[.int .i64 a0, .int .i64 a1, .slice (some ⟨b, off, none⟩) len cap] w fun e w' => e = .returned (.bool true) ∧ Below w.heap.size w w' := by
  have ht : ¬ ((1024 : Int) < (len : Int)) := by omega
  go_enter Yba.func4, Yba.ntmps4
  go_wp2_with (go_at_call 5; refine (new_q a0 a1 w).mono ?_; rintro e W1 ⟨rfl, q1⟩)
  go_loopw [8, 9] (fun t i W => ∃ (k : Nat) (x : Int), k ≤ len ∧ i = .int .i64 k ∧ t = .int .i64 x ∧ Q w.heap.size w W a0 x 0) (fun _ i _ => len - (intOf i).toNat)
  case atStart => exact ⟨0, a1, Nat.zero_le _, rfl, rfl, q1⟩
  case round =>
    obtain ⟨k, x, hk, rfl, rfl, q⟩ := hrel
    clear q1
    by_cases hlt : k < len
    · have hcell := (q.bl.cell (p := ⟨b, off + k, none⟩) hb).trans (hc k (by omega))
      have ht2 : ((k : Int) < (len : Int)) := by omega
      go_wp2_with fail
      refine (lock_q q).mono ?_
      rintro e W2 ⟨rfl, q2⟩
      go_wp2_with fail
      refine (count_any _ q2).mono ?_
      rintro e W3 ⟨rfl, q3⟩
      go_wp2_with fail
      refine (unlock_q q3).mono ?_
      rintro e W4 ⟨rfl, q4⟩
      have c0 := q4.c0
      have c28 := q4.c28
      clear hcell
      go_wp2
      go_roundw
      case rel => exact ⟨k + 1, _, by omega, by go_num, rfl, q4⟩
      case measure => simp [intOf]; omega
    · have ht2 : ¬ ((k : Int) < (len : Int)) := by omega
      have c28 := q.c28
      go_wp2
      go_ret
      exact ⟨rfl, q.bl⟩

theorem walk (a0 : Int) (a1 : Int) (a2 : Option Addr) (len2 cap2 : Nat) (z2 : List Int) (w : World) (w0 : (Lit.int .i64 a0).wf = true) (w1 : (Lit.int .i64 a1).wf = true) (w2 : IsRow .i64 w a2 len2 cap2 z2) :
    Calls Yba.prog 4 #[.int .i64 a0, .int .i64 a1, .slice a2 len2 cap2] w fun e w' => e = .returned (.bool true) ∧ Below w.heap.size w w' := by
  rcases w2 with ⟨rfl, rfl, rfl, rfl⟩ | ⟨x, rfl, hl, hm, hz, hc, _⟩
  · exact walk_nil a0 a1 w
  · by_cases h0 : 1024 < len2
    · unfold maxLen at hm
      have ht : (1024 : Int) < (len2 : Int) := by omega
      go_enter Yba.func4, Yba.ntmps4
      go_wp2
      go_ret
      exact ⟨rfl, Below.refl _ _⟩
    · by_cases hp : 0 < cap2
      · obtain ⟨b, off, rfl, hc'⟩ := ints_at hc (by omega)
        exact walk_row a0 a1 b off len2 cap2 z2 w hz hl (by omega) hc' (World.block_lt_of_cell? _ _ (hc' 0 (by omega)))
      · obtain rfl : cap2 = 0 := by omega
        obtain rfl : len2 = 0 := by omega
        exact walk_zero a0 a1 x w

/-! ### THE ROW's STEP: WRITTEN OUT: LEAVE IT -/
set_option maxRecDepth 100000 in
theorem lifted (os : Os) (started : os.Started) (H : Type) (enc : TypeId × Value → H) :
    ReturnsInHanded {} Yba.checked os 4 .any (Rows.lawS3899CSumSpec.pre6 enc Yba.prog Yba.f4 Rows.lawS3899CSumRow.domain false) (Rows.lawS3899CSumSpec.post enc Yba.prog Yba.f4 false true false false) := by
  refine returnsInHanded_of_change (C := Yba.checked) own started (by kernel_rfl) Yba.func4
    (ChangeSpec.witness6 (enc := enc) (C := Yba.checked) false ⟨#[], #[.int .i64 0, .int .i64 0, .slice none 0 0], []⟩ 8 (by kernel_rfl) (by kernel_rfl) (by kernel_rfl) (by kernel_rfl)) ?_
  intro W base args ds gs before hval0 hW hcnd _
  have hval : ∀ (j : Nat) t v, Yba.f4.params[j]? = some t → args[j]? = some v → Value.okWide Yba.prog W .any base t v := hval0
  have hW' := hW
  obtain ⟨p, q, hA0, hV, rfl, hfz, hnd⟩ := hW
  have hA : DataW.TrodAll enc Yba.prog W 0 (fun _ => true) true Yba.f4.params.toList args.toList ds p := hA0
  rw [Yba.params4] at hA hval
  obtain ⟨v0, vs0, d0, ds0, p0, q0, hargs, rfl, rfl, h0, r0⟩ := trodAll_cons hA
  obtain ⟨v1, vs1, d1, ds1, p1, q1, rfl, rfl, rfl, h1, r1⟩ := trodAll_cons r0
  obtain ⟨v2, vs2, d2, ds2, p2, q2, rfl, rfl, rfl, h2, r2⟩ := trodAll_cons r1
  obtain ⟨rfl, rfl, rfl⟩ := trodAll_nil r2
  obtain rfl : args = #[v0, v1, v2] := by cases args; simp_all
  obtain ⟨rfl, rfl⟩ := trodVars_none hV
  obtain ⟨a0, rfl, rfl, rfl, w0⟩ := open_int Yba.underlying2 (hval 0 2 v0 rfl rfl) h0
  obtain ⟨a1, rfl, rfl, rfl, w1⟩ := open_int Yba.underlying2 (hval 1 2 v1 rfl rfl) h1
  obtain ⟨a2, len2, cap2, rfl⟩ := okWide_slice Yba.underlying45 (hval 2 45 v2 rfl rfl)
  have k2 := h2
  have lt2 : ∀ x ∈ p2, x.block < W.heap.size := by obtain ⟨m, hm⟩ := k2; exact DataW.trod_lt m _ _ _ hm
  obtain ⟨z2, w2⟩ : ∃ zs, IsRow .i64 W a2 len2 cap2 zs := by
    obtain ⟨fuel, hf⟩ := h2
    rcases open_ints Yba.underlying45 Yba.underlying2 (by kernel_rfl) hf with ⟨hcs, _⟩ | ⟨x, l, c, zs, hcs, _, hl, hm, hz, _, hcell, hwz⟩
    · simp [Value.cells] at hcs
      obtain ⟨rfl, rfl, rfl⟩ := hcs
      exact ⟨[], .inl ⟨rfl, rfl, rfl, rfl⟩⟩
    · simp [Value.cells] at hcs
      obtain ⟨rfl, rfl, rfl⟩ := hcs
      exact ⟨zs, .inr ⟨_, rfl, hl, hm, by simpa using hz, hcell, hwz⟩⟩
  clear hA0 hval0
  refine (walk a0 a1 a2 len2 cap2 z2 W w0 w1 w2).mono fun e W' ⟨he, bel⟩ => ?_
  subst he
  exact ⟨_, rfl, _, _, _, [], _, [], hW', trodAll_mk1 (shut_bool Yba.underlying4 _), (trodAll_cons_mk (shut_int Yba.underlying2 w0) (trodAll_cons_mk (shut_int Yba.underlying2 w1) (trodAll_cons_mk (Below.trod laidOut (by kernel_rfl) (of_decide_eq_true (by kernel_rfl)) k2 bel lt2) trodAll_mk0))), rfl, bel.frame _, fun h => by cases h⟩

theorem over : Rows.lawS3899CSumRow.holds Yba.pinned (OpenSpec.ofChange Rows.lawS3899CSumSpec) :=
  OpenClaim.holds_of_wide 4 Yba.f4 rfl rfl rfl rfl rfl rfl rfl ⟨rfl, rfl, rfl, rfl, rfl⟩ rfl rfl rfl rfl rfl (by kernel_rfl) Yba.func4 (by kernel_rfl)
    (of_decide_eq_true (by kernel_rfl)) (by unfold Func.isWrapper; first | (rw [if_pos (by decide +kernel)]; kernel_rfl) | (rw [if_neg (by decide +kernel)]; exact ⟨rfl, rfl⟩))
    (fun os started H enc _ => lifted os started H enc)

/-- ████ THE STATEMENT ████ -/
theorem proved : Rows.LawS3899CSumSaid := over
end Go.Proofs.Ybulkcbsm.lawS3899CSum
