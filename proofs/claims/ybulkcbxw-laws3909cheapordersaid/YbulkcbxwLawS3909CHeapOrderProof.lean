/-
  The proof of Rows.LawS3909CHeapOrderSaid: the shell given with the seed, its walk filled.
-/
import Derived.Test.YbulkcbxwRows
import Derived.Test.YbulkcbxwQk
import Derived.WalkKit
import Derived.ProofKit
import Derived.OpenShut
import Derived.ShutString
import Derived.ChangeOld
import Derived.Below
namespace Go.Proofs.Ybulkcbxw.lawS3909CHeapOrder
open Go.ChangeShapes Go.WideShapes Go.ChangeAt Go.RowKit
open Go.ChangeMaps (open_string shut_string)
set_option linter.unusedVariables false

theorem own : ownKnob Yba.prog.godebug = none := by kernel_rfl
theorem laidOut : laidOutB Yba.prog = true := by kernel_rfl

/-- WHAT THE WALK IS TOLD OF A SLICE OF INTEGERS THAT CAME IN: it is nil; or it leads to a row of 'cap' cells, the numbers 'zs' (the first 'len' are its elements, the rest its spare room), each fitting its kind. -/
def IsRow (k : IntKind) (w : World) (a : Option Addr) (len cap : Nat) (zs : List Int) : Prop :=
  (a = none ∧ len = 0 ∧ cap = 0 ∧ zs = []) ∨
  ∃ x, a = some x ∧ len ≤ cap ∧ cap ≤ maxLen ∧ zs.length = cap ∧ (∀ i, i < zs.length → w.cell? (x.add i) = some (.int k (zs.getD i 0))) ∧ ∀ n ∈ zs, (Lit.int k n).wf = true

/-! ### STEP 1: THE WALK -/
set_option maxRecDepth 100000 in
theorem walk_big (a0 : Option Addr) (len0 cap0 : Nat) (w : World) (hl : 512 < len0) (hm : len0 ≤ maxLen) :
    Calls Yba.prog 4 #[.slice a0 len0 cap0] w fun e w' => e = .returned (.bool true) ∧ Below w.heap.size w w' := by
  unfold maxLen at hm
  have h1 : (512 : Int) < (len0 : Int) := by omega
  go_enter Yba.func4, Yba.ntmps4
  go_wp2
  go_ret
  exact ⟨rfl, Below.refl _ _⟩

set_option maxRecDepth 100000 in
set_option maxHeartbeats 1000000 in
theorem walk_zero (a0 : Option Addr) (cap0 : Nat) (w : World) : Calls Yba.prog 4 #[.slice a0 0 cap0] w fun e w' => e = .returned (.bool true) ∧ Below w.heap.size w w' := by
  obtain ⟨i0, hi, hz0, hz1, hz2⟩ := info_parts info4
  have h0 : HO w.heap.size (w.alloc (.cells #[.slice none 0 0, .int .u64 0] 38)) 0 [] 0 := ⟨⟨_, by simp [go_sem], World.ownsRow_nil _ _ _ _⟩, by simp [go_sem], fun o => by simp [go_sem]⟩
  go_enter Yba.func4, Yba.ntmps4
  go_wp2
  refine wp_loop_rounds 1 ?_
  rw [rounds_succ]
  go_wp2_with (at_make; refine wpList_make_full _ rfl _ _ 43 rfl 0 4 i0 _ 1 Yba.underlying43 hi hz0 hz1 .i64 .i64 _ _ 1 rfl rfl (by simp) (by simp) (by rw [hz2]; omega) (by unfold maxLen; omega) (Nat.zero_le _) ?_; intro w2 hown2 hgrow2)
  have b1 : Below w.heap.size w (w.alloc (.cells #[.slice none 0 0, .int .u64 0] 38)) := (Below.refl _ _).alloc (Nat.le_refl _) _
  have b2 : Below (w.heap.size + 1) (w.alloc (.cells #[.slice none 0 0, .int .u64 0] 38)) w2 := (Below.refl _ _).grown hgrow2 (by simp) (fun k e => by cases e)
  have h2 : HO w.heap.size w2 0 [] 0 := ⟨⟨_, (b2.cell (p := ⟨w.heap.size, 0, none⟩) (Nat.lt_succ_self _)).trans (by simp [go_sem]), World.ownsRow_nil _ _ _ _⟩, (b2.cell (p := ⟨w.heap.size, 1, none⟩) (Nat.lt_succ_self _)).trans h0.c1, fun o => (b2.frozen (p := ⟨w.heap.size, o, none⟩) (Nat.lt_succ_self _)).trans (h0.fz o)⟩
  have bl : Below w.heap.size w w2 := b1.trans (b2.mono (Nat.le_succ _))
  have hc1 := h2.c1
  clear hown2 hgrow2 b1 b2 h0
  refine wp_loop_rounds 1 ?_
  rw [rounds_succ]
  go_wp2_with (go_at_call 7; refine (len_o h2 (by omega)).mono ?_; rintro e w9 ⟨rfl, rfl⟩)
  go_ret
  exact ⟨rfl, bl⟩

theorem walk (a0 : Option Addr) (len0 cap0 : Nat) (z0 : List Int) (w : World) (w0 : IsRow .i64 w a0 len0 cap0 z0) :
    Calls Yba.prog 4 #[.slice a0 len0 cap0] w fun e w' => e = .returned (.bool true) ∧ Below w.heap.size w w' := by
  rcases w0 with ⟨rfl, rfl, rfl, rfl⟩ | ⟨x, rfl, hl, hm, hz, hc, _⟩
  · exact walk_zero _ _ _
  · by_cases h0 : len0 = 0
    · subst h0; exact walk_zero _ _ _
    · by_cases h1 : 512 < len0
      · exact walk_big _ _ _ _ h1 (by omega)
      · have hs : x.spot = none := by simpa [Addr.add] using World.cell?_spot (hc 0 (by omega))
        obtain ⟨b, off, sp⟩ := x
        simp only at hs
        subst hs
        refine order_row b off len0 cap0 (fun i => z0.getD i 0) w (by omega) (by omega) (fun i hi => ?_)
        have := hc i (by omega)
        rw [WideShapes.add_plain] at this
        exact this

/-! ### THE ROW's STEP: WRITTEN OUT: LEAVE IT -/
set_option maxRecDepth 100000 in
theorem lifted (os : Os) (started : os.Started) (H : Type) (enc : TypeId × Value → H) :
    ReturnsInHanded {} Yba.checked os 4 .any (Rows.lawS3909CHeapOrderSpec.pre6 enc Yba.prog Yba.f4 Rows.lawS3909CHeapOrderRow.domain false) (Rows.lawS3909CHeapOrderSpec.post enc Yba.prog Yba.f4 false true false false) := by
  refine returnsInHanded_of_change (C := Yba.checked) own started (by kernel_rfl) Yba.func4
    (ChangeSpec.witness6 (enc := enc) (C := Yba.checked) false ⟨#[], #[.slice none 0 0], []⟩ 8 (by kernel_rfl) (by kernel_rfl) (by kernel_rfl) (by kernel_rfl)) ?_
  intro W base args ds gs before hval0 hW hcnd _
  have hval : ∀ (j : Nat) t v, Yba.f4.params[j]? = some t → args[j]? = some v → Value.okWide Yba.prog W .any base t v := hval0
  have hW' := hW
  obtain ⟨p, q, hA0, hV, rfl, hfz, hnd⟩ := hW
  have hA : DataW.TrodAll enc Yba.prog W 0 (fun _ => true) true Yba.f4.params.toList args.toList ds p := hA0
  rw [Yba.params4] at hA hval
  obtain ⟨v0, vs0, d0, ds0, p0, q0, hargs, rfl, rfl, h0, r0⟩ := trodAll_cons hA
  obtain ⟨rfl, rfl, rfl⟩ := trodAll_nil r0
  obtain rfl : args = #[v0] := by cases args; simp_all
  obtain ⟨rfl, rfl⟩ := trodVars_none hV
  obtain ⟨a0, len0, cap0, rfl⟩ := okWide_slice Yba.underlying22 (hval 0 22 v0 rfl rfl)
  have k0 := h0
  have lt0 : ∀ x ∈ p0, x.block < W.heap.size := by obtain ⟨m, hm⟩ := k0; exact DataW.trod_lt m _ _ _ hm
  obtain ⟨z0, w0⟩ : ∃ zs, IsRow .i64 W a0 len0 cap0 zs := by
    obtain ⟨fuel, hf⟩ := h0
    rcases open_ints Yba.underlying22 Yba.underlying2 (by kernel_rfl) hf with ⟨hcs, _⟩ | ⟨x, l, c, zs, hcs, _, hl, hm, hz, _, hcell, hwz⟩
    · simp [Value.cells] at hcs
      obtain ⟨rfl, rfl, rfl⟩ := hcs
      exact ⟨[], .inl ⟨rfl, rfl, rfl, rfl⟩⟩
    · simp [Value.cells] at hcs
      obtain ⟨rfl, rfl, rfl⟩ := hcs
      exact ⟨zs, .inr ⟨_, rfl, hl, hm, by simpa using hz, hcell, hwz⟩⟩
  clear hA0 hval0
  refine (walk a0 len0 cap0 z0 W w0).mono fun e W' ⟨he, bel⟩ => ?_
  subst he
  exact ⟨_, rfl, _, _, _, [], _, [], hW', trodAll_mk1 (shut_bool Yba.underlying4 _), (trodAll_cons_mk (Below.trod laidOut (by kernel_rfl) (of_decide_eq_true (by kernel_rfl)) k0 bel lt0) trodAll_mk0), rfl, bel.frame _, fun h => by cases h⟩

theorem over : Rows.lawS3909CHeapOrderRow.holds Yba.pinned (OpenSpec.ofChange Rows.lawS3909CHeapOrderSpec) :=
  OpenClaim.holds_of_wide 4 Yba.f4 rfl rfl rfl rfl rfl rfl rfl ⟨rfl, rfl, rfl, rfl, rfl⟩ rfl rfl rfl rfl rfl (by kernel_rfl) Yba.func4 (by kernel_rfl)
    (of_decide_eq_true (by kernel_rfl)) (by unfold Func.isWrapper; first | (rw [if_pos (by decide +kernel)]; kernel_rfl) | (rw [if_neg (by decide +kernel)]; exact ⟨rfl, rfl⟩))
    (fun os started H enc _ => lifted os started H enc)

/-- ████ THE STATEMENT ████ -/
theorem proved : Rows.LawS3909CHeapOrderSaid := over
end Go.Proofs.Ybulkcbxw.lawS3909CHeapOrder
