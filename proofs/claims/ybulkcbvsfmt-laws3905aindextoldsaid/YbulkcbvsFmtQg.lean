/-
  Seat b3905aF: the two regions of newPool's loop that draw their order.
-/
import Derived.Test.YbulkcbvsFmtQe
import Derived.Test.YbulkcbvsFmtQf
import Derived.Maps.AppendAt
namespace Go.Proofs.YbulkcbvsFmt
open Go.RowKit Go.Maps

/-- 'p.free = append(p.free, uint64(k))', operation by operation. -/
def sigs9 : List (Option (Nat × Bool) × Option Tmp × Op) :=
  [(none, some 40, .load 50 (.tmp 12)), (none, some 41, .load 50 (.tmp 12)), (none, some 42, .nilCheck (.tmp 41)), (none, some 43, .fieldAddr 60 (.tmp 42) 7), (none, some 44, .load 58 (.tmp 43)), (none, some 45, .move (.tmp 13)), (none, some 46, .convert 3 26 (.tmp 45)),
   (none, some 47, .buildSlice 58 1 #[(0, .tmp 46)]), (none, some 48, .call { callee := .builtin .append, args := #[.tmp 44, .tmp 47], argTypes := #[58, 58] }), (none, some 49, .nilCheck (.tmp 40)), (none, some 50, .fieldAddr 60 (.tmp 49) 7), (none, none, .store 58 (.tmp 50) (.tmp 48))]
def needs9 : Nat → List Nat
  | 2 => [1] | 3 => [2] | 4 => [3] | 6 => [5] | 7 => [6] | 8 => [4, 7] | 9 => [0, 8] | 10 => [9] | 11 => [8, 10] | _ => []
def val9 (pb h k : Nat) (sv v' : Value) : Nat → Value
  | 0 => .pointer (some ⟨pb, 0, none⟩) | 1 => .pointer (some ⟨pb, 0, none⟩) | 2 => .pointer (some ⟨pb, 0, none⟩) | 3 => .pointer (some ⟨pb, 13, none⟩) | 4 => sv | 5 => .int .i64 k | 6 => .int .u64 k
  | 7 => .slice (some ⟨h, 0, none⟩) 1 1 | 8 => v' | 9 => .pointer (some ⟨pb, 0, none⟩) | _ => .pointer (some ⟨pb, 13, none⟩)

theorem info26 : (Ybaf.prog.info? 26).map (fun i => (i.zero, i.size, i.bytes)) = some (some (.int .u64 0), 1, 8) := by kernel_rfl

theorem needs9_all (L : Nat → Bool) (hc : ∀ i, L i = true → ∀ j ∈ needs9 i, L j = true) (h : ∀ j ∈ needs9 11, L j = true) : ∀ i, i < 11 → L i = true := by
  have h8 : L 8 = true := h 8 (by simp [needs9])
  have h10 : L 10 = true := h 10 (by simp [needs9])
  have h9 := hc 10 h10 9 (by simp [needs9])
  have h0 := hc 9 h9 0 (by simp [needs9])
  have h4 := hc 8 h8 4 (by simp [needs9])
  have h7 := hc 8 h8 7 (by simp [needs9])
  have h3 := hc 4 h4 3 (by simp [needs9])
  have h2 := hc 3 h3 2 (by simp [needs9])
  have h1 := hc 2 h2 1 (by simp [needs9])
  have h6 := hc 7 h7 6 (by simp [needs9])
  have h5 := hc 6 h6 5 (by simp [needs9])
  intro i hi
  match i, hi with
  | 0, _ => exact h0 | 1, _ => exact h1 | 2, _ => exact h2 | 3, _ => exact h3 | 4, _ => exact h4 | 5, _ => exact h5 | 6, _ => exact h6 | 7, _ => exact h7 | 8, _ => exact h8 | 9, _ => exact h9 | 10, _ => exact h10

def wOf (w0 w1 w2 : World) (L : Nat → Bool) : World := if L 8 = true then w2 else if L 7 = true then w1 else w0
theorem wOf_same {w0 w1 w2 : World} {L : Nat → Bool} {i : Nat} (h8 : i ≠ 8) (h7 : i ≠ 7) : wOf w0 w1 w2 (fun j => if j = i then true else L j) = wOf w0 w1 w2 L := by
  unfold wOf
  simp only [if_neg (Ne.symm h8), if_neg (Ne.symm h7)]

set_option maxHeartbeats 1000000 in
theorem region9 {F : Fence} {n : Nat} {ops : Array Oper} {Q : Exit → Act → World → Prop} {id : Nat} {a0 : Act} {w0 : World} (hF : ∀ f, F.fn f) (hsig : ops.toList.map sig = sigs9) (hlt : ltB ops = true) (hpre : preB ops needs9 = true) (hs : 51 ≤ a0.tmps.size)
    (bp pb k m : Nat) (sv : Value) (xs : List Value) (B : Nat) (h12 : a0.tmps.getD 12 undef = .pointer (some ⟨bp, 0, none⟩)) (h13 : a0.tmps.getD 13 undef = .int .i64 k) (hk : k ≤ 1024) (hm : m ≤ 1024)
    (hbp : w0.cell? ⟨bp, 0, none⟩ = some (.pointer (some ⟨pb, 0, none⟩))) (hpb : w0.cell? ⟨pb, 13, none⟩ = some sv) (hfz : w0.frozen? ⟨pb, 13, none⟩ = false) (hown : w0.ownsRow B 26 1 sv m xs) (hbB : bp < B) (hpB : pb < B) (hB : B ≤ w0.heap.size)
    (hQ : ∀ a g cap w2, w2.ownsRow B 26 1 (.slice (some ⟨g, 0, none⟩) (m + 1) cap) (m + 1) (xs ++ [.int .u64 k]) → (w0.drew.alloc (.cells #[.int .u64 k] 26)).grownBy w2 sv.ownBlock → Q .normal a (w2.setCell ⟨pb, 13, none⟩ (.slice (some ⟨g, 0, none⟩) (m + 1) cap))) :
    (Code.region id ops true).wpIn F n Ybaf.prog Q a0 w0 := by
  obtain ⟨i0, hi, hz0, hz1, hz2⟩ := info_parts info26
  obtain ⟨o8, ho8, g8, d8, p8⟩ := sig_at hsig (i := 8) rfl
  have hbw : bp < w0.heap.size := Nat.lt_of_lt_of_le hbB hB
  have hpw : pb < w0.heap.size := Nat.lt_of_lt_of_le hpB hB
  obtain ⟨v', w2, hrun, r1, r2, _⟩ := run_append_own (P := Ybaf.prog) (w0.drew.alloc (.cells #[.int .u64 k] 26)) B 58 o8.type 26 i0 (.int .u64 0) 1 8 Ybaf.underlying58 hi hz0 hz1 hz2 rfl (by decide) sv m xs (World.ownsRow.alloc (World.ownsRow.drew hown) _) ⟨w0.heap.size, 0, none⟩ 1 1 [.int .u64 k] rfl
    (cell_one_new _ _ _) (by simp [Value.oneCell']) (by unfold maxLen; omega) (by omega) (by simp; omega)
  obtain ⟨g, cap, rfl⟩ := ownsRow_succ r1
  have hown_ne : ∀ b, b < B → some b ≠ sv.ownBlock := fun b hb e => by
    rcases hown.2 with ⟨rfl, _⟩ | ⟨g', c', cur, rfl, hg', _⟩
    · cases e
    · simp only [Value.ownBlock, Option.some.injEq] at e; omega
  have hblk : ∀ b, b < B → w2.heap[b]? = w0.heap[b]? := fun b hb =>
    (r2.block b (by simp; omega) (hown_ne b hb)).trans (Below.heap_alloc w0.drew _ b (Nat.lt_of_lt_of_le hb hB))
  have hcell : ∀ b o, b < B → w2.cell? ⟨b, o, none⟩ = w0.cell? ⟨b, o, none⟩ := fun b o hb => World.cell?_of_block (w := w0) (hblk b hb)
  have hfr : ∀ b o, b < B → w2.frozen? ⟨b, o, none⟩ = w0.frozen? ⟨b, o, none⟩ := fun b o hb => World.frozen?_of_block (w := w0) (hblk b hb)
  have hW : ∀ L b o, b < B → (wOf w0.drew (w0.drew.alloc (.cells #[.int .u64 k] 26)) w2 L).cell? ⟨b, o, none⟩ = w0.cell? ⟨b, o, none⟩ := fun L b o hb => by
    unfold wOf
    split
    · exact hcell b o hb
    · split
      · exact World.cell?_alloc_lt _ _ _ (show b < w0.drew.heap.size from Nat.lt_of_lt_of_le hb hB)
      · rfl
  refine region_vals hF (by kernel_rfl) 40 11 (sig_size hsig) hlt needs9 hpre hs (val9 pb w0.heap.size k sv (.slice (some ⟨g, 0, none⟩) (m + 1) cap)) (wOf w0.drew (w0.drew.alloc (.cells #[.int .u64 k] 26)) w2) rfl
    (w2.setCell ⟨pb, 13, none⟩ (.slice (some ⟨g, 0, none⟩) (m + 1) cap)) needs9_all ?_ ?_ (fun a _ => hQ a g cap w2 r1 r2)
  · intro i hi'
    match i, hi' with
    | 0, _ =>
      obtain ⟨o, ho, gg, dd, pp⟩ := sig_at hsig (i := 0) rfl
      refine ⟨o, ho, gg, dd, (by intro c h; rw [pp] at h; cases h), fun L a hc hn hl => ?_⟩
      rw [wOf_same (by decide) (by decide)]
      have e1 : a.tmps.getD 12 undef = _ := (hc.frame 12 (by omega)).trans h12
      have hcl := (hW L bp 0 hbB).trans hbp
      generalize wOf w0.drew (w0.drew.alloc (.cells #[.int .u64 k] 26)) w2 L = W at *
      simp at e1
      simp [execOp, pp, Act.eval, e1, go_sem, val9, hcl]
    | 1, _ =>
      obtain ⟨o, ho, gg, dd, pp⟩ := sig_at hsig (i := 1) rfl
      refine ⟨o, ho, gg, dd, (by intro c h; rw [pp] at h; cases h), fun L a hc hn hl => ?_⟩
      rw [wOf_same (by decide) (by decide)]
      have e1 : a.tmps.getD 12 undef = _ := (hc.frame 12 (by omega)).trans h12
      have hcl := (hW L bp 0 hbB).trans hbp
      generalize wOf w0.drew (w0.drew.alloc (.cells #[.int .u64 k] 26)) w2 L = W at *
      simp at e1
      simp [execOp, pp, Act.eval, e1, go_sem, val9, hcl]
    | 2, _ =>
      obtain ⟨o, ho, gg, dd, pp⟩ := sig_at hsig (i := 2) rfl
      refine ⟨o, ho, gg, dd, (by intro c h; rw [pp] at h; cases h), fun L a hc hn hl => ?_⟩
      rw [wOf_same (by decide) (by decide)]
      have e1 : a.tmps.getD 41 undef = _ := hc.vals 1 (by decide) (hn 1 (by simp [needs9]))
      generalize wOf w0.drew (w0.drew.alloc (.cells #[.int .u64 k] 26)) w2 L = W at *
      simp [val9] at e1
      simp [execOp, pp, Act.eval, e1, go_sem, val9]
    | 3, _ =>
      obtain ⟨o, ho, gg, dd, pp⟩ := sig_at hsig (i := 3) rfl
      refine ⟨o, ho, gg, dd, (by intro c h; rw [pp] at h; cases h), fun L a hc hn hl => ?_⟩
      rw [wOf_same (by decide) (by decide)]
      have e1 : a.tmps.getD 42 undef = _ := hc.vals 2 (by decide) (hn 2 (by simp [needs9]))
      generalize wOf w0.drew (w0.drew.alloc (.cells #[.int .u64 k] 26)) w2 L = W at *
      simp [val9] at e1
      simp [execOp, pp, Act.eval, e1, go_sem, val9]
    | 4, _ =>
      obtain ⟨o, ho, gg, dd, pp⟩ := sig_at hsig (i := 4) rfl
      refine ⟨o, ho, gg, dd, (by intro c h; rw [pp] at h; cases h), fun L a hc hn hl => ?_⟩
      rw [wOf_same (by decide) (by decide)]
      have e1 : a.tmps.getD 43 undef = _ := hc.vals 3 (by decide) (hn 3 (by simp [needs9]))
      have hcl := (hW L pb 13 hpB).trans hpb
      generalize wOf w0.drew (w0.drew.alloc (.cells #[.int .u64 k] 26)) w2 L = W at *
      simp [val9] at e1
      simp [execOp, pp, Act.eval, e1, go_sem, val9, hcl]
    | 5, _ =>
      obtain ⟨o, ho, gg, dd, pp⟩ := sig_at hsig (i := 5) rfl
      refine ⟨o, ho, gg, dd, (by intro c h; rw [pp] at h; cases h), fun L a hc hn hl => ?_⟩
      rw [wOf_same (by decide) (by decide)]
      have e1 : a.tmps.getD 13 undef = _ := (hc.frame 13 (by omega)).trans h13
      generalize wOf w0.drew (w0.drew.alloc (.cells #[.int .u64 k] 26)) w2 L = W at *
      simp at e1
      simp [execOp, pp, Act.eval, e1, go_sem, val9]
    | 6, _ =>
      obtain ⟨o, ho, gg, dd, pp⟩ := sig_at hsig (i := 6) rfl
      have hwr : IntKind.u64.wrap (k : Int) = k := IntWalk.u64_in _ ⟨by omega, by omega⟩
      refine ⟨o, ho, gg, dd, (by intro c h; rw [pp] at h; cases h), fun L a hc hn hl => ?_⟩
      rw [wOf_same (by decide) (by decide)]
      have e1 : a.tmps.getD 45 undef = _ := hc.vals 5 (by decide) (hn 5 (by simp [needs9]))
      generalize wOf w0.drew (w0.drew.alloc (.cells #[.int .u64 k] 26)) w2 L = W at *
      simp [val9] at e1
      simp [execOp, pp, Act.eval, e1, go_sem, val9, hwr]
    | 7, _ =>
      obtain ⟨o, ho, gg, dd, pp⟩ := sig_at hsig (i := 7) rfl
      refine ⟨o, ho, gg, dd, (by intro c h; rw [pp] at h; cases h), fun L a hc hn hl => ?_⟩
      have e1 : a.tmps.getD 46 undef = _ := hc.vals 6 (by decide) (hn 6 (by simp [needs9]))
      have hl8 : L 8 = false := by
        cases e : L 8 with
        | false => rfl
        | true => have := hc.cl 8 e 7 (by simp [needs9]); rw [hl] at this; cases this
      simp [val9] at e1
      simp [execOp, pp, Act.eval, e1, go_sem, val9, wOf, hl, hl8]
    | 8, _ =>
      refine ⟨o8, ho8, g8, d8, (by intro c h; rw [p8] at h; cases h), fun L a hc hn hl => ?_⟩
      have e1 : a.tmps.getD 44 undef = _ := hc.vals 4 (by decide) (hn 4 (by simp [needs9]))
      have e2 : a.tmps.getD 47 undef = _ := hc.vals 7 (by decide) (hn 7 (by simp [needs9]))
      have hl7 : L 7 = true := hn 7 (by simp [needs9])
      simp [val9] at e1 e2
      simp [execOp, p8, resolve, invoke, builtin, Act.eval, e1, e2, val9, wOf, hl, hl7, hrun, Result.andThen]
    | 9, _ =>
      obtain ⟨o, ho, gg, dd, pp⟩ := sig_at hsig (i := 9) rfl
      refine ⟨o, ho, gg, dd, (by intro c h; rw [pp] at h; cases h), fun L a hc hn hl => ?_⟩
      rw [wOf_same (by decide) (by decide)]
      have e1 : a.tmps.getD 40 undef = _ := hc.vals 0 (by decide) (hn 0 (by simp [needs9]))
      generalize wOf w0.drew (w0.drew.alloc (.cells #[.int .u64 k] 26)) w2 L = W at *
      simp [val9] at e1
      simp [execOp, pp, Act.eval, e1, go_sem, val9]
    | 10, _ =>
      obtain ⟨o, ho, gg, dd, pp⟩ := sig_at hsig (i := 10) rfl
      refine ⟨o, ho, gg, dd, (by intro c h; rw [pp] at h; cases h), fun L a hc hn hl => ?_⟩
      rw [wOf_same (by decide) (by decide)]
      have e1 : a.tmps.getD 49 undef = _ := hc.vals 9 (by decide) (hn 9 (by simp [needs9]))
      generalize wOf w0.drew (w0.drew.alloc (.cells #[.int .u64 k] 26)) w2 L = W at *
      simp [val9] at e1
      simp [execOp, pp, Act.eval, e1, go_sem, val9]
  · obtain ⟨o, ho, gg, dd, pp⟩ := sig_at hsig (i := 11) rfl
    refine ⟨o, ho, gg, dd, (by intro c h; rw [pp] at h; cases h), fun L a hc hn hl => ?_⟩
    have e1 : a.tmps.getD 50 undef = _ := hc.vals 10 (by decide) (hn 10 (by decide))
    have e2 : a.tmps.getD 48 undef = _ := hc.vals 8 (by decide) (hn 8 (by decide))
    have hl8 : L 8 = true := hn 8 (by decide)
    have c2 := (hcell pb 13 hpB).trans hpb
    have f2 := (hfr pb 13 hpB).trans hfz
    simp [val9] at e1 e2
    simp [execOp, pp, Act.eval, e1, e2, go_sem, wOf, hl8, c2, f2]

/-- 'p.mapped += rec.refs', operation by operation. -/
def sigs11 : List (Option (Nat × Bool) × Option Tmp × Op) :=
  [(none, some 58, .load 50 (.tmp 12)), (none, some 59, .nilCheck (.tmp 58)), (none, some 60, .fieldAddr 60 (.tmp 59) 10), (none, some 61, .load 26 (.tmp 60)), (none, some 62, .fieldAddr 49 (.tmp 14) 1), (none, some 63, .load 26 (.tmp 62)),
   (none, some 64, .binOp .add 26 (.tmp 61) (.tmp 63) 26), (none, some 65, .nilCheck (.tmp 58)), (none, some 66, .fieldAddr 60 (.tmp 65) 10), (none, none, .store 26 (.tmp 66) (.tmp 64))]
def needs11 : Nat → List Nat
  | 1 => [0] | 2 => [1] | 3 => [2] | 5 => [4] | 6 => [3, 5] | 7 => [0, 6] | 8 => [7] | 9 => [6, 8] | _ => []
def val11 (pb br : Nat) (mp r : Int) : Nat → Value
  | 0 => .pointer (some ⟨pb, 0, none⟩) | 1 => .pointer (some ⟨pb, 0, none⟩) | 2 => .pointer (some ⟨pb, 16, none⟩) | 3 => .int .u64 mp | 4 => .pointer (some ⟨br, 32, none⟩) | 5 => .int .u64 r | 6 => .int .u64 (IntKind.u64.wrap (mp + r))
  | 7 => .pointer (some ⟨pb, 0, none⟩) | _ => .pointer (some ⟨pb, 16, none⟩)
theorem needs11_all (L : Nat → Bool) (hc : ∀ i, L i = true → ∀ j ∈ needs11 i, L j = true) (h : ∀ j ∈ needs11 9, L j = true) : ∀ i, i < 9 → L i = true := by
  have h6 : L 6 = true := h 6 (by simp [needs11])
  have h8 : L 8 = true := h 8 (by simp [needs11])
  have h7 := hc 8 h8 7 (by simp [needs11])
  have h3 := hc 6 h6 3 (by simp [needs11])
  have h5 := hc 6 h6 5 (by simp [needs11])
  have h2 := hc 3 h3 2 (by simp [needs11])
  have h1 := hc 2 h2 1 (by simp [needs11])
  have h0 := hc 1 h1 0 (by simp [needs11])
  have h4 := hc 5 h5 4 (by simp [needs11])
  intro i hi
  match i, hi with
  | 0, _ => exact h0 | 1, _ => exact h1 | 2, _ => exact h2 | 3, _ => exact h3 | 4, _ => exact h4 | 5, _ => exact h5 | 6, _ => exact h6 | 7, _ => exact h7 | 8, _ => exact h8

set_option maxHeartbeats 1000000 in
theorem region11 {F : Fence} {n : Nat} {ops : Array Oper} {Q : Exit → Act → World → Prop} {id : Nat} {a0 : Act} {w0 : World} (hF : ∀ f, F.fn f) (hsig : ops.toList.map sig = sigs11) (hlt : ltB ops = true) (hpre : preB ops needs11 = true) (hs : 67 ≤ a0.tmps.size)
    (bp pb br : Nat) (mp r : Int) (h12 : a0.tmps.getD 12 undef = .pointer (some ⟨bp, 0, none⟩)) (h14 : a0.tmps.getD 14 undef = .pointer (some ⟨br, 0, none⟩))
    (hbp : w0.cell? ⟨bp, 0, none⟩ = some (.pointer (some ⟨pb, 0, none⟩))) (hpb : w0.cell? ⟨pb, 16, none⟩ = some (.int .u64 mp)) (hfz : w0.frozen? ⟨pb, 16, none⟩ = false) (hbr : w0.cell? ⟨br, 32, none⟩ = some (.int .u64 r))
    (hQ : ∀ a, Q .normal a (w0.drew.setCell ⟨pb, 16, none⟩ (.int .u64 (IntKind.u64.wrap (mp + r))))) :
    (Code.region id ops true).wpIn F n Ybaf.prog Q a0 w0 := by
  refine region_vals hF (by kernel_rfl) 58 9 (sig_size hsig) hlt needs11 hpre hs (val11 pb br mp r) (fun _ => w0.drew) rfl (w0.drew.setCell ⟨pb, 16, none⟩ (.int .u64 (IntKind.u64.wrap (mp + r)))) needs11_all ?_ ?_ (fun a _ => hQ a)
  · intro i hi'
    match i, hi' with
    | 0, _ =>
      obtain ⟨o, ho, gg, dd, pp⟩ := sig_at hsig (i := 0) rfl
      refine ⟨o, ho, gg, dd, (by intro c h; rw [pp] at h; cases h), fun L a hc hn hl => ?_⟩
      have e1 : a.tmps.getD 12 undef = _ := (hc.frame 12 (by omega)).trans h12
      simp at e1
      simp [execOp, pp, Act.eval, e1, go_sem, val11, hbp]
    | 1, _ =>
      obtain ⟨o, ho, gg, dd, pp⟩ := sig_at hsig (i := 1) rfl
      refine ⟨o, ho, gg, dd, (by intro c h; rw [pp] at h; cases h), fun L a hc hn hl => ?_⟩
      have e1 : a.tmps.getD 58 undef = _ := hc.vals 0 (by decide) (hn 0 (by simp [needs11]))
      simp [val11] at e1
      simp [execOp, pp, Act.eval, e1, go_sem, val11]
    | 2, _ =>
      obtain ⟨o, ho, gg, dd, pp⟩ := sig_at hsig (i := 2) rfl
      refine ⟨o, ho, gg, dd, (by intro c h; rw [pp] at h; cases h), fun L a hc hn hl => ?_⟩
      have e1 : a.tmps.getD 59 undef = _ := hc.vals 1 (by decide) (hn 1 (by simp [needs11]))
      simp [val11] at e1
      simp [execOp, pp, Act.eval, e1, go_sem, val11]
    | 3, _ =>
      obtain ⟨o, ho, gg, dd, pp⟩ := sig_at hsig (i := 3) rfl
      refine ⟨o, ho, gg, dd, (by intro c h; rw [pp] at h; cases h), fun L a hc hn hl => ?_⟩
      have e1 : a.tmps.getD 60 undef = _ := hc.vals 2 (by decide) (hn 2 (by simp [needs11]))
      simp [val11] at e1
      simp [execOp, pp, Act.eval, e1, go_sem, val11, hpb]
    | 4, _ =>
      obtain ⟨o, ho, gg, dd, pp⟩ := sig_at hsig (i := 4) rfl
      refine ⟨o, ho, gg, dd, (by intro c h; rw [pp] at h; cases h), fun L a hc hn hl => ?_⟩
      have e1 : a.tmps.getD 14 undef = _ := (hc.frame 14 (by omega)).trans h14
      simp at e1
      simp [execOp, pp, Act.eval, e1, go_sem, val11]
    | 5, _ =>
      obtain ⟨o, ho, gg, dd, pp⟩ := sig_at hsig (i := 5) rfl
      refine ⟨o, ho, gg, dd, (by intro c h; rw [pp] at h; cases h), fun L a hc hn hl => ?_⟩
      have e1 : a.tmps.getD 62 undef = _ := hc.vals 4 (by decide) (hn 4 (by simp [needs11]))
      simp [val11] at e1
      simp [execOp, pp, Act.eval, e1, go_sem, val11, hbr]
    | 6, _ =>
      obtain ⟨o, ho, gg, dd, pp⟩ := sig_at hsig (i := 6) rfl
      refine ⟨o, ho, gg, dd, (by intro c h; rw [pp] at h; cases h), fun L a hc hn hl => ?_⟩
      have e1 : a.tmps.getD 61 undef = _ := hc.vals 3 (by decide) (hn 3 (by simp [needs11]))
      simp [val11] at e1
      have e2 : a.tmps.getD 63 undef = _ := hc.vals 5 (by decide) (hn 5 (by simp [needs11]))
      simp [val11] at e2
      simp [execOp, pp, Act.eval, e1, go_sem, val11, e2]
    | 7, _ =>
      obtain ⟨o, ho, gg, dd, pp⟩ := sig_at hsig (i := 7) rfl
      refine ⟨o, ho, gg, dd, (by intro c h; rw [pp] at h; cases h), fun L a hc hn hl => ?_⟩
      have e1 : a.tmps.getD 58 undef = _ := hc.vals 0 (by decide) (hn 0 (by simp [needs11]))
      simp [val11] at e1
      simp [execOp, pp, Act.eval, e1, go_sem, val11]
    | 8, _ =>
      obtain ⟨o, ho, gg, dd, pp⟩ := sig_at hsig (i := 8) rfl
      refine ⟨o, ho, gg, dd, (by intro c h; rw [pp] at h; cases h), fun L a hc hn hl => ?_⟩
      have e1 : a.tmps.getD 65 undef = _ := hc.vals 7 (by decide) (hn 7 (by simp [needs11]))
      simp [val11] at e1
      simp [execOp, pp, Act.eval, e1, go_sem, val11]
  · obtain ⟨o, ho, gg, dd, pp⟩ := sig_at hsig (i := 9) rfl
    refine ⟨o, ho, gg, dd, (by intro c h; rw [pp] at h; cases h), fun L a hc hn hl => ?_⟩
    have e1 : a.tmps.getD 66 undef = _ := hc.vals 8 (by decide) (hn 8 (by decide))
    have e2 : a.tmps.getD 64 undef = _ := hc.vals 6 (by decide) (hn 6 (by decide))
    simp [val11] at e1 e2
    simp [execOp, pp, Act.eval, e1, e2, go_sem, hpb, hfz]
end Go.Proofs.YbulkcbvsFmt
