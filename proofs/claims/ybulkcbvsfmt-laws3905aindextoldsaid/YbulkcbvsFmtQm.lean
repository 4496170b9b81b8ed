/-
  Seat b3905aF: the argument opened; the start that meets 'laid'.
-/
import Derived.Test.YbulkcbvsFmtQl
import Derived.Deep.SlicePairs
import Derived.LaidMore
import Derived.OpenVars
import Derived.OpenShut
import Derived.Stop.Joined
import Derived.Deep.DeepWitnessRef
namespace Go.Proofs.YbulkcbvsFmt
open Go.ChangeShapes Go.WideShapes Go.ChangeAt Go.RowKit

theorem own : ownKnob Ybaf.prog.godebug = none := by kernel_rfl

set_option maxRecDepth 100000 in
/-- What the walks are told of a list that came in. -/
theorem open_in {H : Type} {enc : TypeId × Value → H} {W : World} {v : Value} {r : Reach} {base : Nat} {d : DataW H} {p : List MemPlace} (hv : Value.okWide Ybaf.prog W r base 22 v) (h : DataW.Trod enc Ybaf.prog W 0 (fun _ => true) true 22 v d p) :
    v = .slice none 0 0 ∨ (∃ a cap, v = .slice (some a) 0 cap) ∨ ∃ b off n cap, ∃ nf rf : Nat → Int, v = .slice (some ⟨b, off, none⟩) n cap ∧ n ≤ maxLen ∧ InAt W b off n nf rf ∧ (∀ i, i < n → 0 ≤ nf i ∧ nf i ≤ 255) ∧ ∀ i, i < n → 0 ≤ rf i ∧ rf i ≤ 18446744073709551615 := by
  obtain ⟨a0, len0, cap0, rfl⟩ := okWide_slice Ybaf.underlying22 hv
  obtain ⟨fuel, hd⟩ := h
  rcases Go.Deep.open_slice_pairs Ybaf.underlying22 Ybaf.underlying65 (by kernel_rfl) rfl rfl (by kernel_rfl) (by kernel_rfl) hd with ⟨e, _⟩ | ⟨a, len, cap, m, n, V0, V1, D0, D1, P0, P1, e, _, hl, hm, hmm, _, hx⟩
  · left; simpa [Value.cells] using e
  · right
    have hmm' : m = cap := by simpa using hmm
    clear hmm
    subst hmm'
    have e' : Value.slice a0 len0 cap0 = .slice (some a) len m := by simpa [Value.cells] using e
    cases e'
    cases len0 with
    | zero => exact .inl ⟨a, _, rfl⟩
    | succ l =>
      right
      have hsp : a.spot = none := by
        have := World.cell?_spot (hx 0 (by omega)).1
        simpa [Addr.add] using this
      obtain ⟨b, off, sp⟩ := a
      simp only at hsp
      subst hsp
      have each : ∀ i, i < l + 1 → ∃ q : Int × Int, V0 i = .int .u8 q.1 ∧ V1 i = .int .u64 q.2 ∧ (0 ≤ q.1 ∧ q.1 ≤ 255) ∧ (0 ≤ q.2 ∧ q.2 ≤ 18446744073709551615) := fun i hi => by
        obtain ⟨_, _, h0, h1⟩ := hx i (by omega)
        obtain ⟨x, e0, _, w0⟩ := DataW.trod_int Ybaf.underlying5 h0
        obtain ⟨y, e1, _, w1⟩ := DataW.trod_int Ybaf.underlying26 h1
        exact ⟨(x, y), by simpa using e0, by simpa using e1, bounds_u8 w0, bounds_u64 w1⟩
      obtain ⟨q, hq⟩ := Go.Deep.choose_lt each
      refine ⟨b, off, l + 1, _, fun i => (q i).1, fun i => (q i).2, rfl, by omega, fun i hi => ?_, fun i hi => (hq i hi).2.2.1, fun i hi => (hq i hi).2.2.2⟩
      obtain ⟨c0, c1, _, _⟩ := hx i (by omega)
      rw [(hq i hi).1] at c0
      rw [(hq i hi).2.1] at c1
      rw [WideShapes.add_plain] at c0 c1
      exact ⟨c0, by rw [← Nat.add_assoc] at c1; exact c1⟩

theorem door_met (os : Os) (args : Array Value) : laidMetH Ybaf.prog Rows.lawS3905ACountsRow.laid ((World.doorLaid Ybaf.prog 400 os).forCall (fun _ _ => 0) ⟨#[], args, []⟩).memory :=
  laidMetH_of_parts3 (fuel := 8) (laidMet_of_run' 8 (by kernel_rfl) (by kernel_rfl)) (by kernel_rfl) (by kernel_rfl)
end Go.Proofs.YbulkcbvsFmt
