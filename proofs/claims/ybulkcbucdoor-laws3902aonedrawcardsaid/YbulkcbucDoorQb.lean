/-
  Seat b3902aD: the walks of the two laws.
-/
import Derived.Test.YbulkcbucDoorQa
namespace Go.Proofs.YbulkcbucDoor
open Go.RowKit

theorem Wts.of_below {w w' : World} (h : Wts w) (b : Below w.heap.size w w') : Wts w' := by
  obtain ⟨g0, g1, g2, g3⟩ := h
  exact ⟨(b.cell (World.block_lt_of_cell? _ _ g0)).trans g0, (b.cell (World.block_lt_of_cell? _ _ g1)).trans g1, (b.cell (World.block_lt_of_cell? _ _ g2)).trans g2, (b.cell (World.block_lt_of_cell? _ _ g3)).trans g3⟩
theorem Wts.pos {w : World} (h : Wts w) : 0 < w.heap.size := Nat.lt_of_le_of_lt (Nat.zero_le _) (World.block_lt_of_cell? _ _ h.1)

theorem hide {p : Prop} (h : p) : Hid p := h
theorem unhide {p : Prop} (h : Hid p) : p := h

theorem goldS_is (z : Int) : IntKind.u64.wrap (z + 11400714819323198485) = goldS z := by unfold goldS; rfl

set_option maxHeartbeats 1000000 in
theorem law_one (z : Int) (w : World) (hw : Wts w) :
    Calls Ybad.prog 3 #[.int .u64 z] w fun e w' => e = .returned (.bool true) ∧ Below w.heap.size w w' := by
  have hlo := goldS_lo z
  have hml := mixS_lo (goldS z)
  have hgo := goldS_is z
  go_enter Ybad.func3, Ybad.ntmps3
  go_wp2_with fail
  refine (draw_any w.heap.size (w.heap.size + 1) z _ (by simp [go_sem]) (by simp [go_sem]) (by simp [go_sem]) (hw.of_below (((Below.refl _ _).alloc (Nat.le_refl _) _).alloc (by simp) _)) hw.pos).mono ?_
  rintro e w' ⟨rfl, rfl⟩
  go_wp2_with fail
  refine (mix_any (goldS z) _ hlo).mono ?_
  rintro e w' ⟨rfl, rfl⟩
  go_wp2_with fail
  refine (kind_any _ _ hml).mono ?_
  rintro e w' ⟨rfl, rfl⟩
  go_wp2
  go_ret
  exact ⟨rfl, ((Below.refl _ _).alloc (Nat.le_refl _) _).alloc (by simp) _⟩

/-- The maker and its source in the world: the source's state is x. -/
structure Mk (w W : World) (x : Int) : Prop where
  bl : Below w.heap.size w W
  cs : W.cell? ⟨w.heap.size, 0, none⟩ = some (.int .u64 x)
  fs : W.frozen? ⟨w.heap.size, 0, none⟩ = false
  cm : W.cell? ⟨w.heap.size + 1, 0, none⟩ = some (.pointer (some ⟨w.heap.size, 0, none⟩))

theorem Mk.step {w W : World} {x : Int} (m : Mk w W x) (y : Int) : Mk w (W.setCell ⟨w.heap.size, 0, none⟩ (.int .u64 y)) y :=
  ⟨m.bl.setCell (Nat.le_refl _) _, World.cell?_setCell_same W _ _ m.cs, by simp [m.fs], (World.cell?_setCell_other W _ _ _ (fun e => by simp at e)).trans m.cm⟩

theorem kindS_bd (r : Int) : 0 ≤ kindS r ∧ kindS r ≤ 3 := by unfold kindS; split <;> (try split) <;> (try split) <;> omega

set_option maxHeartbeats 1000000 in
theorem law_stream (z n : Int) (w : World) (hw : Wts w) (hn : 0 ≤ n) (hn2 : n ≤ 65535) :
    Calls Ybad.prog 4 #[.int .u64 z, .int .u16 n] w fun e w' => e = .returned (.bool true) ∧ Below w.heap.size w w' := by
  go_enter Ybad.func4, Ybad.ntmps4
  go_wp2
  go_loopw [8, 9] (fun t i W => ∃ (k : Nat) (x : Int), (k : Int) ≤ n % 400 ∧ i = .int .i64 k ∧ t = .int .u64 x ∧ Mk w W x) (fun _ i _ => (n % 400).toNat - (intOf i).toNat)
  case atStart => exact ⟨0, z, by omega, rfl, rfl, ((Below.refl _ _).alloc (Nat.le_refl _) _).alloc (by simp) _, by simp [go_sem], by simp [go_sem], by simp [go_sem]⟩
  case round =>
    obtain ⟨k, x, hk, rfl, rfl, m⟩ := hrel
    by_cases hlt : (k : Int) < n % 400
    · obtain ⟨y, hy⟩ : ∃ y, goldS x = y := ⟨_, rfl⟩
      obtain ⟨q, hq⟩ : ∃ q, mixS y = q := ⟨_, rfl⟩
      obtain ⟨r, hr⟩ : ∃ r, kindS q = r := ⟨_, rfl⟩
      have hlo : 0 ≤ y := hy ▸ goldS_lo x
      have hml : 0 ≤ q := hq ▸ mixS_lo y
      have hk0 : 0 ≤ r := hr ▸ (kindS_bd q).1
      have hk3 : r ≤ 3 := hr ▸ (kindS_bd q).2
      have hgo : IntKind.u64.wrap (x + 11400714819323198485) = y := (goldS_is x).trans hy
      have m' := m.step y
      have D := fun (w' : World) (c : w'.cell? ⟨w.heap.size, 0, none⟩ = some (.int .u64 x)) f cm hw' => draw_any w.heap.size (w.heap.size + 1) x w' c f cm hw' hw.pos
      have M := fun w' => mix_any y w' hlo
      have K := fun w' => kind_any q w' hml
      rw [hy, hq, hr] at D
      rw [hq] at M
      rw [hr] at K
      have HD := hide D
      have HM := hide M
      have HK := hide K
      clear D M K hy hq hr
      go_wp2_with fail
      refine (unhide HD _ m.cs m.fs m.cm (hw.of_below m.bl)).mono ?_
      rintro e w' ⟨rfl, rfl⟩
      go_wp2_with fail
      refine (unhide HM _).mono ?_
      rintro e w' ⟨rfl, rfl⟩
      go_wp2_with fail
      refine (unhide HK _).mono ?_
      rintro e w' ⟨rfl, rfl⟩
      have cs := m'.cs
      go_wp2
      go_roundw
      case rel => exact ⟨k + 1, _, by omega, by go_num, rfl, m'⟩
      case measure => simp [intOf]; omega
    · have cs := m.cs
      go_wp2
      go_ret
      exact ⟨rfl, m.bl⟩
end Go.Proofs.YbulkcbucDoor
