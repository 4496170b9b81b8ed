/-
  The Queue that the two laws make, as a predicate on the world; the contracts of zzs3899cnew, Lock, Unlock, Broadcast and count over it.
-/
import Derived.Test.YbulkcbsmQLocks
import Derived.ProofKit
import Derived.Deep.QuietTactic
import Derived.BigQuiet
namespace Go.Proofs.Ybulkcbsm
open Go.RowKit Go.MuLone

/-- A cell of sync.Cond's copy checker at its own address: not yet used, or used here. -/
def Ck (W : World) (a : Addr) : Prop := W.cell? a = some (.int .u64 0) ∨ W.cell? a = some (.pointer (some a))

/-- W holds, in the block b, the Queue with these three numbers, and nothing of w has turned. -/
structure Q (b : Nat) (w W : World) (hold held m : Int) : Prop where
  g : Grown w W
  bl : Below w.heap.size w W
  hb : w.heap.size ≤ b
  fz : ∀ o, W.frozen? ⟨b, o, none⟩ = false
  c0 : W.cell? ⟨b, 0, none⟩ = some (.int .i64 hold)
  c1 : W.cell? ⟨b, 1, none⟩ = some (.int .i32 m)
  c4 : W.cell? ⟨b, 4, none⟩ = some (.int .u32 0)
  c5 : W.cell? ⟨b, 5, none⟩ = some (.int .u32 0)
  c9 : Ck W ⟨b, 9, none⟩
  c11 : W.cell? ⟨b, 11, none⟩ = some (.int .u32 0)
  c12 : W.cell? ⟨b, 12, none⟩ = some (.int .u32 0)
  c16 : Ck W ⟨b, 16, none⟩
  c24 : W.cell? ⟨b, 24, none⟩ = some (.slice none 0 0)
  c25 : W.cell? ⟨b, 25, none⟩ = some (.slice none 0 0)
  c26 : W.cell? ⟨b, 26, none⟩ = some (.slice none 0 0)
  c27 : W.cell? ⟨b, 27, none⟩ = some (.int .i64 0)
  c28 : W.cell? ⟨b, 28, none⟩ = some (.int .i64 held)
  c29 : W.cell? ⟨b, 29, none⟩ = some (.bool false)

theorem cell_other {W : World} {b o o' : Nat} {v : Value} (h : o ≠ o') : (W.setCell ⟨b, o, none⟩ v).cell? ⟨b, o', none⟩ = W.cell? ⟨b, o', none⟩ :=
  World.cell?_setCell_other W _ _ v (fun e => h (congrArg Addr.off e))

theorem ck_other {W : World} {b o o' : Nat} {v : Value} (h : o ≠ o') (k : Ck W ⟨b, o', none⟩) : Ck (W.setCell ⟨b, o, none⟩ v) ⟨b, o', none⟩ := by
  unfold Ck; rw [cell_other h]; exact k

theorem Q.setHeld {b : Nat} {w W : World} {hold held m : Int} (q : Q b w W hold held m) (x : Int) : Q b w (W.setCell ⟨b, 28, none⟩ (.int .i64 x)) hold x m where
  g := q.g.setCell q.hb _
  bl := q.bl.setCell q.hb _
  hb := q.hb
  fz := fun o => by simp [q.fz]
  c0 := (cell_other (by decide)).trans q.c0
  c1 := (cell_other (by decide)).trans q.c1
  c4 := (cell_other (by decide)).trans q.c4
  c5 := (cell_other (by decide)).trans q.c5
  c9 := ck_other (by decide) q.c9
  c11 := (cell_other (by decide)).trans q.c11
  c12 := (cell_other (by decide)).trans q.c12
  c16 := ck_other (by decide) q.c16
  c24 := (cell_other (by decide)).trans q.c24
  c25 := (cell_other (by decide)).trans q.c25
  c26 := (cell_other (by decide)).trans q.c26
  c27 := (cell_other (by decide)).trans q.c27
  c28 := World.cell?_setCell_same W _ _ q.c28
  c29 := (cell_other (by decide)).trans q.c29

theorem Q.setMu {b : Nat} {w W : World} {hold held m : Int} (q : Q b w W hold held m) (x : Int) : Q b w (W.setCell ⟨b, 1, none⟩ (.int .i32 x)) hold held x where
  g := q.g.setCell q.hb _
  bl := q.bl.setCell q.hb _
  hb := q.hb
  fz := fun o => by simp [q.fz]
  c0 := (cell_other (by decide)).trans q.c0
  c1 := World.cell?_setCell_same W _ _ q.c1
  c4 := (cell_other (by decide)).trans q.c4
  c5 := (cell_other (by decide)).trans q.c5
  c9 := ck_other (by decide) q.c9
  c11 := (cell_other (by decide)).trans q.c11
  c12 := (cell_other (by decide)).trans q.c12
  c16 := ck_other (by decide) q.c16
  c24 := (cell_other (by decide)).trans q.c24
  c25 := (cell_other (by decide)).trans q.c25
  c26 := (cell_other (by decide)).trans q.c26
  c27 := (cell_other (by decide)).trans q.c27
  c28 := (cell_other (by decide)).trans q.c28
  c29 := (cell_other (by decide)).trans q.c29

theorem ck_same {W : World} {a : Addr} (k : Ck W a) : Ck (W.setCell a (.pointer (some a))) a := by
  rcases k with k | k
  · exact .inr (World.cell?_setCell_same W _ _ k)
  · exact .inr (World.cell?_setCell_same W _ _ k)

theorem Q.setFree {b : Nat} {w W : World} {hold held m : Int} (q : Q b w W hold held m) : Q b w (W.setCell ⟨b, 9, none⟩ (.pointer (some ⟨b, 9, none⟩))) hold held m where
  g := q.g.setCell q.hb _
  bl := q.bl.setCell q.hb _
  hb := q.hb
  fz := fun o => by simp [q.fz]
  c0 := (cell_other (by decide)).trans q.c0
  c1 := (cell_other (by decide)).trans q.c1
  c4 := (cell_other (by decide)).trans q.c4
  c5 := (cell_other (by decide)).trans q.c5
  c9 := ck_same q.c9
  c11 := (cell_other (by decide)).trans q.c11
  c12 := (cell_other (by decide)).trans q.c12
  c16 := ck_other (by decide) q.c16
  c24 := (cell_other (by decide)).trans q.c24
  c25 := (cell_other (by decide)).trans q.c25
  c26 := (cell_other (by decide)).trans q.c26
  c27 := (cell_other (by decide)).trans q.c27
  c28 := (cell_other (by decide)).trans q.c28
  c29 := (cell_other (by decide)).trans q.c29

theorem Q.setRoom {b : Nat} {w W : World} {hold held m : Int} (q : Q b w W hold held m) : Q b w (W.setCell ⟨b, 16, none⟩ (.pointer (some ⟨b, 16, none⟩))) hold held m where
  g := q.g.setCell q.hb _
  bl := q.bl.setCell q.hb _
  hb := q.hb
  fz := fun o => by simp [q.fz]
  c0 := (cell_other (by decide)).trans q.c0
  c1 := (cell_other (by decide)).trans q.c1
  c4 := (cell_other (by decide)).trans q.c4
  c5 := (cell_other (by decide)).trans q.c5
  c9 := ck_other (by decide) q.c9
  c11 := (cell_other (by decide)).trans q.c11
  c12 := (cell_other (by decide)).trans q.c12
  c16 := ck_same q.c16
  c24 := (cell_other (by decide)).trans q.c24
  c25 := (cell_other (by decide)).trans q.c25
  c26 := (cell_other (by decide)).trans q.c26
  c27 := (cell_other (by decide)).trans q.c27
  c28 := (cell_other (by decide)).trans q.c28
  c29 := (cell_other (by decide)).trans q.c29

theorem Q.drewN {b : Nat} {w W : World} {hold held m : Int} (q : Q b w W hold held m) (n : Nat) : Q b w (W.drewN n) hold held m :=
  ⟨q.g, ⟨q.bl.os, q.bl.tape, q.bl.output, q.bl.size, q.bl.block⟩, q.hb, q.fz, q.c0, q.c1, q.c4, q.c5, q.c9, q.c11, q.c12, q.c16, q.c24, q.c25, q.c26, q.c27, q.c28, q.c29⟩

theorem lock_q {b : Nat} {w W : World} {hold held : Int} (q : Q b w W hold held 0) :
    Calls Yba.prog 6 #[.pointer (some ⟨b, 1, none⟩)] W fun e W' => e = .returned (.tuple #[]) ∧ Q b w W' hold held 1 :=
  (lock_free muLib ⟨b, 1, none⟩ W q.c1 (q.fz 1)).mono (by rintro e W' ⟨rfl, rfl⟩; exact ⟨rfl, q.setMu 1⟩)

theorem unlock_q {b : Nat} {w W : World} {hold held : Int} (q : Q b w W hold held 1) :
    Calls Yba.prog 8 #[.pointer (some ⟨b, 1, none⟩)] W fun e W' => e = .returned (.tuple #[]) ∧ Q b w W' hold held 0 :=
  (unlock_held muLib ⟨b, 1, none⟩ W q.c1 (q.fz 1)).mono (by rintro e W' ⟨rfl, rfl⟩; exact ⟨rfl, q.setMu 0⟩)

/-- (*sync.Cond).Broadcast where nobody waits: at most the checker's cell turns. -/
theorem broadcast_any (b o : Nat) (W : World) (h1 : W.cell? ⟨b, o + 1, none⟩ = some (.int .u32 0)) (h2 : W.cell? ⟨b, o + 2, none⟩ = some (.int .u32 0))
    (h6 : Ck W ⟨b, o + 6, none⟩) (hz : W.frozen? ⟨b, o + 6, none⟩ = false) :
    Calls Yba.prog 10 #[.pointer (some ⟨b, o, none⟩)] W fun e W' => e = .returned (.tuple #[]) ∧ (W' = W ∨ W' = W.setCell ⟨b, o + 6, none⟩ (.pointer (some ⟨b, o + 6, none⟩))) := by
  rcases h6 with h6 | h6
  · have e1 := check_first h6 hz
    have e2 := notify_none (b := b) (o := o + 1) (w := W.setCell ⟨b, o + 6, none⟩ (.pointer (some ⟨b, o + 6, none⟩))) ((cell_other (by omega)).trans h1) ((cell_other (by omega)).trans h2)
    go_enter Yba.func10, Yba.ntmps10
    go_wp2
    go_end0
    exact ⟨rfl, .inr rfl⟩
  · have e1 := check_later h6
    have e2 := notify_none (b := b) (o := o + 1) (w := W) h1 h2
    go_enter Yba.func10, Yba.ntmps10
    go_wp2
    go_end0
    exact ⟨rfl, .inl rfl⟩

theorem broadcast_room {b : Nat} {w W : World} {hold held m : Int} (q : Q b w W hold held m) :
    Calls Yba.prog 10 #[.pointer (some ⟨b, 10, none⟩)] W fun e W' => e = .returned (.tuple #[]) ∧ Q b w W' hold held m :=
  (broadcast_any b 10 W q.c11 q.c12 q.c16 (q.fz _)).mono (by
    rintro e W' ⟨rfl, rfl | rfl⟩
    · exact ⟨rfl, q⟩
    · exact ⟨rfl, q.setRoom⟩)

theorem broadcast_free {b : Nat} {w W : World} {hold held m : Int} (q : Q b w W hold held m) :
    Calls Yba.prog 10 #[.pointer (some ⟨b, 3, none⟩)] W fun e W' => e = .returned (.tuple #[]) ∧ Q b w W' hold held m :=
  (broadcast_any b 3 W q.c4 q.c5 q.c9 (q.fz _)).mono (by
    rintro e W' ⟨rfl, rfl | rfl⟩
    · exact ⟨rfl, q⟩
    · exact ⟨rfl, q.setFree⟩)
end Go.Proofs.Ybulkcbsm
