/-
  zzs3899cnew and count.
-/
import Derived.Test.YbulkcbsmQBase
namespace Go.Proofs.Ybulkcbsm
open Go.RowKit Go.MuLone

set_option maxHeartbeats 1000000 in
theorem new_q (hold held : Int) (w : World) :
    Calls Yba.prog 5 #[.int .i64 hold, .int .i64 held] w fun e W => e = .returned (.pointer (some ⟨w.heap.size, 0, none⟩)) ∧ Q w.heap.size w W hold held 0 := by
  go_enter Yba.func5, Yba.ntmps5
  go_wp2
  go_ret
  refine ⟨rfl, ?_⟩
  constructor
  case g => exact (Grown.refl _).alloc _ _
  case bl => exact (Below.refl _ _).alloc (Nat.le_refl _) _
  case hb => exact Nat.le_refl _
  case c9 => exact .inl (by simp [go_sem])
  case c16 => exact .inl (by simp [go_sem])
  all_goals simp [go_sem]

set_option maxHeartbeats 1000000 in
theorem count_pos {b : Nat} {w W : World} {hold held : Int} (n : Int) (q : Q b w W hold held 1) (hn : 0 ≤ n) :
    Calls Yba.prog 7 #[.pointer (some ⟨b, 0, none⟩), .int .i64 n] W fun e W' => e = .returned (.tuple #[]) ∧ Q b w W' hold (wrap64 (held + n)) 1 := by
  have c28 := q.c28
  have f28 := q.fz 28
  go_enter Yba.func7, Yba.ntmps7
  go_wp2
  refine bodyPost_ret (results_none rfl _ _ _) rfl ?_
  exact ⟨rfl, q.setHeld _⟩

set_option maxHeartbeats 1000000 in
theorem count_neg {b : Nat} {w W : World} {hold held : Int} (n : Int) (q : Q b w W hold held 1) (hn : n < 0) :
    Calls Yba.prog 7 #[.pointer (some ⟨b, 0, none⟩), .int .i64 n] W fun e W' => e = .returned (.tuple #[]) ∧ Q b w W' hold (wrap64 (held + n)) 1 := by
  have c28 := q.c28
  have f28 := q.fz 28
  go_enter Yba.func7, Yba.ntmps7
  go_wp2_with (go_at_call 10; refine (broadcast_room (q.setHeld (wrap64 (held + n)))).mono ?_; rintro e W1 ⟨rfl, q1⟩)
  have d0 := q1.c0
  have d28 := q1.c28
  by_cases h1 : hold ≤ held
  · by_cases h2 : wrap64 (held + n) < hold
    · go_quiet (fail)
      go_wp2_with (go_at_call 10; refine (broadcast_free (q1.drewN _)).mono ?_; rintro e W2 ⟨rfl, q2⟩)
      go_end0
      exact ⟨rfl, q2⟩
    · go_quiet (fail)
      go_wp2
      go_end0
      exact ⟨rfl, q1.drewN _⟩
  · have hd : decide (hold ≤ held) = false := by simpa using h1
    go_quiet (fail)
    go_wp2
    go_end0
    exact ⟨rfl, q1.drewN _⟩

theorem count_any {b : Nat} {w W : World} {hold held : Int} (n : Int) (q : Q b w W hold held 1) :
    Calls Yba.prog 7 #[.pointer (some ⟨b, 0, none⟩), .int .i64 n] W fun e W' => e = .returned (.tuple #[]) ∧ Q b w W' hold (wrap64 (held + n)) 1 := by
  by_cases hn : 0 ≤ n
  · exact count_pos n q hn
  · exact count_neg n q (by omega)
end Go.Proofs.Ybulkcbsm
