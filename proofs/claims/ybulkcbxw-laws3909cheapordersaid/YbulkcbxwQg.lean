/-
  Seat b3909a: container/heap over the timers: up.
-/
import Derived.Test.YbulkcbxwQe
import Derived.Test.YbulkcbxwQf
namespace Go.Proofs.Ybulkcbxw
open Go.RowKit

theorem mLess (v : Value) (w : World) : (Go.method 183 36 v "Less").run Yba.prog w = .ok (28, v) w := by kernel_rfl
theorem mPush (v : Value) (w : World) : (Go.method 183 36 v "Push").run Yba.prog w = .ok (29, v) w := by kernel_rfl
theorem mSwap (v : Value) (w : World) : (Go.method 183 36 v "Swap").run Yba.prog w = .ok (30, v) w := by kernel_rfl
theorem mLen (v : Value) (w : World) : (Go.method 183 36 v "Len").run Yba.prog w = .ok (7, v) w := by kernel_rfl
theorem mPop (v : Value) (w : World) : (Go.method 183 36 v "Pop").run Yba.prog w = .ok (5, v) w := by kernel_rfl

set_option maxRecDepth 100000 in
set_option maxHeartbeats 2000000 in
theorem up_tm {T : Nat} {w : World} {g cap s : Nat} {f : Nat → Tm} {sq : Int} (h : HS T w g cap s f sq) (j : Nat) (hj : j < s) (hs : s ≤ 1024) (hu : UpInv f s j) :
    Calls Yba.prog 11 #[.iface 36 (.pointer (some ⟨T, 0, none⟩)), .int .i64 j] w fun e w' => e = .returned (.tuple #[]) ∧ ∃ f', HS T w' g cap s f' sq ∧ Kept T g w w' ∧ Heap f' s ∧ Arr s f f' := by
  have m1 := mLess
  have m2 := mSwap
  go_enter Yba.func11, Yba.ntmps11
  go_wp2
  go_loopw [1, 4] (fun jv _ W => ∃ (k : Nat) (f1 : Nat → Tm), k < s ∧ jv = .int .i64 k ∧ HS T W g cap s f1 sq ∧ Kept T g w W ∧ UpInv f1 s k ∧ Arr s f f1) (fun jv _ _ => (intOf jv).toNat)
  case atStart => exact ⟨j, f, hj, rfl, h, Kept.refl _ _ _, hu, Arr.refl _ _⟩
  case round =>
    obtain ⟨k, f1, hk, rfl, hH, kp, hU, hA⟩ := hrel
    clear h hu
    cases k with
    | zero =>
      go_wp2
      go_end0
      exact ⟨rfl, f1, hH, kp, hU.done (.inl rfl), hA⟩
    | succ m =>
      have hp : m / 2 < s := by omega
      have he : ((m / 2 : Nat) : Int) ≠ (m : Int) + 1 := by omega
      by_cases hl : lt (f1 (m + 1)) (f1 (m / 2))
      · have hd : decide (lt (f1 (m + 1)) (f1 (m / 2))) = true := decide_eq_true hl
        go_wp2_with (first
          | (go_at_call 28; refine (less_tm hH (m + 1) (m / 2) hk hp hs).mono ?_; rintro e w2 ⟨rfl, bl2⟩)
          | (go_at_call 30; refine (swap_tm (hH.new bl2) (m / 2) (m + 1) hp hk hs).mono ?_; rintro e w3 ⟨rfl, hH3, kp3⟩))
        go_roundw
        case rel => exact ⟨m / 2, sw f1 (m / 2) (m + 1), hp, by go_num, hH3, (kp.trans (Kept.of_below bl2)).trans kp3, hU.step (Nat.succ_pos _) hk hl, hA.trans (Arr.sw hp hk)⟩
        case measure => simp [intOf]; omega
      · have hd : decide (lt (f1 (m + 1)) (f1 (m / 2))) = false := decide_eq_false hl
        go_wp2_with (go_at_call 28; refine (less_tm hH (m + 1) (m / 2) hk hp hs).mono ?_; rintro e w2 ⟨rfl, bl2⟩)
        go_end0
        exact ⟨rfl, f1, hH.new bl2, kp.trans (Kept.of_below bl2), hU.done (.inr hl), hA⟩
end Go.Proofs.Ybulkcbxw
