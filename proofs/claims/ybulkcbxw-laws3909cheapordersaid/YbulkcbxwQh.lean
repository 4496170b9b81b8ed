/-
  Seat b3909a: container/heap over the timers: down.
-/
import Derived.Test.YbulkcbxwQg
namespace Go.Proofs.Ybulkcbxw
open Go.RowKit

theorem less_i {T : Nat} {w : World} {g cap s : Nat} {f : Nat → Tm} {sq : Int} (h : HS T w g cap s f sq) (i j : Nat) {x y : Int} (hx : x = (i : Int)) (hy : y = (j : Int)) (hi : i < s) (hj : j < s) (hs : s ≤ 1024) :
    Calls Yba.prog 28 #[.pointer (some ⟨T, 0, none⟩), .int .i64 x, .int .i64 y] w fun e w' => e = .returned (.bool (decide (lt (f i) (f j)))) ∧ Below w.heap.size w w' := by
  subst hx hy; exact less_tm h i j hi hj hs
theorem swap_i {T : Nat} {w : World} {g cap s : Nat} {f : Nat → Tm} {sq : Int} (h : HS T w g cap s f sq) (i j : Nat) {x y : Int} (hx : x = (i : Int)) (hy : y = (j : Int)) (hi : i < s) (hj : j < s) (hs : s ≤ 1024) :
    Calls Yba.prog 30 #[.pointer (some ⟨T, 0, none⟩), .int .i64 x, .int .i64 y] w fun e w' => e = .returned (.tuple #[]) ∧ HS T w' g cap s (sw f i j) sq ∧ Kept T g w w' := by
  subst hx hy; exact swap_tm h i j hi hj hs

set_option maxRecDepth 100000 in
set_option maxHeartbeats 2000000 in
theorem down_tm {T : Nat} {w : World} {g cap s : Nat} {f : Nat → Tm} {sq : Int} (h : HS T w g cap s f sq) (n : Nat) (hn : n < s) (hs : s ≤ 1024) (hu : DownInv f n 0) :
    Calls Yba.prog 10 #[.iface 36 (.pointer (some ⟨T, 0, none⟩)), .int .i64 0, .int .i64 n] w fun e w' => (∃ b, e = .returned (.bool b)) ∧ ∃ f', HS T w' g cap s f' sq ∧ Kept T g w w' ∧ Heap f' n ∧ Arr n f f' := by
  have m1 := mLess
  have m2 := mSwap
  go_enter Yba.func10, Yba.ntmps10
  go_wp2
  go_loopw [7, 8, 9, 10] (fun iv _ _ _ W => ∃ (k : Nat) (f1 : Nat → Tm), (k < n ∨ k = 0) ∧ iv = .int .i64 k ∧ HS T W g cap s f1 sq ∧ Kept T g w W ∧ DownInv f1 n k ∧ Arr n f f1) (fun iv _ _ _ _ => n - (intOf iv).toNat)
  case atStart => exact ⟨0, f, .inr rfl, rfl, h, Kept.refl _ _ _, hu, Arr.refl _ _⟩
  case round =>
    obtain ⟨k, f1, hk, rfl, hH, kp, hU, hA⟩ := hrel
    clear h hu
    have hk1 : k < 1024 := by omega
    by_cases h1 : 2 * k + 1 < n
    · have h1' : ¬ ((n : Int) ≤ 2 * (k : Int) + 1) := by omega
      have h0' : ¬ (2 * (k : Int) + 1 < 0) := by omega
      have i1 : 2 * k + 1 < s := by omega
      have i0 : k < s := by omega
      by_cases h2 : 2 * k + 2 < n
      · have h2' : 2 * (k : Int) + 1 + 1 < (n : Int) := by omega
        have i2 : 2 * k + 2 < s := by omega
        by_cases hl : lt (f1 (2 * k + 2)) (f1 (2 * k + 1))
        · have hd : decide (lt (f1 (2 * k + 2)) (f1 (2 * k + 1))) = true := decide_eq_true hl
          have hmin : ∀ c, 0 < c → c < n → (c - 1) / 2 = k → le (f1 (2 * k + 2)) (f1 c) := fun c h0 hc hp => by
            rcases (by omega : c = 2 * k + 1 ∨ c = 2 * k + 2) with rfl | rfl
            · exact le_of_lt hl
            · exact le_refl' _
          by_cases hm : lt (f1 (2 * k + 2)) (f1 k)
          · have hdm : decide (lt (f1 (2 * k + 2)) (f1 k)) = true := decide_eq_true hm
            go_wp2_with (first
                        | (go_at_call 28; refine (less_i hH (2 * k + 2) (2 * k + 1) (by omega) (by omega) i2 i1 hs).mono ?_; rintro e w2 ⟨rfl, bl2⟩)
                        | (go_at_call 28; refine (less_i (hH.new bl2) (2 * k + 2) k (by omega) (by omega) i2 i0 hs).mono ?_; rintro e w3 ⟨rfl, bl3⟩)
                        | (go_at_call 30; refine (swap_i ((hH.new bl2).new bl3) k (2 * k + 2) (by omega) (by omega) i0 i2 hs).mono ?_; rintro e w4 ⟨rfl, hH4, kp4⟩))
            go_roundw
            case rel => exact ⟨2 * k + 2, sw f1 k (2 * k + 2), .inl (by omega), by go_num, hH4, ((kp.trans (Kept.of_below bl2)).trans (Kept.of_below bl3)).trans kp4, hU.step (by omega) (by omega) (by omega) hmin hm, hA.trans (Arr.sw (by omega) (by omega))⟩
            case measure => simp [intOf]; omega
          · have hdm : decide (lt (f1 (2 * k + 2)) (f1 k)) = false := decide_eq_false hm
            go_wp2_with (first
                        | (go_at_call 28; refine (less_i hH (2 * k + 2) (2 * k + 1) (by omega) (by omega) i2 i1 hs).mono ?_; rintro e w2 ⟨rfl, bl2⟩)
                        | (go_at_call 28; refine (less_i (hH.new bl2) (2 * k + 2) k (by omega) (by omega) i2 i0 hs).mono ?_; rintro e w3 ⟨rfl, bl3⟩))
            go_ret
            exact ⟨⟨_, rfl⟩, f1, ((hH.new bl2).new bl3), ((kp.trans (Kept.of_below bl2)).trans (Kept.of_below bl3)), hU.done (fun c h0 hc hp => le_trans' hm (hmin c h0 hc hp)), hA⟩
        · have hd : decide (lt (f1 (2 * k + 2)) (f1 (2 * k + 1))) = false := decide_eq_false hl
          have hmin : ∀ c, 0 < c → c < n → (c - 1) / 2 = k → le (f1 (2 * k + 1)) (f1 c) := fun c h0 hc hp => by
            rcases (by omega : c = 2 * k + 1 ∨ c = 2 * k + 2) with rfl | rfl
            · exact le_refl' _
            · exact hl
          by_cases hm : lt (f1 (2 * k + 1)) (f1 k)
          · have hdm : decide (lt (f1 (2 * k + 1)) (f1 k)) = true := decide_eq_true hm
            go_wp2_with (first
                        | (go_at_call 28; refine (less_i hH (2 * k + 2) (2 * k + 1) (by omega) (by omega) i2 i1 hs).mono ?_; rintro e w2 ⟨rfl, bl2⟩)
                        | (go_at_call 28; refine (less_i (hH.new bl2) (2 * k + 1) k (by omega) (by omega) i1 i0 hs).mono ?_; rintro e w3 ⟨rfl, bl3⟩)
                        | (go_at_call 30; refine (swap_i ((hH.new bl2).new bl3) k (2 * k + 1) (by omega) (by omega) i0 i1 hs).mono ?_; rintro e w4 ⟨rfl, hH4, kp4⟩))
            go_roundw
            case rel => exact ⟨2 * k + 1, sw f1 k (2 * k + 1), .inl (by omega), by go_num, hH4, ((kp.trans (Kept.of_below bl2)).trans (Kept.of_below bl3)).trans kp4, hU.step (by omega) (by omega) (by omega) hmin hm, hA.trans (Arr.sw (by omega) (by omega))⟩
            case measure => simp [intOf]; omega
          · have hdm : decide (lt (f1 (2 * k + 1)) (f1 k)) = false := decide_eq_false hm
            go_wp2_with (first
                        | (go_at_call 28; refine (less_i hH (2 * k + 2) (2 * k + 1) (by omega) (by omega) i2 i1 hs).mono ?_; rintro e w2 ⟨rfl, bl2⟩)
                        | (go_at_call 28; refine (less_i (hH.new bl2) (2 * k + 1) k (by omega) (by omega) i1 i0 hs).mono ?_; rintro e w3 ⟨rfl, bl3⟩))
            go_ret
            exact ⟨⟨_, rfl⟩, f1, ((hH.new bl2).new bl3), ((kp.trans (Kept.of_below bl2)).trans (Kept.of_below bl3)), hU.done (fun c h0 hc hp => le_trans' hm (hmin c h0 hc hp)), hA⟩
      · have h2' : ¬ (2 * (k : Int) + 1 + 1 < (n : Int)) := by omega
        have hmin : ∀ c, 0 < c → c < n → (c - 1) / 2 = k → le (f1 (2 * k + 1)) (f1 c) := fun c h0 hc hp => by
          obtain rfl : c = 2 * k + 1 := by omega
          exact le_refl' _
        by_cases hm : lt (f1 (2 * k + 1)) (f1 k)
        · have hdm : decide (lt (f1 (2 * k + 1)) (f1 k)) = true := decide_eq_true hm
          go_wp2_with (first
                      | (go_at_call 28; refine (less_i hH (2 * k + 1) k (by omega) (by omega) i1 i0 hs).mono ?_; rintro e w3 ⟨rfl, bl3⟩)
                      | (go_at_call 30; refine (swap_i (hH.new bl3) k (2 * k + 1) (by omega) (by omega) i0 i1 hs).mono ?_; rintro e w4 ⟨rfl, hH4, kp4⟩))
          go_roundw
          case rel => exact ⟨2 * k + 1, sw f1 k (2 * k + 1), .inl (by omega), by go_num, hH4, (kp.trans (Kept.of_below bl3)).trans kp4, hU.step (by omega) (by omega) (by omega) hmin hm, hA.trans (Arr.sw (by omega) (by omega))⟩
          case measure => simp [intOf]; omega
        · have hdm : decide (lt (f1 (2 * k + 1)) (f1 k)) = false := decide_eq_false hm
          go_wp2_with (go_at_call 28; refine (less_i hH (2 * k + 1) k (by omega) (by omega) i1 i0 hs).mono ?_; rintro e w3 ⟨rfl, bl3⟩)
          go_ret
          exact ⟨⟨_, rfl⟩, f1, (hH.new bl3), (kp.trans (Kept.of_below bl3)), hU.done (fun c h0 hc hp => le_trans' hm (hmin c h0 hc hp)), hA⟩
    · have h1' : (n : Int) ≤ 2 * (k : Int) + 1 := by omega
      go_wp2
      go_ret
      exact ⟨⟨_, rfl⟩, f1, hH, kp, hU.done (fun c h0 hc hp => by omega), hA⟩
end Go.Proofs.Ybulkcbxw
