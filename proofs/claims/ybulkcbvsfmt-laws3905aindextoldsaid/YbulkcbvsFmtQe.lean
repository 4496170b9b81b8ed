/-
  Seat b3905aF: slices.Backward over the records: its iterator's contract.
-/
import Derived.Test.YbulkcbvsFmtQc
import Derived.Test.YbulkcbvsFmtQd
import Derived.RangeFuncNested
import Derived.RangeFuncBound
import Derived.RangeFuncCalls
import Derived.RangeFuncLeaves
import Derived.RangeFuncBox
import Derived.Shelf.Abstract
import Derived.OwnWalkIn
import Derived.TacticsInMore
import Derived.LoopNIn
import Derived.LoopIn
namespace Go.Proofs.YbulkcbvsFmt
open Go.RowKit Go.Shelf

attribute [local go_sem] Oper.semAt_some

theorem wpListIn_load_mid {F : Fence} {n : Nat} {P : Program} {ops : Array Oper} {rest : List Oper} {op : Oper} {a : Act} {w : World} {Q : Exit → Act → World → Prop} (hgd : op.guard = none) (ty : TypeId) (x : Operand) (ho : op.op = .load ty x)
    (b o : Nat) (hx : a.eval x = .pointer (some ⟨b, o, none⟩)) (cs : List Value) (d : TypeDesc) (hc : w.rangeAt b o cs)
    (hu : P.underlying ty = some d) (hd : d.isRow = true) (hi : (P.info? ty).map (·.size) = some cs.length)
    (h : wpListIn F n P ops Q rest (a.put op.dst (.agg cs.toArray)) w) : wpListIn F n P ops Q (op :: rest) a w :=
  wpListIn_plain hgd fun K hK => by
    unfold Oper.wpIn
    refine ⟨by simp [Oper.about, ho], ?_⟩
    rw [Oper.semAt_plain F _ _ (by rw [ho]; intro c hc'; cases hc')]
    unfold execOp
    simp only [ho, hx, Sem.run_bind, run_loadAt_mid w b o ty cs d hc hu hd hi, Result.andThen_ok, Sem.run_pure]
    exact hK _ _ h

/-- What has come when k rounds are over: n - 1, n - 2, .. -/
def down (n : Nat) : Nat → List (Fin n)
  | 0 => []
  | k + 1 => down n k ++ (if h : n - 1 - k < n then [⟨n - 1 - k, h⟩] else [])
theorem down_succ {n k m : Nat} (h : k + m + 1 = n) : down n (k + 1) = down n k ++ [⟨m, by omega⟩] := by
  have e : n - 1 - k = m := by omega
  subst e
  rw [down, dif_pos (by omega)]
theorem down_length {n : Nat} : ∀ k, k ≤ n → (down n k).length = k
  | 0, _ => rfl
  | k + 1, h => by rw [down_succ (m := n - 1 - k) (by omega), List.length_append, down_length k (by omega)]; rfl

/-- A record as yield's second argument. -/
def encs {n : Nat} (nm : Nat → List Int) (rf : Nat → Int) (x : Fin n) : Array Value := #[.int .i64 (x.1 : Int), .agg (recCells (nm x.1) (rf x.1)).toArray]

/-- What a round that goes on keeps: all that lay below n₀, and the iterator's own box. -/
def Kp (n₀ Bs : Nat) (A B : World) : Prop := Below n₀ A B ∧ B.cell? ⟨Bs, 0, none⟩ = A.cell? ⟨Bs, 0, none⟩
theorem Kp.trans {n₀ Bs : Nat} {A B C : World} (h : Kp n₀ Bs A B) (k : Kp n₀ Bs B C) : Kp n₀ Bs A C := ⟨h.1.trans k.1, k.2.trans h.2⟩

set_option maxRecDepth 100000 in
set_option maxHeartbeats 2000000 in
theorem back1_in (F : Fence) (d : Nat) (h17 : F.fn 17) (hro : F.round = none) (hd : 1 ≤ d) (l Bs n₀ R n : Nat) (nm : Nat → List Int) (rf : Nat → Int) (hn : n ≤ 1024) (hb : R < n₀) (hg : ∀ i, i < n → Good (nm i)) (J Jx : List (Fin n) → World → Prop)
    (hY : ∀ pre x W, J pre W → pre.length < n → YieldAt F (d - 1) Ybaf.prog l (encs nm rf x) W fun e W' =>
      (e = .returned (.bool true) ∧ J (pre ++ [x]) W' ∧ Kp n₀ Bs W W') ∨ (e = .returned (.bool false) ∧ Jx (pre ++ [x]) W'))
    (W : World) (hBs : W.cell? ⟨Bs, 0, none⟩ = some (.slice (some ⟨R, 0, none⟩) n n)) (hr : RecsAt W R n nm rf) (h0 : J [] W) :
    CallsIn F d Ybaf.prog 17 #[.func (.yield l) #[] #[], .pointer (some ⟨Bs, 0, none⟩)] W fun e W' => (∃ v, e = .returned v) ∧
      ((∃ ys, ys = down n n ∧ J ys W') ∨ (∃ pre, True ∧ Jx pre W')) := by
  refine callsIn_of_wp Ybaf.func17 rfl h17 ?_ hro
  simp only [Ybaf.ntmps17, List.size_toArray, List.length_cons, List.length_nil, Nat.reduceAdd, Nat.reduceSub, Array.replicate_succ, Array.replicate_zero, List.push_toArray, List.append_toArray, List.nil_append, List.cons_append]
  gi_wp2
  gi_loopw [3] (fun i wr => ∃ j k : Nat, k + j = n ∧ i = .int .i64 ((j : Int) - 1) ∧ J (down n k) wr ∧ Kp n₀ Bs W wr)
    (fun i _ => (intOf i + 1).toNat)
  case atStart => exact ⟨n, 0, by omega, rfl, h0, Below.refl _ _, rfl⟩
  case round =>
    obtain ⟨j, k, hk, rfl, hJs, hnx⟩ := hrel
    have hBs' := hnx.2.trans hBs
    cases j with
    | zero =>
      obtain rfl : k = n := by omega
      gi_wp2
      go_end0
      exact ⟨⟨_, rfl⟩, .inl ⟨_, rfl, hJs⟩⟩
    | succ m =>
      have e1 : (((m + 1 : Nat) : Int) - 1) = (m : Int) := by omega
      rw [e1]
      have hrm := hr.below hnx.1 hb m (by omega)
      have hgm := hg m (by omega)
      obtain ⟨fn, tmps, assign, body, hy, hR⟩ := hY _ ⟨m, by omega⟩ wr hJs (by rw [down_length k (by omega)]; omega)
      simp only [encs] at hy
      have hlen : Hid ((recCells (nm m) (rf m)).length = 33) := len_rec hgm (rf m)
      gi_wp2_with (
        refine wpListIn_load_mid ?_ 49 (.tmp 15) ?_ R (m * 33) ?_ (recCells (nm m) (rf m)) _ hrm Ybaf.underlying49 rfl ?_ ?_
        · exact rfl
        · exact rfl
        · exact rfl
        · exact size49.trans (by rw [hlen.out]))
      refine hR.mono ?_
      rintro e W3 (⟨rfl, hJ3, hk3⟩ | ⟨rfl, hJx3⟩)
      · gi_wp2
        go_roundw
        case rel => exact ⟨m, k + 1, by omega, rfl, by rw [down_succ (m := m) (by omega)]; exact hJ3, hnx.trans hk3⟩
        case measure => simp [intOf]
      · gi_wp2
        refine bodyPost_ret (results_none rfl _ _ _) rfl ?_
        exact ⟨⟨_, rfl⟩, .inr ⟨_, trivial, hJx3⟩⟩

set_option maxHeartbeats 1000000 in
theorem back_in (F : Fence) (d : Nat) (h12 : F.fn 12) (hro : F.round = none) (a : Option Addr) (len cap : Nat) (w : World) :
    CallsIn F d Ybaf.prog 12 #[.slice a len cap] w fun e w' => e = .returned (.func (.func 17) #[] #[.pointer (some ⟨w.heap.size, 0, none⟩)]) ∧ w' = w.alloc (.cells #[.slice a len cap] 23) := by
  refine callsIn_of_wp Ybaf.func12 rfl h12 ?_ hro
  simp only [Ybaf.ntmps12, List.size_toArray, List.length_cons, List.length_nil, Nat.reduceAdd, Nat.reduceSub, Array.replicate_succ, Array.replicate_zero, List.push_toArray, List.append_toArray, List.nil_append, List.cons_append]
  gi_wp2
  go_ret
  exact ⟨rfl, rfl⟩

set_option maxRecDepth 100000 in
set_option maxHeartbeats 1000000 in
/-- .. at the nil slice: no round. -/
theorem back1_nil_in (F : Fence) (d : Nat) (h17 : F.fn 17) (hro : F.round = none) (l Bs : Nat) (J : List (Fin 0) → World → Prop) (W : World) (hBs : W.cell? ⟨Bs, 0, none⟩ = some (.slice none 0 0)) (h0 : J [] W) :
    CallsIn F d Ybaf.prog 17 #[.func (.yield l) #[] #[], .pointer (some ⟨Bs, 0, none⟩)] W fun e W' => (∃ v, e = .returned v) ∧ J [] W' := by
  refine callsIn_of_wp Ybaf.func17 rfl h17 ?_ hro
  simp only [Ybaf.ntmps17, List.size_toArray, List.length_cons, List.length_nil, Nat.reduceAdd, Nat.reduceSub, Array.replicate_succ, Array.replicate_zero, List.push_toArray, List.append_toArray, List.nil_append, List.cons_append]
  gi_wp2
  gi_loopw [3] (fun i wr => i = .int .i64 (-1) ∧ J [] wr) (fun _ _ => 0)
  case atStart => exact ⟨rfl, h0⟩
  case round =>
    obtain ⟨rfl, hJs⟩ := hrel
    gi_wp2
    go_end0
    exact ⟨⟨_, rfl⟩, hJs⟩

/-- The slice value sv holds the n records, in a block below n₀; or it is nil and there are none. -/
def RecSl (n₀ : Nat) (W : World) (sv : Value) (n : Nat) (nm : Nat → List Int) (rf : Nat → Int) : Prop :=
  (sv = .slice none 0 0 ∧ n = 0) ∨ ∃ R, sv = .slice (some ⟨R, 0, none⟩) n n ∧ R < n₀ ∧ RecsAt W R n nm rf
theorem RecSl.below {n₀ : Nat} {A B : World} {sv : Value} {n : Nat} {nm : Nat → List Int} {rf : Nat → Int} (h : Below n₀ A B) : RecSl n₀ A sv n nm rf → RecSl n₀ B sv n nm rf
  | .inl e => .inl e
  | .inr ⟨R, e, hb, hc⟩ => .inr ⟨R, e, hb, hc.below h hb⟩

theorem back_stops (F : Fence) (d : Nat) (h17 : F.fn 17) (hro : F.round = none) (hd : 1 ≤ d) (Bs n₀ n : Nat) (sv : Value) (nm : Nat → List Int) (rf : Nat → Int) (hn : n ≤ 1024) (hg : ∀ i, i < n → Good (nm i)) (w : World) (hBs : Bs < w.heap.size) (hn₀ : n₀ ≤ w.heap.size)
    (hc : w.cell? ⟨Bs, 0, none⟩ = some sv) (hI : RecSl n₀ w sv n nm rf) :
    SeqStopsK F d Ybaf.prog 17 #[.pointer (some ⟨Bs, 0, none⟩)] (encs (n := n) nm rf) (Kp n₀ Bs) (fun ys => ys = down n n) (fun _ => True) n w := fun l J Jx W hW _ _ hY h0 => by
  have hc' := (hW.cell (p := ⟨Bs, 0, none⟩) hBs).trans hc
  rcases hI.below (hW.mono hn₀) with ⟨rfl, rfl⟩ | ⟨R, rfl, hb, hcs⟩
  · exact (back1_nil_in F d h17 hro l Bs J W hc' h0).mono fun e W' ⟨he, hj⟩ => ⟨he, .inl ⟨_, rfl, hj⟩⟩
  · exact back1_in F d h17 hro hd l Bs n₀ R n nm rf hn hb hg J Jx hY W hc' hcs h0
end Go.Proofs.YbulkcbvsFmt
