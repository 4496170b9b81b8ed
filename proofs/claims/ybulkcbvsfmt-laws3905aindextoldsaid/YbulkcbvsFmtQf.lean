/-
  Seat b3905aF: a region that draws, each of whose operations but the last gives a value that hangs on no order, the last a store. A law of our own.
-/
import Derived.Test.YbulkcbvsFmtQd
namespace Go.Proofs.YbulkcbvsFmt

def ltB (ops : Array Oper) : Bool := (List.range ops.size).all fun i => match ops[i]? with | some o => o.after.all fun e => !Region.binds .any e || decide (e.on < i) | none => true
def preB (ops : Array Oper) (needs : Nat → List Nat) : Bool := (List.range ops.size).all fun i => match ops[i]? with | some o => (needs i).all fun j => o.after.toList.any fun e => Region.binds .any e && e.on == j | none => true

theorem ltB_spec {ops : Array Oper} (h : ltB ops = true) : ∀ i o, ops[i]? = some o → ∀ e ∈ o.after, Region.binds .any e = true → e.on < i := fun i o ho e he hb => by
  have := List.all_eq_true.1 h i (List.mem_range.2 (Array.getElem?_eq_some_iff.1 ho).1)
  simp only [ho] at this
  have := Array.all_eq_true_iff_forall_mem.1 this e he
  simpa [hb] using this

theorem preB_spec {ops : Array Oper} {needs : Nat → List Nat} (h : preB ops needs = true) {i : Nat} {o : Oper} (ho : ops[i]? = some o) {f : Nat → Bool} (hf : ∀ e ∈ o.after, Region.binds .any e = true → f e.on = true) : ∀ j ∈ needs i, f j = true := fun j hj => by
  have := List.all_eq_true.1 h i (List.mem_range.2 (Array.getElem?_eq_some_iff.1 ho).1)
  simp only [ho] at this
  have := List.all_eq_true.1 this j hj
  obtain ⟨e, he, hq⟩ := List.any_eq_true.1 this
  simp only [Bool.and_eq_true, beq_iff_eq] at hq
  rw [← hq.2]
  exact hf e (by simpa using he) hq.1

/-- What the frame holds when just the operations of L have come up. -/
structure Core (s N : Nat) (needs : Nat → List Nat) (val : Nat → Value) (a0 : Act) (L : Nat → Bool) (a : Act) : Prop where
  size : a.tmps.size = a0.tmps.size
  df : a.defers = a0.defers
  vals : ∀ i, i < N → L i = true → a.tmps.getD (s + i) undef = val i
  frame : ∀ j, j < s ∨ s + N ≤ j → a.tmps.getD j undef = a0.tmps.getD j undef
  cl : ∀ i, L i = true → ∀ j ∈ needs i, L j = true

theorem put_same {a : Act} {d : Nat} {v : Value} (h : d < a.tmps.size) : (a.put (some d) v).tmps.getD d undef = v := by simp [Act.put, h]
theorem put_other {a : Act} {d j : Nat} {v : Value} (h : j ≠ d) : (a.put (some d) v).tmps.getD j undef = a.tmps.getD j undef := by
  simp [Act.put, Array.getElem?_setIfInBounds_ne (Ne.symm h)]

theorem Core.put {s N : Nat} {needs : Nat → List Nat} {val : Nat → Value} {a0 : Act} {L : Nat → Bool} {a : Act} (h : Core s N needs val a0 L a) {i : Nat} (hi : i < N) (hs : s + N ≤ a0.tmps.size) (hn : ∀ j ∈ needs i, L j = true) :
    Core s N needs val a0 (fun j => if j = i then true else L j) (a.put (some (s + i)) (val i)) where
  size := by simp [Act.put, h.size]
  df := h.df
  vals := fun j hj hl => by
    by_cases e : j = i
    · subst e; exact put_same (by rw [h.size]; omega)
    · rw [put_other (by omega)]
      exact h.vals j hj (by simpa [e] using hl)
  frame := fun j hj => by
    rw [put_other (by omega)]
    exact h.frame j hj
  cl := fun j hl k hk => by
    by_cases e : j = i
    · subst e; simp [hn k hk]
    · simp only [e, if_false] at hl
      simp [h.cl j hl k hk]

theorem region_vals {F : Fence} {n : Nat} {P : Program} {ops : Array Oper} {Q : Exit → Act → World → Prop} {id : Nat} {a0 : Act} {w0 : World} (hF : ∀ f, F.fn f) (hm : P.follows .mixedOrders = true)
    (s N : Nat) (hN : ops.size = N + 1) (hlt : ltB ops = true) (needs : Nat → List Nat) (hpre : preB ops needs = true) (hs : s + N ≤ a0.tmps.size) (val : Nat → Value) (wOf : (Nat → Bool) → World) (h0 : wOf (fun _ => false) = w0.drew) (wlast : World)
    (hall : ∀ L : Nat → Bool, (∀ i, L i = true → ∀ j ∈ needs i, L j = true) → (∀ j ∈ needs N, L j = true) → ∀ i, i < N → L i = true)
    (hop : ∀ i, i < N → ∃ o, ops[i]? = some o ∧ o.guard = none ∧ o.dst = some (s + i) ∧ (∀ c, o.op ≠ .defer c) ∧
      ∀ L a, Core s N needs val a0 L a → (∀ j ∈ needs i, L j = true) → L i = false → (execOp a.eval o).run P (wOf L) = .ok (.value (val i)) (wOf fun j => if j = i then true else L j))
    (hlast : ∃ o, ops[N]? = some o ∧ o.guard = none ∧ o.dst = none ∧ (∀ c, o.op ≠ .defer c) ∧ ∀ L a, Core s N needs val a0 L a → (∀ i, i < N → L i = true) → L N = false → (execOp a.eval o).run P (wOf L) = .ok .skip wlast)
    (hQ : ∀ a, Core s N needs val a0 (fun _ => true) a → Q .normal a wlast) : (Code.region id ops true).wpIn F n P Q a0 w0 := by
  refine region_inv hm (fun L a w => (L.getD N false = false ∧ Core s N needs val a0 (fun j => L.getD j false) a ∧ w = wOf (fun j => L.getD j false)) ∨ ((L.getD N false = true ∧ ∀ j, j < N → L.getD j false = true) ∧ Core s N needs val a0 (fun _ => true) a ∧ w = wlast)) (ltB_spec hlt) (.inl ?_) ?_ ?_
  · have e : (fun j => (Array.replicate ops.size false).getD j false) = fun _ => false := by
      funext j
      by_cases h : j < ops.size <;> simp [h]
    refine ⟨by simpa using congrFun e N, ?_, ?_⟩
    · rw [e]
      exact ⟨rfl, rfl, fun i _ h => by simp at h, fun _ _ => rfl, fun i h => by simp at h⟩
    · rw [e, h0]
  · intro L a w hsz hinv i o ho h1 h2
    have hi : i < N + 1 := by rw [← hN]; exact (Array.getElem?_eq_some_iff.1 ho).1
    have hlt' : i < L.size := by omega
    have hneed : ∀ j ∈ needs i, L.getD j false = true := preB_spec hpre ho (f := fun j => L.getD j false) h2
    have h1' : L.getD i false = false := by simpa [hlt'] using h1
    have upd : (fun j => (L.setIfInBounds i true).getD j false) = fun j => if j = i then true else L.getD j false := by
      funext j
      by_cases e : j = i
      · subst e; simp [hlt']
      · simp [e, Array.getElem?_setIfInBounds_ne (Ne.symm e)]
    rcases hinv with ⟨hl, hc, rfl⟩ | ⟨⟨hl, hlj⟩, hc, rfl⟩
    · by_cases e : i = N
      · subst e
        obtain ⟨o', ho', g, d, nd, hrun⟩ := hlast
        obtain rfl : o = o' := by rw [ho] at ho'; exact Option.some.inj ho'
        have hL : ∀ j, j < i → L.getD j false = true := hall (fun j => L.getD j false) hc.cl hneed
        refine step_skip ho g nd hF (hrun _ a hc hL h1') (.inr ⟨⟨?_, fun j hj => ?_⟩, ?_, rfl⟩)
        · simpa using congrFun upd i
        · have := congrFun upd j
          simp only [show ¬ j = i by omega, if_false] at this
          rw [this]; exact hL j hj
        · rw [d]
          refine ⟨hc.size, hc.df, fun j hj _ => hc.vals j hj (hL j hj), hc.frame, fun _ _ _ _ => rfl⟩
      · obtain ⟨o', ho', g, d, nd, hrun⟩ := hop i (by omega)
        obtain rfl : o = o' := by rw [ho] at ho'; exact Option.some.inj ho'
        refine step_value ho g nd hF (hrun _ a hc hneed h1') (.inl ⟨?_, ?_, ?_⟩)
        · have := congrFun upd N
          simp only [show ¬ N = i from fun h => e h.symm, if_false] at this
          rw [this]; exact hl
        · rw [upd, d]
          exact hc.put (by omega) hs hneed
        · rw [upd]
    · exfalso
      by_cases e : i = N
      · subst e; rw [h1'] at hl; cases hl
      · have := hlj i (by omega)
        rw [h1'] at this
        cases this
  · intro L a w hsz hinv hl
    have : L.getD N true = true := hl N (by omega)
    have hN' : N < L.size := by omega
    rcases hinv with ⟨h, _, _⟩ | ⟨_, hc, rfl⟩
    · simp [hN'] at h this
      rw [h] at this
      cases this
    · exact hQ a hc

def sig (o : Oper) : Option (Nat × Bool) × Option Tmp × Op := (o.guard, o.dst, o.op)
theorem sig_at {ops : Array Oper} {l : List (Option (Nat × Bool) × Option Tmp × Op)} (h : ops.toList.map sig = l) {i : Nat} {t : Option (Nat × Bool) × Option Tmp × Op} (ht : l[i]? = some t) : ∃ o, ops[i]? = some o ∧ o.guard = t.1 ∧ o.dst = t.2.1 ∧ o.op = t.2.2 := by
  subst h
  rw [List.getElem?_map] at ht
  obtain ⟨o, ho, rfl⟩ := Option.map_eq_some_iff.1 ht
  exact ⟨o, by simpa using ho, rfl, rfl, rfl⟩
theorem sig_size {ops : Array Oper} {l : List (Option (Nat × Bool) × Option Tmp × Op)} (h : ops.toList.map sig = l) : ops.size = l.length := by
  have := congrArg List.length h
  simpa using this
end Go.Proofs.YbulkcbvsFmt
