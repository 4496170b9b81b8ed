/-
  Seat b3905aF: a region that draws its order, walked by an invariant over which operations have come up (in a fence of whatever make, a round's too). A law of our own.
-/
import Derived.OrdersIn
import Derived.TacticsIn
namespace Go.Proofs.YbulkcbvsFmt

section
variable {F : Fence} {n : Nat} {P : Program} {ops : Array Oper} {Q : Exit → Act → World → Prop} {md : Region.Mode}

theorem step_value {i : Nat} {o : Oper} {a : Act} {w w' : World} {v : Value} {K : Act → World → Prop} (ho : ops[i]? = some o) (hg : o.guard = none) (hd : ∀ c, o.op ≠ .defer c) (hF : ∀ f, F.fn f)
    (hrun : (execOp a.eval o).run P w = .ok (.value v) w') (h : K (a.put o.dst v) w') : wpOpIn F n P ops Q i K a w := by
  unfold wpOpIn
  simp only [ho]
  have hw : Region.wanted o (yielded ops a.tmps) = true := by simp [Region.wanted, hg]
  rw [if_pos hw]
  unfold Oper.wpIn
  refine ⟨fun f _ => hF f, ?_⟩
  rw [Oper.semAt_eq _ _ _ hd, hrun]
  exact h

theorem step_skip {i : Nat} {o : Oper} {a : Act} {w w' : World} {K : Act → World → Prop} (ho : ops[i]? = some o) (hg : o.guard = none) (hd : ∀ c, o.op ≠ .defer c) (hF : ∀ f, F.fn f)
    (hrun : (execOp a.eval o).run P w = .ok .skip w') (h : K (a.put o.dst undef) w') : wpOpIn F n P ops Q i K a w := by
  unfold wpOpIn
  simp only [ho]
  have hw : Region.wanted o (yielded ops a.tmps) = true := by simp [Region.wanted, hg]
  rw [if_pos hw]
  unfold Oper.wpIn
  refine ⟨fun f _ => hF f, ?_⟩
  rw [Oper.semAt_eq _ _ _ hd, hrun]
  exact h

theorem all_listed (hb : ∀ i o, ops[i]? = some o → ∀ e ∈ o.after, Region.binds md e = true → e.on < i) {L : Array Bool} (hs : L.size = ops.size) (hr : Region.ready md ops L = []) :
    ∀ i, i < ops.size → L.getD i true = true := by
  intro i
  induction i using Nat.strongRecOn with
  | _ i ih =>
    intro hi
    cases hl : L.getD i true with
    | true => rfl
    | false =>
      have : i ∈ Region.ready md ops L := mem_ready.2 ⟨hl, ops[i], Array.getElem?_eq_getElem hi, fun e he hbi => by
        have hlt := hb i ops[i] (Array.getElem?_eq_getElem hi) e he hbi
        have := ih e.on hlt (by omega)
        have hl' : e.on < L.size := by omega
        simpa [hl'] using this⟩
      rw [hr] at this
      cases this

theorem any_inv (Inv : Array Bool → Act → World → Prop) (hb : ∀ i o, ops[i]? = some o → ∀ e ∈ o.after, Region.binds md e = true → e.on < i)
    (hstep : ∀ L a w, L.size = ops.size → Inv L a w → ∀ i o, ops[i]? = some o → L.getD i true = false → (∀ e ∈ o.after, Region.binds md e = true → L.getD e.on false = true) → wpOpIn F n P ops Q i (Inv (L.setIfInBounds i true)) a w)
    (hdone : ∀ L a w, L.size = ops.size → Inv L a w → (∀ i, i < ops.size → L.getD i true = true) → Q .normal a w) :
    ∀ (fuel : Nat) (L : Array Bool) (a : Act) (w : World), L.size = ops.size → L.toList.count false ≤ fuel → Inv L a w → wpAnyIn F n P md ops Q fuel L a w
  | 0, L, a, w, hs, hc, hi => by
    have hall : ∀ i, i < ops.size → L.getD i true = true := fun i h => by
      have hlt : i < L.size := by omega
      cases e : L.getD i true with
      | true => rfl
      | false =>
        have hm : false ∈ L.toList := by
          have : L[i] = false := by simpa [hlt] using e
          rw [← this]
          simp
        have := List.count_pos_iff.2 hm
        omega
    refine ⟨?_, hdone L a w hs hi hall⟩
    apply List.eq_nil_iff_forall_not_mem.2
    intro i hm
    obtain ⟨h1, o, ho, _⟩ := mem_ready.1 hm
    have := hall i (Array.getElem?_eq_some_iff.1 ho).1
    rw [h1] at this
    cases this
  | fuel + 1, L, a, w, hs, hc, hi => by
    refine ⟨fun hr => hdone L a w hs hi (all_listed hb hs hr), fun i hm => ?_⟩
    obtain ⟨h1, o, ho, h2⟩ := mem_ready.1 hm
    refine wpOpIn_mono (fun a' w' h => any_inv Inv hb hstep hdone fuel _ a' w' (by simpa using hs) ?_ h) (hstep L a w hs hi i o ho h1 h2)
    have hlt : i < L.size := by have := (Array.getElem?_eq_some_iff.1 ho).1; omega
    have hf : L[i] = false := by simpa [hlt] using h1
    rw [Array.toList_setIfInBounds, List.count_set (by simpa using hlt)]
    simp only [Array.getElem_toList, hf]
    have : 0 < L.toList.count false := List.count_pos_iff.2 (by rw [← hf]; simp)
    change L.toList.count false - 1 + 0 ≤ fuel
    omega

theorem region_inv {id : Nat} {a0 : Act} {w0 : World} (hm : P.follows .mixedOrders = true) (Inv : Array Bool → Act → World → Prop) (hb : ∀ i o, ops[i]? = some o → ∀ e ∈ o.after, Region.binds .any e = true → e.on < i)
    (h0 : Inv (Array.replicate ops.size false) a0 w0.drew)
    (hstep : ∀ L a w, L.size = ops.size → Inv L a w → ∀ i o, ops[i]? = some o → L.getD i true = false → (∀ e ∈ o.after, Region.binds .any e = true → L.getD e.on false = true) → wpOpIn F n P ops Q i (Inv (L.setIfInBounds i true)) a w)
    (hdone : ∀ L a w, L.size = ops.size → Inv L a w → (∀ i, i < ops.size → L.getD i true = true) → Q .normal a w) : (Code.region id ops true).wpIn F n P Q a0 w0 :=
  wpIn_region_any hm (any_inv Inv hb hstep hdone _ _ _ _ (by simp) (by simp) h0)
end
end Go.Proofs.YbulkcbvsFmt
