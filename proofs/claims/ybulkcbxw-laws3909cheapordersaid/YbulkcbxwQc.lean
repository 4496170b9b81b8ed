/-
  Seat b3909a: heaps of timers, the plain part: what up and down keep.
-/
import Derived.Test.YbulkcbxwQa
namespace Go.Proofs.Ybulkcbxw

def lt (a b : Tm) : Prop := a.due < b.due ∨ (a.due = b.due ∧ a.seq < b.seq)
instance (a b : Tm) : Decidable (lt a b) := by unfold lt; infer_instance
/-- a comes no later than b. -/
def le (a b : Tm) : Prop := ¬ lt b a
theorem le_of_lt {a b : Tm} (h : lt a b) : le a b := by unfold le lt at *; omega
theorem le_trans' {a b c : Tm} (h : le a b) (k : le b c) : le a c := by unfold le lt at *; omega
theorem le_refl' (a : Tm) : le a a := by unfold le lt; omega
theorem lt_of_le {a b : Tm} (h : le a b) (hne : a.seq ≠ b.seq) : lt a b := by unfold le lt at *; omega

/-- Two places exchanged. -/
def sw (f : Nat → Tm) (i j : Nat) : Nat → Tm := fun k => if k = i then f j else if k = j then f i else f k
theorem sw_left (f : Nat → Tm) (i j : Nat) : sw f i j i = f j := by simp [sw]
theorem sw_right (f : Nat → Tm) (i j : Nat) : sw f i j j = f i := by
  by_cases h : j = i
  · subst h; simp [sw]
  · simp [sw, h]
theorem sw_other (f : Nat → Tm) {i j k : Nat} (h1 : k ≠ i) (h2 : k ≠ j) : sw f i j k = f k := by simp [sw, h1, h2]

def Heap (f : Nat → Tm) (n : Nat) : Prop := ∀ c, 0 < c → c < n → le (f ((c - 1) / 2)) (f c)
/-- In order but at j against its parent. -/
def UpInv (f : Nat → Tm) (n j : Nat) : Prop :=
  (∀ c, 0 < c → c < n → c ≠ j → le (f ((c - 1) / 2)) (f c)) ∧ (∀ c, 0 < c → c < n → (c - 1) / 2 = j → 0 < j → le (f ((j - 1) / 2)) (f c))
/-- In order but at i against its children. -/
def DownInv (f : Nat → Tm) (n i : Nat) : Prop :=
  (∀ c, 0 < c → c < n → (c - 1) / 2 ≠ i → le (f ((c - 1) / 2)) (f c)) ∧ (∀ c, 0 < c → c < n → (c - 1) / 2 = i → 0 < i → le (f ((i - 1) / 2)) (f c))

theorem UpInv.done {f : Nat → Tm} {n j : Nat} (h : UpInv f n j) (hd : j = 0 ∨ le (f ((j - 1) / 2)) (f j)) : Heap f n := fun c h0 hc => by
  by_cases e : c = j
  · subst e
    rcases hd with hd | hd
    · omega
    · exact hd
  · exact h.1 c h0 hc e

theorem UpInv.step {f : Nat → Tm} {n j : Nat} (h : UpInv f n j) (hj : 0 < j) (hn : j < n) (hl : lt (f j) (f ((j - 1) / 2))) : UpInv (sw f ((j - 1) / 2) j) n ((j - 1) / 2) := by
  have hq : (j - 1) / 2 < j := by omega
  refine ⟨fun c h0 hc hne => ?_, fun c h0 hc hp hq0 => ?_⟩
  · by_cases e : c = j
    · subst e
      rw [sw_left, sw_right]
      exact le_of_lt hl
    · rw [sw_other f hne e]
      by_cases e1 : (c - 1) / 2 = j
      · rw [e1, sw_right]
        exact h.2 c h0 hc e1 hj
      · by_cases e2 : (c - 1) / 2 = (j - 1) / 2
        · rw [e2, sw_left]
          have := h.1 c h0 hc e
          rw [e2] at this
          exact le_trans' (le_of_lt hl) this
        · rw [sw_other f e2 e1]
          exact h.1 c h0 hc e
  · have e0 : ((j - 1) / 2 - 1) / 2 < (j - 1) / 2 := by omega
    rw [sw_other f (by omega) (by omega)]
    have hpq := h.1 ((j - 1) / 2) hq0 (by omega) (by omega)
    by_cases e : c = j
    · subst e
      rw [sw_right]
      exact hpq
    · rw [sw_other f (by omega) e]
      have := h.1 c h0 hc e
      rw [hp] at this
      exact le_trans' hpq this

theorem UpInv.start {f : Nat → Tm} {n : Nat} (h : Heap f n) : UpInv f (n + 1) n :=
  ⟨fun c h0 hc hne => h c h0 (by omega), fun c h0 hc hp => by omega⟩

theorem DownInv.done {f : Nat → Tm} {n i : Nat} (h : DownInv f n i) (hd : ∀ c, 0 < c → c < n → (c - 1) / 2 = i → le (f i) (f c)) : Heap f n := fun c h0 hc => by
  by_cases e : (c - 1) / 2 = i
  · rw [e]; exact hd c h0 hc e
  · exact h.1 c h0 hc e

theorem DownInv.step {f : Nat → Tm} {n i j : Nat} (h : DownInv f n i) (hj0 : 0 < j) (hjn : j < n) (hp : (j - 1) / 2 = i) (hmin : ∀ c, 0 < c → c < n → (c - 1) / 2 = i → le (f j) (f c)) (hl : lt (f j) (f i)) : DownInv (sw f i j) n j := by
  have hij : i < j := by omega
  refine ⟨fun c h0 hc hne => ?_, fun c h0 hc hpc _ => ?_⟩
  · by_cases e : (c - 1) / 2 = i
    · rw [e, sw_left]
      by_cases e1 : c = j
      · subst e1
        rw [sw_right]
        exact le_of_lt hl
      · rw [sw_other f (by omega) e1]
        exact hmin c h0 hc e
    · rw [sw_other f e hne]
      by_cases e1 : c = i
      · subst e1
        rw [sw_left]
        exact h.2 j hj0 hjn hp h0
      · have : c ≠ j := fun e2 => e (by rw [e2]; exact hp)
        rw [sw_other f e1 this]
        exact h.1 c h0 hc e
  · rw [hp, sw_left, sw_other f (by omega) (by omega)]
    have := h.1 c h0 hc (by omega)
    rw [hpc] at this
    exact this

theorem DownInv.start {f : Nat → Tm} {n : Nat} (h : Heap f (n + 1)) : DownInv (sw f 0 n) n 0 :=
  ⟨fun c h0 hc hne => by rw [sw_other f hne (by omega), sw_other f (by omega) (by omega)]; exact h c h0 (by omega), fun c _ _ _ h0 => absurd h0 (Nat.lt_irrefl _)⟩

/-- The first comes no later than any. -/
theorem Heap.least {f : Nat → Tm} {n : Nat} (h : Heap f n) : ∀ i, i < n → le (f 0) (f i) := fun i => by
  induction i using Nat.strongRecOn with
  | _ i ih =>
    intro hi
    by_cases e : i = 0
    · subst e; exact le_refl' _
    · exact le_trans' (ih ((i - 1) / 2) (by omega) (by omega)) (h i (by omega) hi)

/-! ### The same timers, in other places -/
def Inj (f : Nat → Tm) (n : Nat) : Prop := ∀ i k, i < n → k < n → (f i).seq = (f k).seq → i = k
structure Arr (n : Nat) (f g : Nat → Tm) : Prop where
  from' : ∀ i, i < n → ∃ k, k < n ∧ g i = f k
  inj : Inj f n → Inj g n
  far : ∀ i, n ≤ i → g i = f i
theorem Arr.refl (n : Nat) (f : Nat → Tm) : Arr n f f := ⟨fun i hi => ⟨i, hi, rfl⟩, id, fun _ _ => rfl⟩
theorem Arr.trans {n : Nat} {f g h : Nat → Tm} (a : Arr n f g) (b : Arr n g h) : Arr n f h :=
  ⟨fun i hi => by
    obtain ⟨k, hk, e⟩ := b.from' i hi
    obtain ⟨l, hl, e'⟩ := a.from' k hk
    exact ⟨l, hl, e.trans e'⟩, fun hi => b.inj (a.inj hi), fun i hi => (b.far i hi).trans (a.far i hi)⟩
theorem Arr.sw {n : Nat} {f : Nat → Tm} {i j : Nat} (hi : i < n) (hj : j < n) : Arr n f (sw f i j) where
  from' := fun k hk => by
    by_cases e1 : k = i
    · subst e1; exact ⟨j, hj, sw_left _ _ _⟩
    · by_cases e2 : k = j
      · subst e2; exact ⟨i, hi, sw_right _ _ _⟩
      · exact ⟨k, hk, sw_other f e1 e2⟩
  inj := fun h a b ha hb e => by
    have key : ∀ k, k < n → ∃ k', k' < n ∧ Ybulkcbxw.sw f i j k = f k' ∧ k' = (if k = i then j else if k = j then i else k) := fun k hk => by
      by_cases e1 : k = i
      · subst e1; exact ⟨j, hj, sw_left _ _ _, by simp⟩
      · by_cases e2 : k = j
        · subst e2; exact ⟨i, hi, sw_right _ _ _, by simp [e1]⟩
        · exact ⟨k, hk, sw_other f e1 e2, by simp [e1, e2]⟩
    obtain ⟨a', ha', ea, ea'⟩ := key a ha
    obtain ⟨b', hb', eb, eb'⟩ := key b hb
    rw [ea, eb] at e
    have := h a' b' ha' hb' e
    rw [ea', eb'] at this
    clear ea eb ea' eb' e key h ha' hb'
    by_cases h1 : a = i <;> by_cases h2 : a = j <;> by_cases h3 : b = i <;> by_cases h4 : b = j <;> simp only [h1, h2, h3, h4, if_true, if_false] at this ⊢ <;> (try split at this) <;> (try split at this) <;> omega
  far := fun k hk => sw_other f (by omega) (by omega)
end Go.Proofs.Ybulkcbxw
