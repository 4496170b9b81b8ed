/-
  Seat b3905aF: names as map keys; what the index holds after k records.
-/
import Derived.Test.YbulkcbvsFmtQa
import Derived.Maps.OwnSet
namespace Go.Proofs.YbulkcbvsFmt
open Go.RowKit Go.Maps

/-- 32 bytes. -/
def Good (nm : List Int) : Prop := nm.length = 32 ∧ ∀ x ∈ nm, 0 ≤ x ∧ x ≤ 255
def nmCells (nm : List Int) : List Value := nm.map (fun x => .int .u8 x)
def keyV (nm : List Int) : Value := .agg (nmCells nm).toArray
def kOf (nm : List Int) : Lit := .string (keyBytes (nm.map fun x => .int .u8 x))

theorem laidOut : laidOutB Ybaf.prog = true := by kernel_rfl
theorem row47 : (47 : TypeId) < Ybaf.prog.types.size := of_decide_eq_true (by kernel_rfl)
theorem wide47 : (match Ybaf.prog.underlying 47 with | some (.array _ _) | some (.struct _) => true | _ => false) = true := by rw [Ybaf.underlying47]
set_option maxRecDepth 100000 in
theorem law47 : Keyed Ybaf.prog 47 := Keyed.of_law (deep_law_laid laidOut (m := 2) (by omega) row47 (by kernel_rfl) wide47)
theorem types : Ybaf.prog.types.size = 165 := by kernel_rfl
theorem cells47 : Ybaf.prog.cellsOf 47 = 32 := by kernel_rfl
theorem cells5 : Ybaf.prog.cellsOf 5 = 1 := by kernel_rfl
theorem keyT47 : Ybaf.prog.keyType 47 = true := by kernel_rfl

theorem mapM_all {α β : Type} {f : α → Option β} {g : α → β} : ∀ {l : List α}, (∀ x ∈ l, f x = some (g x)) → l.mapM f = some (l.map g)
  | [], _ => rfl
  | x :: l, h => by
    have hr := mapM_all (l := l) (fun z hz => h z (by simp [hz]))
    simp [List.mapM_cons, h x (by simp), hr]

theorem flat_range {nm : List Int} : ∀ (n : Nat), n ≤ nm.length → ((List.range n).map fun i => [Lit.int .u8 (nm.getD i 0)]).flatten = (nm.take n).map fun x => .int .u8 x
  | 0, _ => by simp
  | n + 1, h => by
    rw [List.range_succ, List.map_append, List.flatten_append, flat_range n (by omega), List.take_succ_eq_append_getElem (by omega), List.map_append]
    simp [List.getD_eq_getElem?_getD, List.getElem?_eq_getElem (show n < nm.length by omega)]

theorem keyLits_arr {P : Program} {d : Nat} {t e : TypeId} {n : Nat} {cs : List Value} (hu : P.underlying t = some (.array n e)) (hc : cs.length = P.cellsOf t) :
    P.keyLits (d + 1) t cs = ((List.range n).mapM fun i => P.keyLits d e ((cs.drop (i * P.cellsOf e)).take (P.cellsOf e))).map List.flatten := by
  simp [Program.keyLits, hu, hc]
theorem keyLits_one {P : Program} {d : Nat} {t : TypeId} {q : IntKind} {n : Int} (hu : P.underlying t = some (.int q)) (hw : (Lit.int q n).wf = true) : P.keyLits (d + 1) t [.int q n] = some [.int q n] := by
  simp [Program.keyLits, hu, hw]

theorem key_good {nm : List Int} (h : Good nm) : keyOf Ybaf.prog 47 (keyV nm) = some (kOf nm) := by
  have hf : (keyV nm).formed Ybaf.prog 47 = true := by simp [keyV, Value.formed, Ybaf.underlying47, cells47, nmCells, h.1]
  have hls : Ybaf.prog.keyLits (Ybaf.prog.types.size + 1) 47 (nmCells nm) = some (nm.map fun x => .int .u8 x) := by
    rw [types, keyLits_arr Ybaf.underlying47 (by rw [cells47]; simp [nmCells, h.1]), cells5]
    rw [mapM_all (f := fun i => Ybaf.prog.keyLits (164 + 1) 5 (((nmCells nm).drop (i * 1)).take 1)) (g := fun i => [Lit.int .u8 (nm.getD i 0)]) (fun i hi => by
      have hi' : i < 32 := List.mem_range.1 hi
      have hlt : i < nm.length := by rw [h.1]; exact hi'
      have e : ((nmCells nm).drop (i * 1)).take 1 = [.int .u8 nm[i]] := by
        rw [Nat.mul_one, List.drop_eq_getElem_cons (by simpa [nmCells] using hlt)]
        simp [nmCells]
      have hb := h.2 nm[i] (List.getElem_mem hlt)
      rw [e]
      have hw : (Lit.int .u8 nm[i]).wf = true := WalkArith.wf_u8 hb
      rw [keyLits_one Ybaf.underlying5 hw]
      simp [List.getD_eq_getElem?_getD, List.getElem?_eq_getElem hlt])]
    have := flat_range (nm := nm) 32 (by rw [h.1]; exact Nat.le_refl _)
    rw [Option.map_some, this, List.take_of_length_le (by rw [h.1]; exact Nat.le_refl _)]
  have hc : (keyV nm).cells.toList = nmCells nm := by simp [keyV, Value.cells]
  simp only [keyOf, Ybaf.underlying47, keyT47, hf, hc, hls]
  simp [kOf]

theorem kOf_inj {a b : List Int} (ha : Good a) (hb : Good b) (h : kOf a = kOf b) : a = b := by
  have h1 := key_good ha
  have h2 := key_good hb
  rw [← h] at h2
  have := law47.inj h1 h2
  simp only [keyV, Value.agg.injEq, nmCells] at this
  have hl : a.map (fun x => Value.int .u8 x) = b.map (fun x => Value.int .u8 x) := by simpa using this
  have hin : ∀ (l l' : List Int), l.map (fun x => Value.int .u8 x) = l'.map (fun x => Value.int .u8 x) → l = l' := by
    intro l
    induction l with
    | nil => intro l' e; cases l' with | nil => rfl | cons y r => simp at e
    | cons x r ih =>
      intro l' e
      cases l' with
      | nil => simp at e
      | cons y s =>
        simp only [List.map_cons, List.cons.injEq, Value.int.injEq, true_and] at e
        rw [e.1, ih s e.2]
  exact hin a b hl

/-- How many of the first k counts are not 0. -/
def cnt (rf : Nat → Int) : Nat → Nat
  | 0 => 0
  | k + 1 => cnt rf k + if rf k = 0 then 0 else 1

theorem cnt_le (rf : Nat → Int) : ∀ k, cnt rf k ≤ k
  | 0 => Nat.le_refl _
  | k + 1 => by have := cnt_le rf k; unfold cnt; split <;> omega

/-- What the index holds after k records, no two of those in use of one name. -/
structure Idx (D : DataW Unit) (k : Nat) (nm : Nat → List Int) (rf : Nat → Int) : Prop where
  hs : ∀ a, Good a → (Maps.has D (kOf a) = true ↔ ∃ i, i < k ∧ rf i ≠ 0 ∧ nm i = a)
  vals : ∀ i, i < k → rf i ≠ 0 → D.atKey (kOf (nm i)) (.lit (.int .u64 0)) = .lit (.int .u64 i)
  size : Maps.size D = cnt rf k
  tidy : Maps.Tidy D

theorem Idx.zero (nm : Nat → List Int) (rf : Nat → Int) : Idx (.map []) 0 nm rf where
  hs := fun a _ => by simp [Maps.has]
  vals := fun i h => absurd h (Nat.not_lt_zero _)
  size := rfl
  tidy := tidy_empty

theorem Idx.skip {D : DataW Unit} {k : Nat} {nm : Nat → List Int} {rf : Nat → Int} (h : Idx D k nm rf) (h0 : rf k = 0) : Idx D (k + 1) nm rf where
  hs := fun a ha => (h.hs a ha).trans ⟨fun ⟨i, hi, h1, h2⟩ => ⟨i, by omega, h1, h2⟩, fun ⟨i, hi, h1, h2⟩ => ⟨i, by
    by_cases e : i = k
    · subst e; exact absurd h0 h1
    · omega, h1, h2⟩⟩
  vals := fun i hi h1 => h.vals i (by
    by_cases e : i = k
    · subst e; exact absurd h0 h1
    · omega) h1
  size := by simp [cnt, h0, h.size]
  tidy := h.tidy

theorem Idx.put {D : DataW Unit} {k : Nat} {nm : Nat → List Int} {rf : Nat → Int} (h : Idx D k nm rf) (hg : ∀ i, i ≤ k → Good (nm i)) (h1 : rf k ≠ 0) (hn : Maps.has D (kOf (nm k)) = false) :
    Idx (D.put (kOf (nm k)) (.lit (.int .u64 k))) (k + 1) nm rf where
  hs := fun a ha => by
    have hk : WideAt.IsKeyLit (kOf (nm k)) := law47.key (key_good (hg k (Nat.le_refl _)))
    by_cases e : kOf a = kOf (nm k)
    · rw [e, has_put_same h.tidy.isMap hk]
      refine ⟨fun _ => ⟨k, by omega, h1, (kOf_inj ha (hg k (Nat.le_refl _)) e).symm⟩, fun _ => rfl⟩
    · rw [has_put_other e, h.hs a ha]
      refine ⟨fun ⟨i, hi, h2, h3⟩ => ⟨i, by omega, h2, h3⟩, fun ⟨i, hi, h2, h3⟩ => ⟨i, ?_, h2, h3⟩⟩
      by_cases e' : i = k
      · subst e'; exact absurd (by rw [h3]) e
      · omega
  vals := fun i hi h2 => by
    have hk : WideAt.IsKeyLit (kOf (nm k)) := law47.key (key_good (hg k (Nat.le_refl _)))
    by_cases e' : i = k
    · subst e'; rw [atKey_put_same h.tidy.isMap hk]
    · have hik : i < k := by omega
      have hne : kOf (nm i) ≠ kOf (nm k) := fun e => by
        have := (h.hs (nm i) (hg i (by omega))).2 ⟨i, hik, h2, rfl⟩
        rw [e, hn] at this
        cases this
      rw [atKey_put_other hne]
      exact h.vals i hik h2
  size := by rw [size_put h.tidy, hn, h.size]; simp [cnt, h1]
  tidy := h.tidy.put (law47.key (key_good (hg k (Nat.le_refl _)))) _

/-- No two records in use, among the first n, bear one name. -/
def Apart (n : Nat) (nm : Nat → List Int) (rf : Nat → Int) : Prop := ∀ i j, i < j → j < n → rf i ≠ 0 → rf j ≠ 0 → nm i ≠ nm j

theorem Idx.miss {D : DataW Unit} {k n : Nat} {nm : Nat → List Int} {rf : Nat → Int} (h : Idx D k nm rf) (ha : Apart n nm rf) (hk : k < n) (hg : Good (nm k)) (h1 : rf k ≠ 0) : Maps.has D (kOf (nm k)) = false := by
  cases e : Maps.has D (kOf (nm k)) with
  | false => rfl
  | true =>
    obtain ⟨i, hi, h2, h3⟩ := (h.hs _ hg).1 e
    exact absurd h3 (ha i k hi hk h2 h1)
end Go.Proofs.YbulkcbvsFmt
