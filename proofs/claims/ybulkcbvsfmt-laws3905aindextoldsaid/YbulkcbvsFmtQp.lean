/-
  Seat b3905aF: newPool where two records in use bear one name; two names compared; laws for a quiet region.
-/
import Derived.Test.YbulkcbvsFmtQo
import Derived.BigQuiet
import Derived.DeepKeys
namespace Go.Proofs.YbulkcbvsFmt
open Go.RowKit Go.Maps Go.Shelf Go.Extern.Stop Go.Stop Go.Extern

set_option maxRecDepth 100000 in
set_option maxHeartbeats 2000000 in
theorem pool_dup (F : Interp) (a : Addr) (s : ByteArray) (pd pk ps : Option Addr) (R n : Nat) (nm : Nat → List Int) (rf : Nat → Int) (w : World) (hn : n ≤ 1024) (hr : RecsAt w R n nm rf) (hR : R < w.heap.size) (hg : ∀ i, i < n → Good (nm i)) (hd : Hid (¬ Apart n nm rf))
    (hF : F.answers w.tape) (hgl : w.cell? ⟨0, 0, none⟩ = some (.iface 94 (.pointer (some a)))) (hs : w.cell? a = some (.string s)) :
    Calls Ybaf.prog 6 #[.pointer pd, .pointer pk, .pointer ps, .slice (some ⟨R, 0, none⟩) n n] w fun e w' => ∃ pb, e = .returned (.tuple #[.pointer none, .iface 81 (.pointer (some ⟨pb, 0, none⟩))]) ∧ Below w.heap.size w w' ∧ w.heap.size ≤ pb ∧ w'.cell? ⟨pb, 1, none⟩ = some (.iface 94 (.pointer (some a))) := by
  go_enter Ybaf.func6, Ybaf.ntmps6
  go_wp2_with (go_at_call 9; refine (index_dup F a s R n nm rf _ hn ?_ ?_ hg hd ?_ ?_ ?_).mono ?_
               · exact hr
               · exact hR
               · exact hF
               · exact hgl
               · exact hs
               rintro e w1 ⟨pb, rfl, bl1, hpb, hc1⟩)
  go_ret2
  exact ⟨pb, rfl, bl1, hpb, hc1⟩

set_option maxRecDepth 100000 in
theorem name_eql {a b : List Int} (ha : Good a) (hb : Good b) (w : World) : (binOp .eql 47 (keyV a) (keyV b)).run Ybaf.prog w = .ok (.bool (decide (a = b))) w := by
  obtain ⟨r, hr, hiff⟩ := run_equal_deep (P := Ybaf.prog) w (m := 2) (by omega) (k := 47) (by kernel_rfl) wide47 (key_good ha) (key_good hb)
  have e : r = decide (a = b) := by
    by_cases h : a = b
    · subst h; simpa using hiff.2 rfl
    · have : ¬ r = true := fun h' => h (kOf_inj ha hb (hiff.1 h'))
      simp [h]
      cases r <;> simp_all
  show (Value.bool <$> Op.equal 47 (keyV a) (keyV b)).run Ybaf.prog w = _
  simp [hr, e]

theorem quiet_load_mid {P : Program} {ops : Array Oper} {C : World → Prop} {Q : Act → Prop} {a : Act} {o : Oper} {rest : List Oper} (ty : TypeId) (x : Operand) (ho : o.op = .load ty x) (hw : Region.wanted o (yielded ops a.tmps) = true)
    (b off : Nat) (hx : a.eval x = .pointer (some ⟨b, off, none⟩)) (cs : List Value) (d : TypeDesc) (hC : ∀ w, C w → w.rangeAt b off cs)
    (hu : P.underlying ty = some d) (hd : d.isRow = true) (hi : (P.info? ty).map (·.size) = some cs.length)
    (h : wpQuiet P ops C Q rest (a.put o.dst (.agg cs.toArray))) : wpQuiet P ops C Q (o :: rest) a :=
  BigFrame.wpQuiet_want hw fun K hK => ⟨_, fun w hw' => by
    unfold Oper.quietAt execOp
    simp only [ho, hx, Instr.loadAt, Instr.sureAddr, Sem.run_bind, Sem.run_pure, Result.andThen_ok, run_loadVar_mid w b off ty cs d (hC w hw') hu hd hi]
    exact ⟨rfl, rfl⟩, hK _ h⟩

theorem quiet_lookup_int {P : Program} {ops : Array Oper} {C : World → Prop} {Q : Act → Prop} {a : Act} {o : Oper} {rest : List Oper} (m x : Operand) (t : TypeId) (hop : o.op = Op.lookup t m x true) (hw : Region.wanted o (yielded ops a.tmps) = true)
    (k e : TypeId) (q : IntKind) (K : Keyed P k) (ht : P.underlying t = some (.map k e)) (he : P.underlying e = some (.int q)) (hz : ∀ w, (zeroValue e).run P w = .ok (.int q 0) w) (b n : Nat) (D : DataW Unit)
    (hm : a.eval m = .map (some b)) (hown : ∀ w, C w → w.ownsMap P k (plainElem P e) b n D) (key : Value) (kl : Lit) (hx : a.eval x = key) (hkey : keyOf P k key = some kl) (c : Int) (hat : D.atKey kl (.lit (.int q 0)) = .lit (.int q c)) (bo : Bool) (hbo : Maps.has D kl = bo)
    (h : wpQuiet P ops C Q rest (a.put o.dst (.tuple #[.int q c, .bool bo]))) : wpQuiet P ops C Q (o :: rest) a :=
  BigFrame.wpQuiet_want hw fun K' hK => ⟨_, fun w hw' => by
    obtain ⟨v, ps, hrun, hv⟩ := (hown w hw').look_ok K ht (hz w) (zd := .lit (.int q 0)) (zp := []) (plainElem_int he (by cases q <;> decide)) hkey
    obtain ⟨c', rfl, hc, hwc⟩ := plainElem_int_inv he hv
    have h1 := congrArg Prod.fst hc
    rw [hat] at h1
    cases h1
    rw [hbo] at hrun
    unfold Oper.quietAt
    simp [execOp, hop, hm, hx, hrun, Result.andThen]
    exact ⟨rfl, rfl⟩, hK _ h⟩

theorem nmB_good {x : Int} (hx : 0 ≤ x ∧ x ≤ 255) : Good (nmB x) := by
  refine ⟨rfl, fun y hy => ?_⟩
  simp only [nmB, zeros28, List.mem_cons] at hy
  rcases hy with rfl | rfl | rfl | rfl | hy
  · exact hx
  · omega
  · omega
  · omega
  · simp at hy; omega

theorem ptr_neq_same {tp te : TypeId} (a : Addr) (hp : Ybaf.prog.underlying tp = some (.pointer te)) (hte : (Ybaf.prog.info? te).isSome = true) (w : World) :
    (binOp .neq tp (.pointer (some a)) (.pointer (some a))).run Ybaf.prog w = .ok (.bool false) w := by
  obtain ⟨j, hj⟩ := Option.isSome_iff_exists.1 hte
  have h : ∀ d : Nat, (Op.equalIn (d + 1) tp (.pointer (some a)) (.pointer (some a))).run Ybaf.prog w = .ok true w := fun d => by
    simp [Op.equalIn, run_underlying hp, sizeOf, typeInfo, hj, run_sameAddr_same]
  simp only [binOp]
  simp [Op.equal, Op.maxDepth, h 9999]

theorem rec_names {W : World} {R n : Nat} {nm : Nat → List Int} {rf : Nat → Int} (h : RecsAt W R n nm rf) {i : Nat} (hi : i < n) : W.rangeAt R (i * 33) (nmCells (nm i)) := fun j v hv => by
  refine h i hi j v ?_
  have hj : j < (nm i).length := by
    have := (List.getElem?_eq_some_iff.1 hv).1
    simpa [nmCells] using this
  unfold recCells
  rw [List.getElem?_append_left (by simpa using hj)]
  exact hv
theorem below_drewN (B : Nat) (W : World) (q : Nat) : Below B W (W.drewN q) := ⟨rfl, rfl, rfl, Nat.le_refl _, fun _ _ => rfl⟩
end Go.Proofs.YbulkcbvsFmt
