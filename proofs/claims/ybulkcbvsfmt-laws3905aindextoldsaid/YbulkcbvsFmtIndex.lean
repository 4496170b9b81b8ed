/-
  Seat b3905aF: LawS3905AIndex: the told row proved out of the walk, and its told and tied card (the tie is given).
-/
import Derived.Test.YbulkcbvsFmtRows
import Derived.Test.YbulkcbvsFmtTie
import Derived.Test.YbulkcbvsFmtCards
import Derived.Test.YbulkcbvsFmtQm
import Derived.Test.YbulkcbvsFmtQs
import Derived.Stop.LaidErr
import Derived.Stop.JoinedTold
import Derived.Stop.JoinedAt
import Derived.SevenTiedAt
namespace Go.Proofs.YbulkcbvsFmt.index
open Go.ChangeShapes Go.WideShapes Go.ChangeAt Go.RowKit
open Go.Extern.Stop Go.Stop Go.Extern

theorem star : "*" ++ "errors.errorString" = "*errors.errorString" := by decide
theorem row94 (u : TypeId) (h : Ybaf.prog.typeName? 3 u = some "*errors.errorString") : u = 94 :=
  typeName_ptr_named (nm := "errors.errorString") (by rw [star]; kernel_rfl) (by kernel_rfl) (by decide) u (by rw [star]; exact h)

theorem witness_row (os : Os) {H : Type} (enc : TypeId × Value → H) :
    (OpenSpec.ofChange Rows.lawS3905AIndexSpec).preRow enc Ybaf.prog Ybaf.f3 Rows.lawS3905AIndexRow.domain false Rows.lawS3905AIndexRow.laid ((World.doorLaid Ybaf.prog 400 os).forCall (fun _ _ => 0) ⟨#[], #[.slice none 0 0], []⟩).memory #[.slice none 0 0] := by
  have hw : (DataW.whole enc Ybaf.prog ((World.doorLaid Ybaf.prog 400 os).forCall (fun _ _ => 0) ⟨#[], #[.slice none 0 0], []⟩).memory Ybaf.f3.params.toList (OpenSpec.ofChange Rows.lawS3905AIndexSpec).vars false #[Value.slice none 0 0].toList 8).map (fun x => x.1) =
      some [.nil] := by kernel_rfl
  obtain ⟨⟨x1, x2, x3⟩, hx, hx1⟩ := Option.map_eq_some_iff.1 hw
  exact OpenSpec.preRow_of_cond 8 hx rfl (fun k hk => by cases hk) (by kernel_rfl) (door_met os _)

set_option maxRecDepth 100000 in
theorem lifted (os : Os) (started : os.Started) (H : Type) (enc : TypeId × Value → H) :
    ReturnsInTold none {} Ybaf.checked os 3 .any Input.okWide ((OpenSpec.ofChange Rows.lawS3905AIndexSpec).preRow enc Ybaf.prog Ybaf.f3 Rows.lawS3905AIndexRow.domain false Rows.lawS3905AIndexRow.laid)
      (fun F => ((OpenSpec.ofChange Rows.lawS3905AIndexSpec).at F).post enc Ybaf.prog Ybaf.f3 false true false false) (aloneAtReturn Ybaf.prog) nothingAlways := by
  refine returnsInTold_of_row (C := Ybaf.checked) (s := OpenSpec.ofChange Rows.lawS3905AIndexSpec) (by kernel_rfl) own started (by kernel_rfl) Ybaf.func3
    (OpenSpec.witness_stopped_atRef (enc := enc) (C := Ybaf.checked) false (World.doorLaid Ybaf.prog 400 os) #[.slice none 0 0] rfl (by kernel_rfl) (by kernel_rfl) (by kernel_rfl) (witness_row os enc)) ?_
  intro F W base args ds gs before _ hF hval0 hW _ _ _ hL _
  have hval : ∀ (j : Nat) t v, Ybaf.f3.params[j]? = some t → args[j]? = some v → Value.okWide Ybaf.prog W .any base t v := hval0
  have hW' := hW
  obtain ⟨p, q, hA0, hV, rfl, _, _⟩ := hW
  have hA : DataW.TrodAll enc Ybaf.prog W 0 (fun _ => true) true Ybaf.f3.params.toList args.toList ds p := hA0
  rw [Ybaf.params3] at hA hval
  obtain ⟨v0, d0, rfl, rfl, h0⟩ := trodAll_one hA
  have lt0 : ∀ x ∈ p, x.block < W.heap.size := by obtain ⟨m, hm⟩ := h0; exact DataW.trod_lt m _ _ _ hm
  obtain ⟨g, rfl⟩ : ∃ g, gs = [g] := by
    match gs, hV with
    | [g], _ => exact ⟨g, rfl⟩
    | [], h => exact h.elim
    | _ :: _ :: _, h => obtain ⟨_, _, _, _, _, _, _, _, _, _, h', _⟩ := h; exact h'.elim
  have hL' : laidMet Ybaf.prog Rows.lawS3905AIndexRow.laid W := by
    rw [MakeChecks.laidMetH_plain _ _ _ (by kernel_rfl)] at hL
    exact hL
  obtain ⟨ga, gt, hgv0, hgc, _, _⟩ := laid_sentinel (g := 0) hL' (by kernel_rfl) (by kernel_rfl) Ybaf.underlying52 row94 Ybaf.underlying94 Ybaf.underlying96 rfl rfl Ybaf.underlying9 (by kernel_rfl) (by kernel_rfl)
  have hgv : W.cell? ⟨0, 0, none⟩ = some (.iface 94 (.pointer (some ga))) := by simpa using World.var?_cell (g := 0) (by kernel_rfl) hgv0 0
  have hwalk : Calls Ybaf.prog 3 #[v0] W fun e W' => e = .returned (.bool true) ∧ Below W.heap.size W W' := by
    rcases open_in (hval 0 22 v0 rfl rfl) h0 with rfl | ⟨a, cap, rfl⟩ | ⟨b, off, n, cap, nf, rf, rfl, hm, hin, hnf, hrf⟩
    · exact law_nil W
    · exact law_zero a cap W
    · by_cases hn : n ≤ 1024
      · by_cases hp : 0 < n
        · exact index_row F.told ga gt b off n cap nf rf W hn hp hin hnf (fun i hi => (hrf i hi).1) hF hgv hgc
        · obtain rfl : n = 0 := by omega
          exact law_zero _ cap W
      · exact index_big _ n cap W (by omega) hm
  refine hwalk.mono fun e W' ⟨he, hb⟩ => ?_
  subst he
  exact ⟨_, rfl, _, _, _, [], _, q, hW', trodAll_mk1 (shut_bool Ybaf.underlying4 _), trodAll_mk1 (Below.trod laidOut (by kernel_rfl) (of_decide_eq_true (by kernel_rfl)) h0 hb lt0), hb.trodVars laidOut (by kernel_rfl) hV, hb.frame _, fun h => by cases h⟩

theorem stops : Ybaf.pinned.checked.prog.stops = ["fmt.errorf"] := by kernel_rfl
theorem stopKnobs : Ybaf.pinned.checked.prog.stopKnobs = [] := by kernel_rfl
theorem quiet (os : Os) : Stop.quiet Ybaf.pinned.checked.prog os := by
  intro k hk
  rw [stopKnobs] at hk
  cases hk

theorem proved : Rows.LawS3905AIndexToldSaid :=
  Claim7.holds_of_told_tied_any_at .later 3 Ybaf.f3 "fmt.errorf" [] [] _ _ _ _ _ (by kernel_rfl) rfl rfl rfl laidOut (by kernel_rfl) rfl ⟨rfl, rfl, rfl, rfl, rfl, rfl, rfl⟩ rfl rfl (by kernel_rfl) (by kernel_rfl) Ybaf.func3 (by kernel_rfl)
    (of_decide_eq_true (by kernel_rfl)) (by unfold Func.isWrapper; first | (rw [if_pos (by decide +kernel)]; kernel_rfl) | (rw [if_neg (by decide +kernel)]; exact ⟨rfl, rfl⟩)) stops.symm rfl stopKnobs.symm (by kernel_rfl)
    (by kernel_rfl) (by kernel_rfl) (by kernel_rfl) (by kernel_rfl) (by kernel_rfl) (by kernel_rfl) (by kernel_rfl) (by kernel_rfl) (by kernel_rfl) rfl (by kernel_rfl) rfl rfl
    rfl rfl
    rfl (by kernel_rfl) (by kernel_rfl) (by kernel_rfl) (by decide) (by kernel_rfl) lawS3905AIndex_row_tie
    (OpenClaim.moreEntering_of (by kernel_rfl) (by kernel_rfl) (by kernel_rfl) (by kernel_rfl) (by kernel_rfl) (by kernel_rfl) (by kernel_rfl) (by kernel_rfl) (by kernel_rfl) (by kernel_rfl))
    ⟨_, WideRow.started_initial, quiet _⟩
    (fun os started _ H enc _ => lifted os started H enc)
end Go.Proofs.YbulkcbvsFmt.index
