/- 'LawS5307CJoin': the told and tied card. -/
import Derived.Test.YbulkdewqFmtJWit
namespace Go.Proofs.YbulkdewqFmt
open Go.ChangeShapes Go.WideShapes Go.ChangeAt Go.WideMaps Go.WideElems Go.RowKit
open Go.Extern.Stop Go.Stop Go.Extern
theorem trodVars_cons {H : Type} {enc : TypeId × Value → H} {P : Program} {w : World} {sp : Nat → Bool} {n : String} {ns : List String} {gs : List (DataW H)} {ps : List MemPlace} (h : DataW.TrodVars enc P w sp (n :: ns) gs ps) : ∃ d ds q, gs = d :: ds ∧ DataW.TrodVars enc P w sp ns ds q := by
  cases gs with
  | nil => exact h.elim
  | cons d ds =>
    obtain ⟨_, _, _, _, _, q, _, _, _, _, hs, _⟩ := h
    exact ⟨d, ds, q, rfl, hs⟩
set_option maxRecDepth 100000 in
theorem join_lifted (os : Os) (started : os.Started) (H : Type) (enc : TypeId × Value → H) :
    ReturnsInTold none {} Ybaf.checked os 5 .any Input.okWide ((OpenSpec.ofChange Rows.lawS5307CJoinSpec).preRow enc Ybaf.prog Ybaf.f5 Rows.lawS5307CJoinRow.domain false Rows.lawS5307CJoinRow.laid)
      (fun F => ((OpenSpec.ofChange Rows.lawS5307CJoinSpec).at F).post enc Ybaf.prog Ybaf.f5 false true false false) (aloneAtReturn Ybaf.prog) nothingAlways := by
  refine returnsInTold_of_row (C := Ybaf.checked) (s := OpenSpec.ofChange Rows.lawS5307CJoinSpec) (by kernel_rfl) own started (by kernel_rfl) Ybaf.func5
    (join_wit os H enc) ?_
  intro F W base args ds gs before _ hF hval0 hW _ _ _ hL _
  have hval : ∀ (j : Nat) t v, Ybaf.f5.params[j]? = some t → args[j]? = some v → Value.okWide Ybaf.prog W .any base t v := hval0
  have hW' := hW
  obtain ⟨p, q, hA0, hV0, rfl, hfz, hnd⟩ := hW
  have hA : DataW.TrodAll enc Ybaf.prog W 0 (fun _ => true) true Ybaf.f5.params.toList args.toList ds p := hA0
  have hV : DataW.TrodVars enc Ybaf.prog W (fun _ => true) Rows.lawS5307CJoinSpec.vars gs q := hV0
  rw [Ybaf.params5] at hA hval
  obtain ⟨v0, d0, rfl, rfl, h0⟩ := trodAll_one hA
  obtain ⟨a0, len0, cap0, rfl⟩ := okWide_slice Ybaf.underlying106 (hval 0 106 v0 rfl rfl)
  have k0 := h0
  have lt0 : ∀ x ∈ p, x.block < W.heap.size := by obtain ⟨m, hm⟩ := k0; exact DataW.trod_lt m _ _ _ hm
  obtain ⟨fuel, hf⟩ := h0
  obtain ⟨a, n, c, e, hcs, hnc, hcm, hnil, hI, hb⟩ := open_in hf
  simp [Value.cells] at hcs
  obtain ⟨rfl, rfl, rfl⟩ := hcs
  obtain ⟨m, o, bn, on, cn, hN, hLk, hG⟩ := GJ_of_laid hL
  have walk : Calls Ybaf.prog 5 #[.slice a0 len0 cap0] W fun r w' => r = .returned (.bool true) ∧ Below W.heap.size W w' := by
    by_cases hn : len0 ≤ 1024
    · exact join_walk F m o bn on cn hLk hN a0 len0 cap0 e W hF hG hI hnil hn hnc hb
    · exact join_big a0 len0 cap0 W (by omega) (by omega)
  refine walk.mono fun r W' ⟨he, bel⟩ => ?_
  subst he
  have hps := Below.trodVars laidOut bel (by kernel_rfl) hV
  obtain ⟨g1, r1, q1, rfl, hV1⟩ := trodVars_cons hV
  obtain ⟨g2, r2, q2, rfl, hV2⟩ := trodVars_cons hV1
  obtain ⟨g3, r3, q3, rfl, hV3⟩ := trodVars_cons hV2
  obtain ⟨g4, r4, q4, rfl, hV4⟩ := trodVars_cons hV3
  obtain ⟨rfl, rfl⟩ := trodVars_none hV4
  exact ⟨_, rfl, _, _, _, [], _, q, hW', trodAll_mk1 (shut_bool Ybaf.underlying4 _), trodAll_mk1 (Below.trod laidOut (by kernel_rfl) (of_decide_eq_true (by kernel_rfl)) k0 bel lt0), hps, bel.frame _, fun h => by cases h⟩
theorem stopsIs : Ybaf.pinned.checked.prog.stops = ["fmt.Sprint", "fmt.Sprintf, its operands' methods called", "fmt.errorf, its operands' methods called"] := by kernel_rfl
theorem stopKnobsIs : Ybaf.pinned.checked.prog.stopKnobs = [] := by kernel_rfl
theorem quietIs (os : Os) : Stop.quiet Ybaf.pinned.checked.prog os := by
  intro k hk
  rw [stopKnobsIs] at hk
  cases hk
set_option maxRecDepth 100000 in
/-- ████ THE STATEMENT ████ -/
theorem join_card : Rows.LawS5307CJoinToldSaid :=
  Claim7.holds_of_told_tied_any_at .later 5 Ybaf.f5 "fmt.Sprint" ["fmt.Sprintf, its operands' methods called", "fmt.errorf, its operands' methods called"] [] _ _ _ _ _ (by kernel_rfl) rfl rfl rfl laidOut (by kernel_rfl) rfl ⟨rfl, rfl, rfl, rfl, rfl, rfl, rfl⟩ rfl rfl (by kernel_rfl) (by kernel_rfl) Ybaf.func5 (by kernel_rfl)
    (of_decide_eq_true (by kernel_rfl)) (by unfold Func.isWrapper; first | (rw [if_pos (by decide +kernel)]; kernel_rfl) | (rw [if_neg (by decide +kernel)]; exact ⟨rfl, rfl⟩)) stopsIs.symm rfl stopKnobsIs.symm (by kernel_rfl)
    (by kernel_rfl) (by kernel_rfl) (by kernel_rfl) (by kernel_rfl) (by kernel_rfl) (by kernel_rfl) (by kernel_rfl) (by kernel_rfl) (by kernel_rfl) rfl (by kernel_rfl) rfl rfl
    rfl rfl
    rfl (by kernel_rfl) (by kernel_rfl) (by kernel_rfl) (by decide) (by kernel_rfl) lawS5307CJoin_row_tie
    (OpenClaim.moreEntering_of (by kernel_rfl) (by kernel_rfl) (by kernel_rfl) (by kernel_rfl) (by kernel_rfl) (by kernel_rfl) (by kernel_rfl) (by kernel_rfl) (by kernel_rfl) (by kernel_rfl))
    ⟨_, WideRow.started_initial, quietIs _⟩
    (fun os started _ H enc _ => join_lifted os started H enc)
end Go.Proofs.YbulkdewqFmt
