/- 'LawS5304ARoundTrip': the told and tied card. -/
import Derived.Test.YbulkdevaFmtLaidC
import Derived.Test.YbulkdevaFmtAtt
import Derived.SliceStrings
namespace Go.Proofs.YbulkdevaFmt
open Go.ChangeShapes Go.WideShapes Go.ChangeAt Go.RowKit
open Go.Extern.Stop Go.Stop Go.Extern
theorem gAT : Ybaf.prog.globalNamed "example.com/fair-witness/fair-witness/manifest.attestationTexts" = some 0 := by kernel_rfl
theorem tAT : (Ybaf.prog.globals[0]?).map (·.type) = some 43 := by kernel_rfl
def laidA : List (String × DataW Unit) := [("example.com/fair-witness/fair-witness/manifest.attestationTexts", Rows.laid_example_com_fair_witness_fair_witness_manifest_attestationTexts)]
theorem c9 : Ybaf.prog.cellsOf 9 = 1 := by kernel_rfl
theorem ba_of {s : ByteArray} {l : List UInt8} (h : l = s.data.toList) : s = ⟨l.toArray⟩ := by
  subst h
  cases s
  simp
theorem AT_of_laid {W : World} (h : laidMetH Ybaf.prog laidA W) : ∃ b off, AT b off W := by
  rw [MakeChecks.laidMetH_plain _ _ _ (by kernel_rfl)] at h
  obtain ⟨ps, ⟨g0, t0, cs0, f0, p0, q0, hg0, ht0, hv0, hd0, _, _⟩, _, _⟩ := h
  obtain rfl := Option.some.inj (gAT.symm.trans hg0)
  obtain rfl := Option.some.inj (tAT.symm.trans ht0)
  have hvar := World.var?_cell hg0 hv0
  rcases open_strings Ybaf.underlying43 Ybaf.underlying9 c9 hd0 with ⟨_, hx⟩ | ⟨a, len, cap, ss, hcs, _, hl, _, hlen, hx, hcell, _⟩
  · simp [Rows.laid_example_com_fair_witness_fair_witness_manifest_attestationTexts] at hx
  · simp only [Rows.laid_example_com_fair_witness_fair_witness_manifest_attestationTexts, Prod.mk.injEq, DataW.slice.injEq, strs] at hx
    obtain ⟨⟨h1, h2⟩, _⟩ := hx
    simp at hlen
    have hd : ss.drop len = [] := by simpa using h2.symm
    have hle : ss.length ≤ len := by simpa using hd
    have hll : len = ss.length := by omega
    have hcc : cap = ss.length := by omega
    rw [List.take_of_length_le hle] at h1
    have h3 : ss.length = 3 := by simpa using (congrArg List.length h1).symm
    match ss, h3 with
    | [s0, s1, s2], _ =>
      simp at h1
      obtain ⟨e0, e1, e2⟩ := h1
      have n0 : s0 = nm 0 := ba_of e0
      have n1 : s1 = nm 1 := ba_of e1
      have n2 : s2 = nm 2 := ba_of e2
      subst n0 n1 n2
      have k0 := hcell 0 (by decide)
      have k1 := hcell 1 (by decide)
      have k2 := hcell 2 (by decide)
      simp at k0 k1 k2 hll hcc
      subst hll hcc
      have hv := hvar 0
      obtain ⟨l⟩ := cs0
      simp only at hcs
      subst hcs
      simp at hv
      obtain ⟨ab, ao, av⟩ := a
      cases av with
      | none =>
        refine ⟨ab, ao, World.block_lt_of_cell? W _ hv, World.block_lt_of_cell? W _ k0, hv, fun i hi => ?_⟩
        have h : i = 0 ∨ i = 1 ∨ i = 2 := by omega
        rcases h with rfl | rfl | rfl
        · simpa [Addr.add] using k0
        · simpa [Addr.add] using k1
        · simpa [Addr.add] using k2
      | some v =>
        exfalso
        unfold World.cell? at k0
        split at k0
        · simp [Addr.add] at k0
        · cases k0
/-- The named table reads behind the call as it did. -/
theorem atVars_again {H : Type} {enc : TypeId × Value → H} {W W' : World} {gs : List (DataW H)} {q : List MemPlace} (hV : DataW.TrodVars enc Ybaf.prog W (fun _ => true) ["example.com/fair-witness/fair-witness/manifest.attestationTexts"] gs q) (hG : 0 < W.heap.size) (b : Below W.heap.size W W')
    (hlt : ∀ x ∈ q, x.block < W.heap.size) :
    ∃ g, gs = [g] ∧ DataW.TrodVars enc Ybaf.prog W' (fun b => decide (b < W.heap.size)) ["example.com/fair-witness/fair-witness/manifest.attestationTexts"] [g] q := by
  obtain ⟨g, t, cs, f, d, p, rfl, k1, k2, k3, k4, rfl⟩ := trodVars_one hV
  obtain rfl := Option.some.inj (gAT.symm.trans k1)
  obtain rfl := Option.some.inj (tAT.symm.trans k2)
  obtain ⟨a, l, c, hv⟩ : ∃ a l c, cs.toList = [.slice a l c] := by
    rcases open_strings Ybaf.underlying43 Ybaf.underlying9 c9 k4 with ⟨h, _⟩ | ⟨a, l, c, ss, h, _⟩ <;> exact ⟨_, _, _, h⟩
  rw [hv] at k4
  have hT : DataW.Trod enc Ybaf.prog W 0 (fun _ => true) true 43 (.slice a l c) d p := ⟨f, by simpa [Value.cells] using k4⟩
  obtain ⟨f2, h2⟩ := Below.trod laidOut (by kernel_rfl) (of_decide_eq_true (by kernel_rfl)) hT b (fun x hx => hlt x (by simp [hx]))
  exact ⟨d, rfl, trodVars_mk1 gAT tAT (var?_below b gAT hG k3) (by rw [hv]; simpa [Value.cells] using h2)⟩
set_option maxRecDepth 100000 in
theorem art_lifted (os : Os) (started : os.Started) (H : Type) (enc : TypeId × Value → H) :
    ReturnsInTold none {} Ybaf.checked os 4 .any Input.okWide ((OpenSpec.ofChange Rows.lawS5304ARoundTripSpec).preRow enc Ybaf.prog Ybaf.f4 Rows.lawS5304ARoundTripRow.domain false Rows.lawS5304ARoundTripRow.laid)
      (fun F => ((OpenSpec.ofChange Rows.lawS5304ARoundTripSpec).at F).post enc Ybaf.prog Ybaf.f4 false true false false) (aloneAtReturn Ybaf.prog) nothingAlways := by
  refine returnsInTold_of_row (C := Ybaf.checked) (s := OpenSpec.ofChange Rows.lawS5304ARoundTripSpec) (by kernel_rfl) own started (by kernel_rfl) Ybaf.func4
    (wit (enc := enc) (C := Ybaf.checked) (os := os) (World.laidAll Ybaf.prog os laidA) #[.int .u8 0, .int .i64 0] (World.laidAll_os _ _ _) (World.shaped_of_ZipB (by kernel_rfl) (by kernel_rfl)) (by kernel_rfl)
      (OpenSpec.preRow_of_B rfl 8 (by kernel_rfl) (by kernel_rfl) (by rw [MakeChecks.laidMetH_plain _ _ _ (by kernel_rfl)]; exact laidMet_laidAll _ (by kernel_rfl) (by kernel_rfl)))) ?_
  intro F W base args ds gs before _ hF hval0 hW _ _ _ hL _
  have hval : ∀ (j : Nat) t v, Ybaf.f4.params[j]? = some t → args[j]? = some v → Value.okWide Ybaf.prog W .any base t v := hval0
  have hW' := hW
  obtain ⟨p, q, hA0, hV0, rfl, hfz, hnd⟩ := hW
  have hA : DataW.TrodAll enc Ybaf.prog W 0 (fun _ => true) true Ybaf.f4.params.toList args.toList ds p := hA0
  have hV : DataW.TrodVars enc Ybaf.prog W (fun _ => true) ["example.com/fair-witness/fair-witness/manifest.attestationTexts"] gs q := hV0
  rw [Ybaf.params4] at hA hval
  obtain ⟨v0, v1, d0, d1, p0, p1, rfl, rfl, rfl, h0, h1⟩ := trodAll_two hA
  obtain ⟨x, rfl, rfl, rfl, wx⟩ := open_int Ybaf.underlying5 (hval 0 5 v0 rfl rfl) h0
  obtain ⟨y, rfl, rfl, rfl, wy⟩ := open_int Ybaf.underlying3 (hval 1 3 v1 rfl rfl) h1
  obtain ⟨b, off, hP⟩ := AT_of_laid hL
  have hx := bounds_u8 wx
  refine (art_walk x y (by omega) b off W hP).mono fun e W' ⟨he, bel⟩ => ?_
  subst he
  obtain ⟨g, rfl, hps⟩ := atVars_again hV hP.1 bel (fun x hx => DataW.TrodVars.lt hV x hx)
  exact ⟨_, rfl, _, _, _, [], [], q, hW', trodAll_mk1 (shut_bool Ybaf.underlying4 _), trodAll_mk2 (shut_int Ybaf.underlying5 wx) (shut_int Ybaf.underlying3 wy), hps, bel.frame _, fun h => by cases h⟩

theorem stopsIsA : Ybaf.pinned.checked.prog.stops = ["fmt.Sprintf", "fmt.errorf"] := by kernel_rfl
theorem stopKnobsIsA : Ybaf.pinned.checked.prog.stopKnobs = [] := by kernel_rfl
theorem quietIsA (os : Os) : Stop.quiet Ybaf.pinned.checked.prog os := by
  intro k hk
  rw [stopKnobsIsA] at hk
  cases hk

/-- ████ THE STATEMENT ████ -/
theorem art_card : Rows.LawS5304ARoundTripToldSaid :=
  Claim7.holds_of_told_tied_any_at .later 4 Ybaf.f4 "fmt.Sprintf" ["fmt.errorf"] [] _ _ _ _ _ (by kernel_rfl) rfl rfl rfl laidOut (by kernel_rfl) rfl ⟨rfl, rfl, rfl, rfl, rfl, rfl, rfl⟩ rfl rfl (by kernel_rfl) (by kernel_rfl) Ybaf.func4 (by kernel_rfl)
    (of_decide_eq_true (by kernel_rfl)) (by unfold Func.isWrapper; first | (rw [if_pos (by decide +kernel)]; kernel_rfl) | (rw [if_neg (by decide +kernel)]; exact ⟨rfl, rfl⟩)) stopsIsA.symm rfl stopKnobsIsA.symm (by kernel_rfl)
    (by kernel_rfl) (by kernel_rfl) (by kernel_rfl) (by kernel_rfl) (by kernel_rfl) (by kernel_rfl) (by kernel_rfl) (by kernel_rfl) (by kernel_rfl) rfl (by kernel_rfl) rfl rfl
    rfl rfl
    rfl (by kernel_rfl) (by kernel_rfl) (by kernel_rfl) (by decide) (by kernel_rfl) lawS5304ARoundTrip_row_tie
    (OpenClaim.moreEntering_of (by kernel_rfl) (by kernel_rfl) (by kernel_rfl) (by kernel_rfl) (by kernel_rfl) (by kernel_rfl) (by kernel_rfl) (by kernel_rfl) (by kernel_rfl) (by kernel_rfl))
    ⟨_, WideRow.started_initial, quietIsA _⟩
    (fun os started _ H enc _ => art_lifted os started H enc)
end Go.Proofs.YbulkdevaFmt
