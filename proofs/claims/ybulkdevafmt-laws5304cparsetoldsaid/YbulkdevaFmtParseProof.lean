/- 'LawS5304CParse': the told and tied card. -/
import Derived.Test.YbulkdevaFmtLaidC
import Derived.Test.YbulkdevaFmtParseWalk
namespace Go.Proofs.YbulkdevaFmt
open Go.ChangeShapes Go.WideShapes Go.ChangeAt Go.RowKit
open Go.Extern.Stop Go.Stop Go.Extern

/-- A slice of bytes that came in, as the walk wants it. -/
theorem txt_open {w : World} {a : Option Addr} {len cap : Nat} {zs : List Int} (h : (a = none ∧ len = 0 ∧ cap = 0 ∧ zs = []) ∨
    ∃ x, a = some x ∧ len ≤ cap ∧ zs.length = cap ∧ (∀ i, i < zs.length → w.cell? (x.add i) = some (.int .u8 (zs.getD i 0))) ∧ ∀ n ∈ zs, (Lit.int .u8 n).wf = true) :
    Txt w a len (fun i => zs.getD i 0) ∧ ∀ i, 0 ≤ zs.getD i 0 ∧ zs.getD i 0 ≤ 255 := by
  rcases h with ⟨_, h1, h2, h3⟩ | ⟨x, rfl, hl, hz, hc, hw⟩
  · subst h1 h2 h3
    exact ⟨fun h => by omega, fun i => by simp⟩
  · refine ⟨fun hp => ?_, fun i => ?_⟩
    · obtain ⟨b, off, sp⟩ := x
      have h0 := hc 0 (by omega)
      have e0 : ∀ x : Addr, x.add 0 = x := fun x => by simp [Addr.add]
      rw [e0] at h0
      have hsp : sp = none := by
        unfold World.cell? at h0
        split at h0
        · by_cases hs : sp.isSome = true
          · rw [if_pos hs] at h0; cases h0
          · simpa using hs
        · cases h0
      subst hsp
      exact ⟨b, off, rfl, World.block_lt_of_cell? w _ h0, fun i hi => by have := hc i (by omega); rwa [addr_add] at this⟩
    · by_cases hi : i < zs.length
      · have hm : zs.getD i 0 ∈ zs := by simp [hi]
        exact bounds_u8 (hw _ hm)
      · have : zs.getD i 0 = 0 := by simp [List.getElem?_eq_none (Nat.le_of_not_lt hi)]
        rw [this]; omega

theorem parse_all (F : Interp) (a : Option Addr) (n cap : Nat) (raw : Bool) (start : Int) (ds : Nat → Int) (w : World) (hF : F.answers w.tape) (hP : PL w) (hT : Txt w a n ds) (hd : ∀ i, 0 ≤ ds i ∧ ds i ≤ 255) :
    Calls Ybaf.prog 5 #[.slice a n cap, .bool raw, .int .u64 start] w fun e w' => e = .returned (.bool true) ∧ Below w.heap.size w w' := by
  by_cases h : (1024 : Int) < n
  · exact parseBig a n cap raw start w h
  · exact parseMain F a n cap raw start ds w hF hP hT hd h

set_option maxRecDepth 100000 in
theorem parse_lifted (os : Os) (started : os.Started) (H : Type) (enc : TypeId × Value → H) :
    ReturnsInTold none {} Ybaf.checked os 5 .any Input.okWide ((OpenSpec.ofChange Rows.lawS5304CParseSpec).preRow enc Ybaf.prog Ybaf.f5 Rows.lawS5304CParseRow.domain false Rows.lawS5304CParseRow.laid)
      (fun F => ((OpenSpec.ofChange Rows.lawS5304CParseSpec).at F).post enc Ybaf.prog Ybaf.f5 false true false false) (aloneAtReturn Ybaf.prog) nothingAlways := by
  refine returnsInTold_of_row (C := Ybaf.checked) (s := OpenSpec.ofChange Rows.lawS5304CParseSpec) (by kernel_rfl) own started (by kernel_rfl) Ybaf.func5
    (wit (enc := enc) (C := Ybaf.checked) (os := os) (World.laidAll Ybaf.prog os laidC) #[.slice none 0 0, .bool false, .int .u64 0] (World.laidAll_os _ _ _) (World.shaped_of_ZipB (by kernel_rfl) (by kernel_rfl)) (by kernel_rfl)
      (OpenSpec.preRow_of_B rfl 8 (by kernel_rfl) (by kernel_rfl) (by rw [MakeChecks.laidMetH_plain _ _ _ (by kernel_rfl)]; exact laidMet_laidAll _ (by kernel_rfl) (by kernel_rfl)))) ?_
  intro F W base args ds gs before _ hF hval0 hW _ _ _ hL _
  have hval : ∀ (j : Nat) t v, Ybaf.f5.params[j]? = some t → args[j]? = some v → Value.okWide Ybaf.prog W .any base t v := hval0
  have hW' := hW
  obtain ⟨p, q, hA0, hV0, rfl, hfz, hnd⟩ := hW
  have hA : DataW.TrodAll enc Ybaf.prog W 0 (fun _ => true) true Ybaf.f5.params.toList args.toList ds p := hA0
  have hV : DataW.TrodVars enc Ybaf.prog W (fun _ => true) ["example.com/fair-witness/fair-witness/layout.permLetters"] gs q := hV0
  rw [Ybaf.params5] at hA hval
  obtain ⟨v0, v1, v2, d0, d1, d2, p0, p1, p2, rfl, rfl, rfl, h0, h1, h2⟩ := trodAll_three hA
  obtain ⟨a0, len0, cap0, rfl⟩ := okWide_slice Ybaf.underlying22 (hval 0 22 v0 rfl rfl)
  obtain ⟨raw, rfl, rfl, rfl⟩ := open_bool Ybaf.underlying4 (hval 1 4 v1 rfl rfl) h1
  obtain ⟨y, rfl, rfl, rfl, wy⟩ := open_int Ybaf.underlying35 (hval 2 35 v2 rfl rfl) h2
  have k0 := h0
  have lt0 : ∀ x ∈ p0, x.block < W.heap.size := by obtain ⟨m, hm⟩ := k0; exact DataW.trod_lt m _ _ _ hm
  obtain ⟨bs, hbs, hbd⟩ : ∃ bs : Nat → Int, Txt W a0 len0 bs ∧ ∀ i, 0 ≤ bs i ∧ bs i ≤ 255 := by
    obtain ⟨fuel, hf⟩ := h0
    rcases open_ints Ybaf.underlying22 Ybaf.underlying5 (by kernel_rfl) hf with ⟨hcs, _⟩ | ⟨x, l, c, zs, hcs, _, hl, hm, hz, _, hcell, hwz⟩
    · simp [Value.cells] at hcs
      obtain ⟨rfl, rfl, rfl⟩ := hcs
      exact ⟨_, txt_open (cap := 0) (zs := []) (.inl ⟨rfl, rfl, rfl, rfl⟩)⟩
    · simp [Value.cells] at hcs
      obtain ⟨rfl, rfl, rfl⟩ := hcs
      exact ⟨_, txt_open (cap := cap0) (zs := zs) (.inr ⟨_, rfl, hl, by simpa using hz, hcell, hwz⟩)⟩
  have hP : PL W := PL_of_laid hL
  refine (parse_all F.told a0 len0 cap0 raw y bs W hF hP hbs hbd).mono fun e W' ⟨he, bel⟩ => ?_
  subst he
  obtain ⟨g, rfl, hps⟩ := plVars_again hV hP.1 bel (fun x hx => DataW.TrodVars.lt hV x hx)
  exact ⟨_, rfl, _, _, _, [], _, q, hW', trodAll_mk1 (shut_bool Ybaf.underlying4 _), trodAll_mk3 (Below.trod laidOut (by kernel_rfl) (of_decide_eq_true (by kernel_rfl)) k0 bel lt0) (shut_bool Ybaf.underlying4 _) (shut_int Ybaf.underlying35 wy), hps, bel.frame _, fun h => by cases h⟩

theorem stopsIsP : Ybaf.pinned.checked.prog.stops = ["fmt.Sprintf", "fmt.errorf"] := by kernel_rfl
theorem stopKnobsIsP : Ybaf.pinned.checked.prog.stopKnobs = [] := by kernel_rfl
theorem quietIsP (os : Os) : Stop.quiet Ybaf.pinned.checked.prog os := by
  intro k hk
  rw [stopKnobsIsP] at hk
  cases hk

/-- ████ THE STATEMENT ████ -/
theorem parse_card : Rows.LawS5304CParseToldSaid :=
  Claim7.holds_of_told_tied_any_at .later 5 Ybaf.f5 "fmt.Sprintf" ["fmt.errorf"] [] _ _ _ _ _ (by kernel_rfl) rfl rfl rfl laidOut (by kernel_rfl) rfl ⟨rfl, rfl, rfl, rfl, rfl, rfl, rfl⟩ rfl rfl (by kernel_rfl) (by kernel_rfl) Ybaf.func5 (by kernel_rfl)
    (of_decide_eq_true (by kernel_rfl)) (by unfold Func.isWrapper; first | (rw [if_pos (by decide +kernel)]; kernel_rfl) | (rw [if_neg (by decide +kernel)]; exact ⟨rfl, rfl⟩)) stopsIsP.symm rfl stopKnobsIsP.symm (by kernel_rfl)
    (by kernel_rfl) (by kernel_rfl) (by kernel_rfl) (by kernel_rfl) (by kernel_rfl) (by kernel_rfl) (by kernel_rfl) (by kernel_rfl) (by kernel_rfl) rfl (by kernel_rfl) rfl rfl
    rfl rfl
    rfl (by kernel_rfl) (by kernel_rfl) (by kernel_rfl) (by decide) (by kernel_rfl) lawS5304CParse_row_tie
    (OpenClaim.moreEntering_of (by kernel_rfl) (by kernel_rfl) (by kernel_rfl) (by kernel_rfl) (by kernel_rfl) (by kernel_rfl) (by kernel_rfl) (by kernel_rfl) (by kernel_rfl) (by kernel_rfl))
    ⟨_, WideRow.started_initial, quietIsP _⟩
    (fun os started _ H enc _ => parse_lifted os started H enc)
end Go.Proofs.YbulkdevaFmt
