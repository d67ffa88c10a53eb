/- 'LawS5303AKeeps': the row and the tied card. -/
import Derived.Test.YbulkdeumDoorKeepOpen
import Derived.Test.YbulkdeumDoorKeepWalk
import Derived.Test.YbulkdeumDoorRawProof
namespace Go.Proofs.YbulkdeumDoor
open Go.ChangeShapes Go.WideShapes Go.ChangeAt Go.RowKit

/-- The law on every input. -/
theorem keeps_all (a0 a2 : Option Addr) (l0 c0 l2 c2 : Nat) (r : Int) (es : Nat → En) (ts : Nat → Int) (z4 z6 : Option Addr) (et : TypeId) (ev : Value) (w : World) (hG : Gl z4 z6 et ev w) (hr : 0 ≤ r ∧ r ≤ 255)
    (he : Entries w a0 l0 es) (ht : Bytes w a2 l2 c2 ts) (hnil : a2 = none → l2 = 0 ∧ c2 = 0) :
    Calls Ybad.prog 3 #[.slice a0 l0 c0, .int .u8 r, .slice a2 l2 c2] w fun e w' => e = .returned (.bool true) ∧ Below w.heap.size w w' := by
  by_cases h0 : (1024 : Int) < l0
  · exact keepsBig1 a0 a2 l0 c0 l2 c2 r w h0
  by_cases h2 : (1024 : Int) < l2
  · exact keepsBig2 a0 a2 l0 c0 l2 c2 r w h0 h2
  obtain ⟨R, hR, hR1⟩ : ∃ R : Nat, r % 40 + 1 = R ∧ R ≤ 40 := ⟨(r % 40 + 1).toNat, by omega, by omega⟩
  have hT : (l0 : Int) * R = ((l0 * R : Nat) : Int) := by rw [Int.natCast_mul]
  have hTb : l0 * R ≤ 40960 := Nat.le_trans (Nat.mul_le_mul (show l0 ≤ 1024 by omega) hR1) (by decide)
  by_cases h3 : (4096 : Int) < ((l0 * R : Nat) : Int)
  · exact keepsBig3 a0 a2 l0 c0 l2 c2 R (l0 * R) r w h0 h2 hr hR hT (by omega) h3
  · exact keepsMain a0 a2 l0 c0 l2 c2 R (l0 * R) r es ts z4 z6 et ev w hG h0 h2 hr hR hT (by omega) he ht hnil

set_option maxRecDepth 100000 in
theorem keeps_lifted (os : Os) (started : os.Started) (H : Type) (enc : TypeId × Value → H) :
    ReturnsInHanded {} Ybad.checked os 3 .any (fun w args => (Rows.lawS5303AKeepsSpec.pre enc Ybad.prog Ybad.f3 [] false w args ∧ laidMetH Ybad.prog laid3 w) ∧ sizedMet enc Ybad.prog Ybad.f3 (OpenSpec.ofChange Rows.lawS5303AKeepsSpec) false w args)
      (Rows.lawS5303AKeepsSpec.post enc Ybad.prog Ybad.f3 false true false false) := by
  refine returnsInHanded_of_change_and (C := Ybad.checked) (X := fun w _ => laidMetH Ybad.prog laid3 w) (fun _ _ _ hh h => h.of_heap hh) own started (by kernel_rfl) Ybad.func3
    (ChangeSpec.witness_shaped (enc := enc) (C := Ybad.checked) (os := os) (X := fun w _ => laidMetH Ybad.prog laid3 w) false (World.laidAll Ybad.prog os laid3) #[.slice none 0 0, .int .u8 0, .slice none 0 0] 8 (World.laidAll_os _ _ _)
      (World.shaped_of_ZipB (by kernel_rfl) (by kernel_rfl)) (by kernel_rfl) (by kernel_rfl) (by kernel_rfl)
      (by rw [MakeChecks.laidMetH_plain _ _ _ (by kernel_rfl)]; exact laidMet_laidAll _ (by kernel_rfl) (by kernel_rfl))) ?_
  intro W base args ds gs before hval0 hW _ _ hL _
  have hval : ∀ (j : Nat) t v, Ybad.f3.params[j]? = some t → args[j]? = some v → Value.okWide Ybad.prog W .any base t v := hval0
  have hW' := hW
  obtain ⟨p, q, hA0, hV0, rfl, hfz, hnd⟩ := hW
  have hA : DataW.TrodAll enc Ybad.prog W 0 (fun _ => true) true Ybad.f3.params.toList args.toList ds p := hA0
  have hV : DataW.TrodVars enc Ybad.prog W (fun _ => true) ["example.com/sluice/sluice/internal/wire.ErrShortBody"] gs q := hV0
  rw [Ybad.params3] at hA hval
  obtain ⟨v0, v1, v2, d0, d1, d2, p0, p1, p2, rfl, rfl, rfl, h0, h1, h2⟩ := trodAll_three hA
  obtain ⟨a0, len0, cap0, rfl⟩ := okWide_slice Ybad.underlying22 (hval 0 22 v0 rfl rfl)
  obtain ⟨r, rfl, rfl, rfl, wr⟩ := open_int Ybad.underlying5 (hval 1 5 v1 rfl rfl) h1
  obtain ⟨a2, len2, cap2, rfl⟩ := okWide_slice Ybad.underlying23 (hval 2 23 v2 rfl rfl)
  have k0 := h0
  have k2 := h2
  have lt0 : ∀ x ∈ p0, x.block < W.heap.size := by obtain ⟨m, hm⟩ := k0; exact DataW.trod_lt m _ _ _ hm
  have lt2 : ∀ x ∈ p2, x.block < W.heap.size := by obtain ⟨m, hm⟩ := k2; exact DataW.trod_lt m _ _ _ hm
  obtain ⟨es, hes⟩ : ∃ es, Entries W a0 len0 es := by
    obtain ⟨fuel, hf⟩ := h0
    exact entries_open (by simpa [Value.cells] using hf)
  obtain ⟨bs, hbs, hnil⟩ : ∃ bs, Bytes W a2 len2 cap2 bs ∧ (a2 = none → len2 = 0 ∧ cap2 = 0) := by
    obtain ⟨fuel, hf⟩ := h2
    rcases open_ints Ybad.underlying23 Ybad.underlying5 (by kernel_rfl) hf with ⟨hcs, _⟩ | ⟨x, l, c, zs, hcs, _, hl, hm, hz, _, hcell, hwz⟩
    · simp [Value.cells] at hcs
      obtain ⟨rfl, rfl, rfl⟩ := hcs
      exact ⟨_, bytes_open (zs := []) (.inl ⟨rfl, rfl, rfl, rfl⟩), fun _ => ⟨rfl, rfl⟩⟩
    · simp [Value.cells] at hcs
      obtain ⟨rfl, rfl, rfl⟩ := hcs
      exact ⟨_, bytes_open (zs := zs) (.inr ⟨_, rfl, hl, by simpa using hz, hcell, hwz⟩), fun h => by cases h⟩
  obtain ⟨z4, z6, et, ev, hG⟩ := of_laid hL
  clear hA0 hval0
  refine (keeps_all a0 a2 len0 cap0 len2 cap2 r es bs z4 z6 et ev W hG (bounds_u8 wr) hes hbs hnil).mono fun e W' ⟨he, bel⟩ => ?_
  subst he
  obtain ⟨g, rfl, ps, hps⟩ := vars_again hV hG.1 bel (fun b => decide (b < W.heap.size))
  exact ⟨_, rfl, _, _, _, [], _, ps, hW', trodAll_mk1 (shut_bool Ybad.underlying4 _), trodAll_mk3 (Below.trod laidOut (by kernel_rfl) (of_decide_eq_true (by kernel_rfl)) k0 bel lt0) (shut_int Ybad.underlying5 wr) (Below.trod laidOut (by kernel_rfl) (of_decide_eq_true (by kernel_rfl)) k2 bel lt2), hps, bel.frame _, fun h => by cases h⟩

theorem keeps_holds : Rows.LawS5303AKeepsSaid :=
  OpenClaim.holds_of_wide 3 Ybad.f3 rfl rfl rfl rfl rfl rfl rfl ⟨rfl, rfl, rfl, rfl, rfl⟩ rfl rfl rfl rfl rfl (by kernel_rfl) Ybad.func3 (by kernel_rfl)
    (of_decide_eq_true (by kernel_rfl)) (by unfold Func.isWrapper; first | (rw [if_pos (by decide +kernel)]; kernel_rfl) | (rw [if_neg (by decide +kernel)]; exact ⟨rfl, rfl⟩))
    (fun os started H enc _ => keeps_lifted os started H enc)

/-- ████ THE STATEMENT ████ -/
theorem keeps_card : Rows.LawS5303AKeepsCardSaid :=
  Claim7.holds_tied_plain_at .later [] [.called, .called, .sentinel] true (true, "98fa20cf3dae719de8f9750cfc3dcb5631ad5ca52509d1451ff774988008dec9") false
    keeps_holds (fun _ h => by cases h) (by kernel_rfl) (fun _ h => by cases h) lawS5303AKeeps_row_tie rfl ⟨rfl, rfl⟩ (by kernel_rfl) rfl
    (fun f fn hf hfn => by
      obtain rfl : f = 3 := Option.some.inj ((show Ybad.prog.funcNamed "example.com/sluice/sluice/internal/peer.LawS5303AKeeps" = some 3 by kernel_rfl).symm.trans hf) |>.symm
      obtain rfl : fn = Ybad.f3 := (Option.some.inj (Ybad.func3.symm.trans hfn)).symm
      exact ⟨by kernel_rfl, fun j t ht => by
        rw [Ybad.params3] at ht
        have h3 : t = 22 ∨ t = 5 ∨ t = 23 := by
          rcases j with _ | _ | _ | j
          · exact .inl (by simpa using ht.symm)
          · exact .inr (.inl (by simpa using ht.symm))
          · exact .inr (.inr (by simpa using ht.symm))
          · simp at ht
        rcases h3 with rfl | rfl | rfl
        · exact (show Ybad.prog.wantsStandIn 22 = false by kernel_rfl)
        · exact (show Ybad.prog.wantsStandIn 5 = false by kernel_rfl)
        · exact (show Ybad.prog.wantsStandIn 23 = false by kernel_rfl)⟩)
    (by kernel_rfl)
end Go.Proofs.YbulkdeumDoor
