/- 'LawS5303ARaw': the row and the tied card. -/
import Derived.Test.YbulkdeumDoorLaid
import Derived.Test.YbulkdeumDoorRawC
import Derived.Test.YbulkdeumDoorTie
import Derived.Test.YbulkdeumDoorCards
import Derived.SevenTiedAt
import Derived.Lay
namespace Go.Proofs.YbulkdeumDoor
open Go.ChangeShapes Go.WideShapes Go.ChangeAt Go.RowKit

set_option maxHeartbeats 400000 in
theorem rawBig (a0 : Option Addr) (len cap : Nat) (w : World) (h : (131072 : Int) < len) :
    Calls Ybad.prog 4 #[.slice a0 len cap] w fun e w' => e = .returned (.bool true) ∧ Below w.heap.size w w' := by
  go_enter Ybad.func4, Ybad.ntmps4
  go_wp2
  go_ret
  exact ⟨rfl, Below.refl _ _⟩

theorem p16_nat (x y : Int) (hx : B8 x) (hy : B8 y) : ∃ n : Nat, p16 x y = n ∧ n ≤ 65535 := by
  have h := p16_sum x y hx hy
  unfold B8 at hx hy
  exact ⟨(p16 x y).toNat, by omega, by omega⟩

/-- The law on every slice of bytes. -/
theorem raw_all (a0 : Option Addr) (len cap : Nat) (bs : Nat → Int) (z4 z6 : Option Addr) (et : TypeId) (ev : Value) (w : World) (hG : Gl z4 z6 et ev w) (hb : Bytes w a0 len cap bs) :
    Calls Ybad.prog 4 #[.slice a0 len cap] w fun e w' => e = .returned (.bool true) ∧ Below w.heap.size w w' := by
  by_cases h1 : (131072 : Int) < len
  · exact rawBig a0 len cap w h1
  by_cases h2 : len < 2
  · exact rawA a0 len cap bs z4 z6 et ev w hG hb h2
  obtain ⟨b, off, rfl, hbw, hc⟩ := hb.2.2 (by omega)
  obtain ⟨n, hn, hn1⟩ := p16_nat (bs 0) (bs 1) (hb.2.1 0) (hb.2.1 1)
  by_cases h3 : len < 2 + 6 * n
  · exact rawB b off len cap n bs z4 z6 et ev w hG hb hbw hc (by omega) (by omega) hn hn1 h3
  · exact rawC b off len cap n bs z4 z6 et ev w hG hb hbw hc (by omega) (by omega) hn hn1 (by omega)

/-- A slice of bytes that came in, as the walks want it. -/
theorem bytes_open {w : World} {a : Option Addr} {len cap : Nat} {zs : List Int} (h : (a = none ∧ len = 0 ∧ cap = 0 ∧ zs = []) ∨
    ∃ x, a = some x ∧ len ≤ cap ∧ zs.length = cap ∧ (∀ i, i < zs.length → w.cell? (x.add i) = some (.int .u8 (zs.getD i 0))) ∧ ∀ n ∈ zs, (Lit.int .u8 n).wf = true) :
    Bytes w a len cap (fun i => zs.getD i 0) := by
  rcases h with ⟨_, h1, h2, h3⟩ | ⟨x, rfl, hl, hz, hc, hw⟩
  · subst h1 h2 h3
    exact ⟨Nat.le_refl _, fun i => by simpa using b0, fun h => by omega⟩
  · refine ⟨hl, fun i => ?_, fun hp => ?_⟩
    · by_cases hi : i < zs.length
      · have hm : zs.getD i 0 ∈ zs := by simp [hi]
        exact bounds_u8 (hw _ hm)
      · have : zs.getD i 0 = 0 := by simp [List.getElem?_eq_none (Nat.le_of_not_lt hi)]
        simp only [this]; exact b0
    · obtain ⟨b, off, sp⟩ := x
      have h0 := hc 0 (by omega)
      have e0 : ∀ x : Addr, x.add 0 = x := fun x => by simp [Addr.add]
      rw [e0] at h0
      have hsp : sp = none := by
        unfold World.cell? at h0
        split at h0
        · by_cases hs : sp.isSome = true
          · rw [if_pos hs] at h0; cases h0
          · simpa using hs
        · cases h0
      subst hsp
      exact ⟨b, off, rfl, World.block_lt_of_cell? w _ h0, fun i hi => by have := hc i (by omega); rwa [addr_add] at this⟩

set_option maxRecDepth 100000 in
theorem raw_lifted (os : Os) (started : os.Started) (H : Type) (enc : TypeId × Value → H) :
    ReturnsInHanded {} Ybad.checked os 4 .any (fun w args => (Rows.lawS5303ARawSpec.pre enc Ybad.prog Ybad.f4 [] false w args ∧ laidMetH Ybad.prog laid3 w) ∧ sizedMet enc Ybad.prog Ybad.f4 (OpenSpec.ofChange Rows.lawS5303ARawSpec) false w args)
      (Rows.lawS5303ARawSpec.post enc Ybad.prog Ybad.f4 false true false false) := by
  refine returnsInHanded_of_change_and (C := Ybad.checked) (X := fun w _ => laidMetH Ybad.prog laid3 w) (fun _ _ _ hh h => h.of_heap hh) own started (by kernel_rfl) Ybad.func4
    (ChangeSpec.witness_shaped (enc := enc) (C := Ybad.checked) (os := os) (X := fun w _ => laidMetH Ybad.prog laid3 w) false (World.laidAll Ybad.prog os laid3) #[.slice none 0 0] 8 (World.laidAll_os _ _ _)
      (World.shaped_of_ZipB (by kernel_rfl) (by kernel_rfl)) (by kernel_rfl) (by kernel_rfl) (by kernel_rfl)
      (by rw [MakeChecks.laidMetH_plain _ _ _ (by kernel_rfl)]; exact laidMet_laidAll _ (by kernel_rfl) (by kernel_rfl))) ?_
  intro W base args ds gs before hval0 hW _ _ hL _
  have hval : ∀ (j : Nat) t v, Ybad.f4.params[j]? = some t → args[j]? = some v → Value.okWide Ybad.prog W .any base t v := hval0
  have hW' := hW
  obtain ⟨p, q, hA0, hV0, rfl, hfz, hnd⟩ := hW
  have hA : DataW.TrodAll enc Ybad.prog W 0 (fun _ => true) true Ybad.f4.params.toList args.toList ds p := hA0
  have hV : DataW.TrodVars enc Ybad.prog W (fun _ => true) ["example.com/sluice/sluice/internal/wire.ErrShortBody"] gs q := hV0
  rw [Ybad.params4] at hA hval
  obtain ⟨v0, d0, rfl, rfl, h0⟩ := trodAll_one hA
  obtain ⟨a0, len0, cap0, rfl⟩ := okWide_slice Ybad.underlying23 (hval 0 23 v0 rfl rfl)
  have k0 := h0
  have lt0 : ∀ x ∈ p, x.block < W.heap.size := by obtain ⟨m, hm⟩ := k0; exact DataW.trod_lt m _ _ _ hm
  obtain ⟨bs, hbs⟩ : ∃ bs, Bytes W a0 len0 cap0 bs := by
    obtain ⟨fuel, hf⟩ := h0
    rcases open_ints Ybad.underlying23 Ybad.underlying5 (by kernel_rfl) hf with ⟨hcs, _⟩ | ⟨x, l, c, zs, hcs, _, hl, hm, hz, _, hcell, hwz⟩
    · simp [Value.cells] at hcs
      obtain ⟨rfl, rfl, rfl⟩ := hcs
      exact ⟨_, bytes_open (zs := []) (.inl ⟨rfl, rfl, rfl, rfl⟩)⟩
    · simp [Value.cells] at hcs
      obtain ⟨rfl, rfl, rfl⟩ := hcs
      exact ⟨_, bytes_open (zs := zs) (.inr ⟨_, rfl, hl, by simpa using hz, hcell, hwz⟩)⟩
  obtain ⟨z4, z6, et, ev, hG⟩ := of_laid hL
  clear hA0 hval0
  refine (raw_all a0 len0 cap0 bs z4 z6 et ev W hG hbs).mono fun e W' ⟨he, bel⟩ => ?_
  subst he
  obtain ⟨g, rfl, ps, hps⟩ := vars_again hV hG.1 bel (fun b => decide (b < W.heap.size))
  exact ⟨_, rfl, _, _, _, [], p, ps, hW', trodAll_mk1 (shut_bool Ybad.underlying4 _), trodAll_mk1 (Below.trod laidOut (by kernel_rfl) (of_decide_eq_true (by kernel_rfl)) k0 bel lt0), hps, bel.frame _, fun h => by cases h⟩

theorem raw_holds : Rows.LawS5303ARawSaid :=
  OpenClaim.holds_of_wide 4 Ybad.f4 rfl rfl rfl rfl rfl rfl rfl ⟨rfl, rfl, rfl, rfl, rfl⟩ rfl rfl rfl rfl rfl (by kernel_rfl) Ybad.func4 (by kernel_rfl)
    (of_decide_eq_true (by kernel_rfl)) (by unfold Func.isWrapper; first | (rw [if_pos (by decide +kernel)]; kernel_rfl) | (rw [if_neg (by decide +kernel)]; exact ⟨rfl, rfl⟩))
    (fun os started H enc _ => raw_lifted os started H enc)

/-- ████ THE STATEMENT ████ -/
theorem raw_card : Rows.LawS5303ARawCardSaid :=
  Claim7.holds_tied_plain_at .later [] [.called, .called, .sentinel] true (true, "98fa20cf3dae719de8f9750cfc3dcb5631ad5ca52509d1451ff774988008dec9") false
    raw_holds (fun _ h => by cases h) (by kernel_rfl) (fun _ h => by cases h) lawS5303ARaw_row_tie rfl ⟨rfl, rfl⟩ (by kernel_rfl) rfl
    (fun f fn hf hfn => by
      obtain rfl : f = 4 := Option.some.inj ((show Ybad.prog.funcNamed "example.com/sluice/sluice/internal/peer.LawS5303ARaw" = some 4 by kernel_rfl).symm.trans hf) |>.symm
      obtain rfl : fn = Ybad.f4 := (Option.some.inj (Ybad.func4.symm.trans hfn)).symm
      exact ⟨by kernel_rfl, fun j t ht => by
        rw [Ybad.params4] at ht
        have h3 : t = 23 := by
          rcases j with _ | j
          · simpa using ht.symm
          · simp at ht
        subst h3
        exact (show Ybad.prog.wantsStandIn 23 = false by kernel_rfl)⟩)
    (by kernel_rfl)
end Go.Proofs.YbulkdeumDoor
