/- String at the protocols that carry ports and that no activity reads by name. -/
import Derived.Test.YbulkdewqFmtJPort
namespace Go.Proofs.YbulkdewqFmt
open Go.RowKit
set_option maxRecDepth 4000 in
set_option maxHeartbeats 1000000 in
theorem str_port2 (F : Stop.Interp) (m : Nat) (o : Obj) (b off c : Nat) (hL : Looks m o) (p : Nat) (hp : p ≤ 255) (hu : named p = true) (hi : inm p = false) (hh : YbulkdewqFmt.hp p = true) (x1 x2 x3 x4 x5 x6 x7 x8 : Int) (h1 : U16 x1) (h2 : U16 x2) (h3 : U16 x3) (h4 : U16 x4) (w : World) (hF : F.told.answers w.tape) (hG : GJ m o b off c w) :
    Calls Ybaf.prog 14 #[.agg #[.int .u8 p, .int .u16 x1, .int .u16 x2, .int .u16 x3, .int .u16 x4, .int .u16 x5, .int .u16 x6, .int .u16 x7, .int .u16 x8]] w fun r w' => r = .returned (.string (bs (jn (ws p x1 x2 x3 x4 2)))) ∧ Below w.heap.size w w' := by
  obtain ⟨v, hv⟩ := hL p hu
  rw [hi] at hv
  have HG : Hid (GJ m o b off c w) := hG
  have HU : Hid (named p = true) := hu
  have HL : Hid (∀ w : World, w.heap[m]? = some o → (Instr.lookup 143 (.map (some m)) (.string (nm (ix p))) true).run Ybaf.prog w = .ok (.tuple #[v, .bool false]) w) := hv
  have HH : Hid (YbulkdewqFmt.hp p = true) := hh
  have HI : Hid (inm p = false) := hi
  have HNE : Hid ((nm (ix p)).toList ≠ []) := (ix_named hu).2.2.2.1
  have k0 : ((p : Int) == 0) = false := by rcases named_ten hu with h | h | h | h | h | h | h | h | h | h <;> rw [h] <;> decide
  have k1 : ((p : Int) == 1) = false := by rcases named_ten hu with h | h | h | h | h | h | h | h | h | h <;> rw [h] at hh ⊢ <;> revert hh <;> decide
  have q1 : (p : Int) ≤ 255 := by omega
  obtain ⟨s, hs⟩ : ∃ s, s = nm (ix p) := ⟨_, rfl⟩
  rw [← hs] at HNE HL
  have HS : Hid (s = nm (ix p)) := hs
  have HF : Hid (F.told.answers w.tape) := hF
  clear hG hL hv hu hi hh hs hF
  have hBa : ∀ o1, Below w.heap.size w (w.alloc o1) := fun o1 => (Below.refl w.heap.size w).alloc (Nat.le_refl _) o1
  go_enter Ybaf.func14, Ybaf.ntmps14
  go_wp2_with fail
  refine (c28n b off c _ _ (PN.below HG.out.2.1 (Nat.le_refl _) (hBa _)) HU.out).mono ?_
  rintro e w1 ⟨rfl, hB1⟩
  rw [← HS.out]
  have hs1 : w.heap.size + 1 ≤ w1.heap.size := by simpa using hB1.size
  have bx : ∀ j v, (#[Value.int .u8 p, .int .u16 x1, .int .u16 x2, .int .u16 x3, .int .u16 x4, .int .u16 x5, .int .u16 x6, .int .u16 x7, .int .u16 x8])[j]? = some v → w1.cell? ⟨w.heap.size, j, none⟩ = some v := by
    intro j v hj
    rw [hB1.cell (p := ⟨w.heap.size, j, none⟩) (by simp), World.cell?_alloc_at _ _ _ _ rfl]
    exact hj
  have b0 : w1.cell? ⟨w.heap.size, 0, none⟩ = some (.int .u8 p) := bx 0 _ rfl
  have b1 : w1.cell? ⟨w.heap.size, 1, none⟩ = some (.int .u16 x1) := bx 1 _ rfl
  have b2 : w1.cell? ⟨w.heap.size, 2, none⟩ = some (.int .u16 x2) := bx 2 _ rfl
  have b3 : w1.cell? ⟨w.heap.size, 3, none⟩ = some (.int .u16 x3) := bx 3 _ rfl
  have b4 : w1.cell? ⟨w.heap.size, 4, none⟩ = some (.int .u16 x4) := bx 4 _ rfl
  have HB1 : Hid (Below w.heap.size w w1) := (hBa _).trans (hB1.mono (by simp))
  have HG1 : Hid (GJ m o b off c w1) := GJ.below HG.out (Nat.le_refl _) HB1.out
  have g0 := HG1.out.1.2.2.1
  have hl : ∀ o1, (Instr.lookup 143 (.map (some m)) (.string s) true).run Ybaf.prog (w1.alloc o1) = .ok (.tuple #[v, .bool false]) (w1.alloc o1) := fun o1 =>
    HL.out _ ((((Below.refl w1.heap.size w1).alloc (Nat.le_refl _) o1)).block m HG1.out.1.2.1 |>.trans HG1.out.1.2.2.2.1)
  have g00 : 0 < w1.heap.size := by omega
  have g01 : w.heap.size < w1.heap.size := by omega
  clear hB1 hBa bx
  go_wp2_with fail
  have hBb : ∀ o1, Below w1.heap.size w1 (w1.alloc o1) := fun o1 => (Below.refl w1.heap.size w1).alloc (Nat.le_refl _) o1
  refine (c15 p hp _ (GV.below HG1.out.1 (Nat.le_refl _) (hBb _)).2.2.2.2).mono ?_
  rintro e w2 ⟨rfl, hB2⟩
  have hs2 : w1.heap.size + 1 ≤ w2.heap.size := by simpa using hB2.size
  have HB12 : Hid (Below w1.heap.size w1 w2) := (hBb _).trans (hB2.mono (by simp))
  have HB2 : Hid (Below w.heap.size w w2) := HB1.out.trans (HB12.out.mono (by omega))
  have c0 : w2.cell? ⟨w.heap.size, 0, none⟩ = some (.int .u8 p) := (HB12.out.cell (p := ⟨w.heap.size, 0, none⟩) g01).trans b0
  have c1 : w2.cell? ⟨w.heap.size, 1, none⟩ = some (.int .u16 x1) := (HB12.out.cell (p := ⟨w.heap.size, 1, none⟩) g01).trans b1
  have c2 : w2.cell? ⟨w.heap.size, 2, none⟩ = some (.int .u16 x2) := (HB12.out.cell (p := ⟨w.heap.size, 2, none⟩) g01).trans b2
  have c3 : w2.cell? ⟨w.heap.size, 3, none⟩ = some (.int .u16 x3) := (HB12.out.cell (p := ⟨w.heap.size, 3, none⟩) g01).trans b3
  have c4 : w2.cell? ⟨w.heap.size, 4, none⟩ = some (.int .u16 x4) := (HB12.out.cell (p := ⟨w.heap.size, 4, none⟩) g01).trans b4
  obtain ⟨t, ht⟩ : ∃ t, t = (⟨(Lib.itoa p).toArray⟩ : ByteArray) := ⟨_, rfl⟩
  rw [← ht]
  have hz : w.heap.size < w2.heap.size := by omega
  have HO1 : Hid (Own ((w2.alloc (.cells #[.string s, .string t] 9)).alloc (.cells #[.string ⟨#[112, 114, 111, 116, 111]⟩, .string s] 9)) (w.heap.size + 1) (.slice (some ⟨w2.heap.size + 1, 0, none⟩) 2 2) (ws p x1 x2 x3 x4 0)) := by
    have e : ws p x1 x2 x3 x4 0 = [⟨#[112, 114, 111, 116, 111]⟩, s] := by show w0 p = _; unfold w0; rw [HI.out, HS.out]; rfl
    rw [e]
    have h := own_built (w2.alloc (.cells #[.string s, .string t] 9)) (w.heap.size + 1) 2 #[.string ⟨#[112, 114, 111, 116, 111]⟩, .string s] (by simp; omega) rfl (by unfold maxLen; omega)
    simp [World.size_alloc] at h
    exact h
  clear hB2 hBb hl ht g0 b0 b1 b2 b3 b4 hs1 g00
  go_wp2_with (first
    | (go_at_call 29; refine (c29n w2.heap.size s t _ (by rw [World.cell?_alloc_at _ _ _ _ rfl]; rfl) (by rw [World.cell?_alloc_at _ _ _ _ rfl]; rfl) HNE.out).mono ?_; rintro e w5 ⟨rfl, rfl⟩)
    | (go_at_call 31; refine (c31n _ _ HU.out).mono ?_; rw [HH.out]; rintro e w5 ⟨rfl, rfl⟩))
  go_loopw [4, 75] (fun v i wr => ∃ k : Nat, k ≤ 2 ∧ i = .int .i64 k ∧ Own wr (w.heap.size + 1) v (ws p x1 x2 x3 x4 k) ∧ Opts (w2.heap.size + 1 + 1) x1 x2 x3 x4 wr ∧ v.ownBlock ≠ some (w2.heap.size + 1 + 1) ∧ Below w.heap.size w wr) (fun _ i _ => 2 - (intOf i).toNat)
  case atStart => exact ⟨0, by omega, rfl, HO1.out.below ((Below.refl _ _).alloc (Nat.le_refl _) _), opts_new _ _ _ _ _ _ (by simp), by simp [Value.ownBlock], ((HB2.out.alloc (by omega) _).alloc (by simp; omega) _).alloc (by simp; omega) _⟩
  case round =>
    obtain ⟨k, hk, rfl, hO, hX, hV, hB⟩ := hrel
    have HO : Hid (Own wr (w.heap.size + 1) _ (ws p x1 x2 x3 x4 k)) := hO
    have HX : Hid (Opts (w2.heap.size + 1 + 1) x1 x2 x3 x4 wr) := hX
    have HB : Hid (Below w.heap.size w wr) := hB
    clear hO hB
    by_cases hk2 : k < 2
    · have q2 : (k : Int) < 2 := by omega
      obtain ⟨e0, e1, e2⟩ := hX.2 k hk2
      have hX1 := hX.1
      have HN := ws_next p x1 x2 x3 x4 k hk2
      have hl6 := (ws_short HU.out h1 h2 h3 h4 k).2.1
      obtain ⟨wd, hwd⟩ : ∃ wd, wd = wdk k := ⟨_, rfl⟩
      obtain ⟨f, hf⟩ : ∃ f, f = (if k = 0 then x1 else x3) := ⟨_, rfl⟩
      obtain ⟨l, hl⟩ : ∃ l, l = (if k = 0 then x2 else x4) := ⟨_, rfl⟩
      have hf16 : U16 f := by rw [hf]; split <;> assumption
      have hl16 : U16 l := by rw [hl]; split <;> assumption
      rw [← hwd, ← hf, ← hl] at HN
      rw [← hwd] at e0
      rw [← hf] at e1
      rw [← hl] at e2
      have HGr := GJ.below HG.out (Nat.le_refl _) HB.out
      have a0 := HGr.2.2.2.2.1
      have a1 := HGr.2.2.2.2.2
      have ha : 2 < wr.heap.size := by have := HGr.1.1; omega
      have HNN : Hid (ws p x1 x2 x3 x4 (k + 1) = ws p x1 x2 x3 x4 k ++ port wd f l) := HN
      obtain ⟨tb, htb⟩ : ∃ tb, tb = decide (f = 0 ∧ l = 65535) := ⟨_, rfl⟩
      have hT := fun w => eql112 f l 0 65535 w
      rw [← htb] at hT
      clear hX HN HGr hwd hf hl c0 c1 c2 c3 c4
      cases tb
      · by_cases hfl : f = l
        · subst hfl
          have HP : Hid (ws p x1 x2 x3 x4 (k + 1) = ws p x1 x2 x3 x4 k ++ [wd, bs (Lib.itoa f)]) := by have h := HNN.out; rw [port_one] at h; exact h
          clear htb
          go_wp2_with fail
          obtain ⟨W2, hW2⟩ : ∃ W2, W2 = wr.alloc (.cells #[.string wd, .int .u16 f, .int .u16 f] 146) := ⟨_, rfl⟩
          rw [← hW2]
          have hB2 : Below wr.heap.size wr W2 := by rw [hW2]; exact (Below.refl _ _).alloc (Nat.le_refl _) _
          have hs2 : W2.heap.size = wr.heap.size + 1 := by rw [hW2]; simp
          have HS2 : Hid (W2.heap.size = wr.heap.size + 1) := hs2
          have hlt : wr.heap.size < W2.heap.size := by have := HS2.out; omega
          have d0 : W2.cell? ⟨wr.heap.size, 0, none⟩ = some (.string wd) := by rw [hW2, World.cell?_alloc_at _ _ _ _ rfl]; rfl
          have d1 : W2.cell? ⟨wr.heap.size, 1, none⟩ = some (.int .u16 f) := by rw [hW2, World.cell?_alloc_at _ _ _ _ rfl]; rfl
          have d2 : W2.cell? ⟨wr.heap.size, 2, none⟩ = some (.int .u16 f) := by rw [hW2, World.cell?_alloc_at _ _ _ _ rfl]; rfl
          have HO2 : Hid (Own W2 (w.heap.size + 1) u4 (ws p x1 x2 x3 x4 k)) := HO.out.below hB2
          have HX2 : Hid (Opts (w2.heap.size + 1 + 1) x1 x2 x3 x4 W2) := HX.out.below hB2
          have HB2 : Hid (Below w.heap.size w W2) := HB.out.trans (hB2.mono HB.out.size)
          have HF2 : Hid (F.told.answers W2.tape) := answers_later HF.out HB2.out.tape
          have HC1 : Hid ((W2.alloc (.cells #[.iface 110 (.int .u16 f)] 20)).cell? ⟨W2.heap.size, 0, none⟩ = some (.iface 110 (.int .u16 f))) := new_iface W2 _ _
          have HN4 : Hid (∀ W', Nxt W2 (.cells #[.iface 110 (.int .u16 f)] 20) (.cells #[.string wd, .string (bs (Lib.itoa f))] 9) W' → Below W2.heap.size W2 W') := fun W' h => h.below
          have HO4 : Hid (∀ W', Nxt W2 (.cells #[.iface 110 (.int .u16 f)] 20) (.cells #[.string wd, .string (bs (Lib.itoa f))] 9) W' → Own W' (w.heap.size + 1) u4 (ws p x1 x2 x3 x4 k)) := fun W' h => HO2.out.below h.below
          have HC4 : Hid (∀ W', Nxt W2 (.cells #[.iface 110 (.int .u16 f)] 20) (.cells #[.string wd, .string (bs (Lib.itoa f))] 9) W' → W'.cell? ⟨W2.heap.size + 1, 0, none⟩ = some (.string wd)) := fun W' h => h.cell0
          have HC5 : Hid (∀ W', Nxt W2 (.cells #[.iface 110 (.int .u16 f)] 20) (.cells #[.string wd, .string (bs (Lib.itoa f))] 9) W' → W'.cell? ⟨W2.heap.size + 1, 1, none⟩ = some (.string (bs (Lib.itoa f)))) := fun W' h => h.cell1
          have HS4 : Hid (∀ W', Nxt W2 (.cells #[.iface 110 (.int .u16 f)] 20) (.cells #[.string wd, .string (bs (Lib.itoa f))] 9) W' → w.heap.size + 1 ≤ W'.heap.size) := fun W' h => by have := h.below.size; omega
          have HDC : Hid (W2.cell? ⟨wr.heap.size, 0, none⟩ = some (.string wd) ∧ W2.cell? ⟨wr.heap.size, 1, none⟩ = some (.int .u16 f) ∧ W2.cell? ⟨wr.heap.size, 2, none⟩ = some (.int .u16 f)) := ⟨d0, d1, d2⟩
          have HVW : Hid (u4.ownBlock ≠ some wr.heap.size) := fun hq => Nat.lt_irrefl _ (World.ownsRow.lt HO.out _ hq).2
          clear hW2 hs2 hB2 e0 e1 e2 a0 a1 hT
          go_region_held3 (fun w' => w'.cell? ⟨wr.heap.size, 0, none⟩ = some (.string wd) ∧ w'.cell? ⟨wr.heap.size, 1, none⟩ = some (.int .u16 f) ∧ w'.cell? ⟨wr.heap.size, 2, none⟩ = some (.int .u16 f))
            (first | exact HC9.out | go_keep)
            (first
              | (refine step_sprint F _ (by rfl) (.tmp 114) (by rfl) W2.heap.size (by rfl) f hf16 HF2.out HC1.out ?_)
              | (refine step_push2 _ (by rfl) (.tmp 107) (.tmp 116) (by rfl) (w.heap.size + 1) u4 (ws p x1 x2 x3 x4 k) (by rfl) (HO4.out _ ⟨rfl, rfl, rfl, rfl⟩) (W2.heap.size + 1) wd (bs (Lib.itoa f)) (by rfl) (HC4.out _ ⟨rfl, rfl, rfl, rfl⟩) (HC5.out _ ⟨rfl, rfl, rfl, rfl⟩) hl6 (HS4.out _ ⟨rfl, rfl, rfl, rfl⟩) ?_; intro v9 w9 hO9 hg9 hat9; have H9 := pushed HB2.out HO2.out HX2.out hV HVW.out HDC.out hg9 hat9 (HN4.out _ ⟨rfl, rfl, rfl, rfl⟩); have HC9 : Hid _ := H9.2; have HR9 : Hid _ := H9.1; have HO9 : Hid _ := hO9; clear hO9 hg9 hat9 H9))
          go_wp2_with fail
          go_roundw
          case rel => exact ⟨k + 1, by omega, by go_num, by rw [HP.out]; exact HO9.out, HR9.out.2.1, HR9.out.2.2, HR9.out.1⟩
          case measure => simp [intOf]; omega
        · have hfb : (f == l) = false := by simpa using hfl
          have HP : Hid (ws p x1 x2 x3 x4 (k + 1) = ws p x1 x2 x3 x4 k ++ [wd, rng f l]) := by have h := HNN.out; rw [port_two htb hfl] at h; exact h
          clear htb
          go_wp2_with fail
          obtain ⟨W2, hW2⟩ : ∃ W2, W2 = wr.alloc (.cells #[.string wd, .int .u16 f, .int .u16 l] 146) := ⟨_, rfl⟩
          rw [← hW2]
          have hB2 : Below wr.heap.size wr W2 := by rw [hW2]; exact (Below.refl _ _).alloc (Nat.le_refl _) _
          have hs2 : W2.heap.size = wr.heap.size + 1 := by rw [hW2]; simp
          have HS2 : Hid (W2.heap.size = wr.heap.size + 1) := hs2
          have hlt : wr.heap.size < W2.heap.size := by have := HS2.out; omega
          have d0 : W2.cell? ⟨wr.heap.size, 0, none⟩ = some (.string wd) := by rw [hW2, World.cell?_alloc_at _ _ _ _ rfl]; rfl
          have d1 : W2.cell? ⟨wr.heap.size, 1, none⟩ = some (.int .u16 f) := by rw [hW2, World.cell?_alloc_at _ _ _ _ rfl]; rfl
          have d2 : W2.cell? ⟨wr.heap.size, 2, none⟩ = some (.int .u16 l) := by rw [hW2, World.cell?_alloc_at _ _ _ _ rfl]; rfl
          have HO2 : Hid (Own W2 (w.heap.size + 1) u4 (ws p x1 x2 x3 x4 k)) := HO.out.below hB2
          have HX2 : Hid (Opts (w2.heap.size + 1 + 1) x1 x2 x3 x4 W2) := HX.out.below hB2
          have HB2 : Hid (Below w.heap.size w W2) := HB.out.trans (hB2.mono HB.out.size)
          have HF2 : Hid (F.told.answers W2.tape) := answers_later HF.out HB2.out.tape
          have HC1 : Hid ((W2.alloc (.cells #[.iface 110 (.int .u16 f), .iface 110 (.int .u16 l)] 20)).cell? ⟨W2.heap.size, 0, none⟩ = some (.iface 110 (.int .u16 f))) := new_two0 W2 _ _ _
          have HC2 : Hid ((W2.alloc (.cells #[.iface 110 (.int .u16 f), .iface 110 (.int .u16 l)] 20)).cell? ⟨W2.heap.size, 1, none⟩ = some (.iface 110 (.int .u16 l))) := new_two1 W2 _ _ _
          have HN4 : Hid (∀ W', Nxt W2 (.cells #[.iface 110 (.int .u16 f), .iface 110 (.int .u16 l)] 20) (.cells #[.string wd, .string (rng f l)] 9) W' → Below W2.heap.size W2 W') := fun W' h => h.below
          have HO4 : Hid (∀ W', Nxt W2 (.cells #[.iface 110 (.int .u16 f), .iface 110 (.int .u16 l)] 20) (.cells #[.string wd, .string (rng f l)] 9) W' → Own W' (w.heap.size + 1) u4 (ws p x1 x2 x3 x4 k)) := fun W' h => HO2.out.below h.below
          have HC4 : Hid (∀ W', Nxt W2 (.cells #[.iface 110 (.int .u16 f), .iface 110 (.int .u16 l)] 20) (.cells #[.string wd, .string (rng f l)] 9) W' → W'.cell? ⟨W2.heap.size + 1, 0, none⟩ = some (.string wd)) := fun W' h => h.cell0
          have HC5 : Hid (∀ W', Nxt W2 (.cells #[.iface 110 (.int .u16 f), .iface 110 (.int .u16 l)] 20) (.cells #[.string wd, .string (rng f l)] 9) W' → W'.cell? ⟨W2.heap.size + 1, 1, none⟩ = some (.string (rng f l))) := fun W' h => h.cell1
          have HS4 : Hid (∀ W', Nxt W2 (.cells #[.iface 110 (.int .u16 f), .iface 110 (.int .u16 l)] 20) (.cells #[.string wd, .string (rng f l)] 9) W' → w.heap.size + 1 ≤ W'.heap.size) := fun W' h => by have := h.below.size; omega
          have HDC : Hid (W2.cell? ⟨wr.heap.size, 0, none⟩ = some (.string wd) ∧ W2.cell? ⟨wr.heap.size, 1, none⟩ = some (.int .u16 f) ∧ W2.cell? ⟨wr.heap.size, 2, none⟩ = some (.int .u16 l)) := ⟨d0, d1, d2⟩
          have HVW : Hid (u4.ownBlock ≠ some wr.heap.size) := fun hq => Nat.lt_irrefl _ (World.ownsRow.lt HO.out _ hq).2
          clear hW2 hs2 hB2 e0 e1 e2 a0 a1 hT
          go_region_held3 (fun w' => w'.cell? ⟨wr.heap.size, 0, none⟩ = some (.string wd) ∧ w'.cell? ⟨wr.heap.size, 1, none⟩ = some (.int .u16 f) ∧ w'.cell? ⟨wr.heap.size, 2, none⟩ = some (.int .u16 l))
            (first | exact HC9.out | go_keep)
            (first
              | (refine step_sprintf' F _ (by rfl) (.tmp 90) (by rfl) W2.heap.size (by rfl) f l hf16 hl16 HF2.out HC1.out HC2.out ?_)
              | (refine step_push2 _ (by rfl) (.tmp 79) (.tmp 92) (by rfl) (w.heap.size + 1) u4 (ws p x1 x2 x3 x4 k) (by rfl) (HO4.out _ ⟨rfl, rfl, rfl, rfl⟩) (W2.heap.size + 1) wd (rng f l) (by rfl) (HC4.out _ ⟨rfl, rfl, rfl, rfl⟩) (HC5.out _ ⟨rfl, rfl, rfl, rfl⟩) hl6 (HS4.out _ ⟨rfl, rfl, rfl, rfl⟩) ?_; intro v9 w9 hO9 hg9 hat9; have H9 := pushed HB2.out HO2.out HX2.out hV HVW.out HDC.out hg9 hat9 (HN4.out _ ⟨rfl, rfl, rfl, rfl⟩); have HC9 : Hid _ := H9.2; have HR9 : Hid _ := H9.1; have HO9 : Hid _ := hO9; clear hO9 hg9 hat9 H9))
          go_wp2_with fail
          go_roundw
          case rel => exact ⟨k + 1, by omega, by go_num, by rw [HP.out]; exact HO9.out, HR9.out.2.1, HR9.out.2.2, HR9.out.1⟩
          case measure => simp [intOf]; omega
      · have HP : Hid (ws p x1 x2 x3 x4 (k + 1) = ws p x1 x2 x3 x4 k) := by have h := HNN.out; rw [port_all htb, List.append_nil] at h; exact h
        clear htb
        go_wp2_with fail
        go_roundw
        case rel => exact ⟨k + 1, by omega, by go_num, by rw [HP.out]; exact HO.out.below ((Below.refl _ _).alloc (Nat.le_refl _) _), HX.out.below ((Below.refl _ _).alloc (Nat.le_refl _) _), hV, HB.out.alloc HB.out.size _⟩
        case measure => simp [intOf]; omega
    · have hk2' : k = 2 := by omega
      subst hk2'
      have hsh := ws_short HU.out h1 h2 h3 h4 2
      have HSH : Hid (Short (ws p x1 x2 x3 x4 2) ∧ (ws p x1 x2 x3 x4 2).length ≤ 6 ∧ ws p x1 x2 x3 x4 2 ≠ []) := hsh
      clear hX hsh c0 c1 c2 c3 c4
      go_wp2_with fail
      refine (join_own _ _ _ _ HO.out HSH.out.2.2 HSH.out.1 HSH.out.2.1).mono ?_
      rintro e w4 ⟨rfl, hB4⟩
      have HB4 : Hid (Below w.heap.size w w4) := HB.out.trans (hB4.mono HB.out.size)
      clear hB4
      go_wp2_with fail
      go_ret
      exact ⟨rfl, HB4.out⟩
end Go.Proofs.YbulkdewqFmt
