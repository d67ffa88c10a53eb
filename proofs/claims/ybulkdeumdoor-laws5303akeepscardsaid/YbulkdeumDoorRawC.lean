/- The law on raw bodies: the way on which the list is read. -/
import Derived.Test.YbulkdeumDoorRawAB
import Derived.Deep.RegionLawGrows
import Derived.Deep.DrawnRows
namespace Go.Proofs.YbulkdeumDoor
open Go.RowKit
theorem apc_one (z : Option Addr) (e : Int × Int) : ∀ u ∈ apc z e, u.oneCell' = true := by
  intro u hu
  simp only [apc, List.mem_cons, List.not_mem_nil, or_false] at hu
  rcases hu with rfl | rfl | rfl | rfl <;> rfl
theorem below_same {B : Nat} {a b c : World} (h : Below B b c) (h1 : b.os = a.os) (h2 : b.tape = a.tape) (h3 : b.output = a.output) (h4 : b.heap = a.heap) : Below B a c :=
  ⟨h.os.trans h1, h.tape.trans h2, h.output.trans h3, by rw [← h4]; exact h.size, fun k hk => by rw [h.block k hk, h4]⟩
theorem keep4 {w w1 : World} {B : Nat} (hB : Below B w w1) {b o0 o1 o2 o3 : Nat} {v0 v1 v2 v3 : Value} (hb : b < B) (h0 : w.cell? ⟨b, o0, none⟩ = some v0) (h1 : w.cell? ⟨b, o1, none⟩ = some v1) (h2 : w.cell? ⟨b, o2, none⟩ = some v2) (h3 : w.cell? ⟨b, o3, none⟩ = some v3) :
    w1.cell? ⟨b, o0, none⟩ = some v0 ∧ w1.cell? ⟨b, o1, none⟩ = some v1 ∧ w1.cell? ⟨b, o2, none⟩ = some v2 ∧ w1.cell? ⟨b, o3, none⟩ = some v3 :=
  ⟨(hB.cell (p := ⟨b, o0, none⟩) hb).trans h0, (hB.cell (p := ⟨b, o1, none⟩) hb).trans h1, (hB.cell (p := ⟨b, o2, none⟩) hb).trans h2, (hB.cell (p := ⟨b, o3, none⟩) hb).trans h3⟩
theorem or8_zero (a b c d : Int) (ha : B8 a) (hb : B8 b) (hc : B8 c) (hd : B8 d) :
    (bits .or .u8 (bits .or .u8 (bits .or .u8 a b) c) d == 0) = (lo4 a b c d == lo4 0 0 0 0) := by
  rw [lo4_sum a b c d ha hb hc hd, lo4_sum 0 0 0 0 b0 b0 b0 b0]
  unfold B8 at ha hb hc hd
  obtain ⟨a, rfl⟩ := Int.eq_ofNat_of_zero_le ha.1
  obtain ⟨b, rfl⟩ := Int.eq_ofNat_of_zero_le hb.1
  obtain ⟨c, rfl⟩ := Int.eq_ofNat_of_zero_le hc.1
  obtain ⟨d, rfl⟩ := Int.eq_ofNat_of_zero_le hd.1
  have h1 : a ||| b < 2 ^ 8 := Nat.or_lt_two_pow (by omega) (by omega)
  have h2 : a ||| b ||| c < 2 ^ 8 := Nat.or_lt_two_pow h1 (by omega)
  rw [u8_or_nat a b (by omega) (by omega), u8_or_nat (a ||| b) c (by omega) (by omega), u8_or_nat (a ||| b ||| c) d (by omega) (by omega)]
  rw [Bool.eq_iff_iff, beq_iff_eq, beq_iff_eq]
  constructor
  · intro h
    have h' : a ||| b ||| c ||| d = 0 := by omega
    simp only [Nat.or_eq_zero_iff] at h'
    omega
  · intro h
    have : a = 0 ∧ b = 0 ∧ c = 0 ∧ d = 0 := by omega
    obtain ⟨rfl, rfl, rfl, rfl⟩ := this
    rfl
set_option maxRecDepth 4000 in
set_option maxHeartbeats 1000000 in
theorem rawC (b off len cap n : Nat) (bs : Nat → Int) (z4 z6 : Option Addr) (et : TypeId) (ev : Value) (w : World) (hG : Gl z4 z6 et ev w) (hb : Bytes w (some ⟨b, off, none⟩) len cap bs) (hbw : b < w.heap.size)
    (hcell : ∀ i, i < len → w.cell? ⟨b, off + i, none⟩ = some (.int .u8 (bs i))) (hl : 2 ≤ len) (hl2 : (len : Int) ≤ 131072) (hn : p16 (bs 0) (bs 1) = n) (hn1 : n ≤ 65535) (hsh : 2 + 6 * n ≤ len) :
    Calls Ybad.prog 4 #[.slice (some ⟨b, off, none⟩) len cap] w fun e w' => e = .returned (.bool true) ∧ Below w.heap.size w w' := by
  have hB8 := hb.2.1
  have hor : bits .or .i64 (bs 0) (bs 1 * 256) = n := (i64_or _ _ (hB8 0) (hB8 1)).trans hn
  have HN : Hid (p16 (bs 0) (bs 1) = n) := hn
  have HCE : Hid _ := hcell
  have hB0 : 0 ≤ bs 0 ∧ bs 0 ≤ 255 := hB8 0
  have hB1' : 0 ≤ bs 1 ∧ bs 1 ≤ 255 := hB8 1
  have HB8 : Hid (∀ i, B8 (bs i)) := hB8
  clear hn hcell hB8
  have HG : Hid (Gl z4 z6 et ev w) := hG
  have HBy : Hid (Bytes w (some ⟨b, off, none⟩) len cap bs) := hb
  obtain ⟨C0, hC0, hmk⟩ := make5 len len (Nat.le_refl _) (by omega)
  have HC0 : Hid (C0.size = len) := hC0
  obtain ⟨ZP, hZP⟩ := peer_built
  have HZP : Hid (Ybad.prog.built 118 [] = some ZP) := hZP
  clear hG hb hC0 hZP
  go_enter Ybad.func4, Ybad.ntmps4
  go_wp2_with (refine wpList_copy_splice rfl (.tmp 18) (.tmp 19) 23 23 rfl 5 Ybad.underlying23 size5 (some ⟨w.heap.size, 0, none⟩) (some ⟨b, off, none⟩) len len len cap rfl rfl w.heap.size 0 C0.toList 5 (alloc_heap _ _ _) (bcs bs len) (by rw [bcs_length]; exact (Nat.min_self _).symm) (copy_pos HBy.out _) (by rw [bcs_length]; simp [HC0.out]) (bcs_one _ _) w.heap.size w ((Below.refl _ _).alloc (Nat.le_refl _) _) (Nat.le_refl _) ?_)
  intro w1 hbl1 hB1
  have hs1 : w.heap.size < w1.heap.size := (Array.getElem?_eq_some_iff.1 hbl1.out).1
  rw [splice_all _ _ (by rw [bcs_length]; simp [HC0.out])] at hbl1
  have HB1 : Hid (Below w.heap.size w w1) := hB1
  have HG1 : Hid (Gl z4 z6 et ev w1) := Gl.below HG.out HG.out.1 hB1
  clear hB1 hmk HC0
  go_wp2_with fail
  refine (c7 z4 z6 et ev _ (by exact HG1.out)).mono ?_
  rintro e w2 ⟨g7, rfl, hg7, hL7, hB2, hG2⟩
  have hs2 := hB2.size
  have hg7' : g7 < w2.heap.size := (Array.getElem?_eq_some_iff.1 hL7).1
  have HL7 : Hid (Lie w2 g7 z4 sen) := lie_sen hL7
  have HB2 : Hid (Below w.heap.size w w2) := HB1.out.trans (hB2.mono (by omega))
  have HG2 : Hid (Gl z4 z6 et ev w2) := hG2
  have HBL2 : Hid (∀ i, i < len → w2.cell? ⟨w.heap.size, i, none⟩ = some (.int .u8 (bs i))) := fun i hi => (hB2.cell (p := ⟨w.heap.size, i, none⟩) hs1).trans (cells_of_bcs hbl1.out i hi)
  obtain ⟨L, hLb, hL19⟩ := link_built (some ⟨g7, 0, none⟩) 1 1
  have HLb : Hid (Ybad.prog.built 55 [(11, .slice (some ⟨g7, 0, none⟩) 1 1)] = some L) := hLb
  obtain ⟨M, hMb, hM19⟩ := msg_built (some ⟨w.heap.size, 0, none⟩) len len
  have HMb : Hid (Ybad.prog.built 122 [(4, .slice (some ⟨w.heap.size, 0, none⟩) len len)] = some M) := hMb
  clear hB2 hG2 hL7 hLb hMb hbl1 HB1 HG1
  go_wp2_with (first
    | (refine wpList_build1 rfl 55 11 (.tmp 22) rfl (.slice (some ⟨g7, 0, none⟩) 1 1) (by rfl) L HLb.out ?_)
    | (refine wpList_build0 rfl 118 rfl ZP HZP.out ?_)
    | (refine wpList_build1 rfl 122 4 (.tmp 29) rfl (.slice (some ⟨w.heap.size, 0, none⟩) len len) (by rfl) M HMb.out ?_)
    | fail)
  have HB3 : Hid (Below w.heap.size w ((w2.alloc (.cells L 55)).alloc (.cells ZP 118))) := (HB2.out.alloc HB2.out.size _).alloc (by have := HB2.out.size; simp; omega) _
  have HG3 : Hid (Gl z4 z6 et ev ((w2.alloc (.cells L 55)).alloc (.cells ZP 118))) := (Gl.alloc HG2.out _).alloc _
  have hlk : ((w2.alloc (.cells L 55)).alloc (.cells ZP 118)).cell? ⟨w2.heap.size, 19, none⟩ = some (.slice (some ⟨g7, 0, none⟩) 1 1) := by
    rw [World.cell?_alloc_past _ _ _ (by simp), World.cell?_alloc_at _ _ _ _ rfl]; exact hL19
  have HL3 : Hid (Lie ((w2.alloc (.cells L 55)).alloc (.cells ZP 118)) g7 z4 sen) := Lie.below (HL7.out) (((Below.refl _ _).alloc (Nat.le_refl _) _).alloc (by simp) _) hg7'
  have hsw : w.heap.size ≤ w2.heap.size := HB2.out.size
  have hfz : ((w2.alloc (.cells L 55)).alloc (.cells ZP 118)).frozen? ⟨w2.heap.size, 19, none⟩ = false := by
    rw [World.frozen?_alloc_past _ _ _ (by simp), World.frozen?_alloc_at _ _ _ _ rfl]
  refine (c8ok _ _ w.heap.size len len n M bs _ z4 z6 et ev _ (by exact HG3.out) hM19 HB8.out hn1 (by simp; omega) hlk hfz (fun wx hbx hgx => c10ok w.heap.size len len n bs z4 z6 et ev wx hgx hl (Nat.le_refl _) (by omega) (by have := hbx.size; simp at this; omega)
    (fun i hi => (hbx.cell (p := ⟨w.heap.size, i, none⟩) (by simp; omega)).trans ((World.cell?_alloc_past _ _ _ (by simp; omega)).trans ((World.cell?_alloc_past _ _ _ (by omega)).trans (HBL2.out i hi))))
    HB8.out HN.out hn1 hsh)).mono ?_
  rintro e w4 ⟨rfl, v, wm, hw, hO, hBm, hGm⟩
  have hsm : w2.heap.size + 2 ≤ wm.heap.size := by have := hBm.size; simpa using this
  have hlk4 : w4.cell? ⟨w2.heap.size, 19, none⟩ = some v := by
    rw [hw]; exact cell?_setCell_same' ((hBm.cell (p := ⟨w2.heap.size, 19, none⟩) (by simp; omega)).trans hlk)
  have hs4 : w2.heap.size + 2 ≤ w4.heap.size := by rw [hw]; simpa [World.setCell] using hsm
  have HO4 : Hid (Own w4 (w2.heap.size + 2) v z4 (K (ents bs n))) := by
    rw [hw]; exact ⟨ownsRow_setCell_below (by simpa using hO.1) (by show w2.heap.size < w2.heap.size + 2; omega) _, hO.2⟩
  have HB4 : Hid (Below w.heap.size w w4) := by
    rw [hw]; exact (HB3.out.trans (hBm.mono HB3.out.size)).setCell hsw _
  have HG4 : Hid (Gl z4 z6 et ev w4) := by
    rw [hw]; exact Gl.setCell hGm _ (by have := HG.out.1; show 3 < w2.heap.size; omega) _
  have q0 : w4.cell? ⟨b, off, none⟩ = some (.int .u8 (bs 0)) := (HB4.out.cell (p := ⟨b, off, none⟩) hbw).trans (HCE.out 0 (by omega))
  have q1 : w4.cell? ⟨b, off + 1, none⟩ = some (.int .u8 (bs 1)) := (HB4.out.cell (p := ⟨b, off + 1, none⟩) hbw).trans (HCE.out 1 (by omega))
  clear hw hO hBm hGm hsm HG3 HB3 hlk HL3 HL7 HG2 HLb HMb HZP hM19 hL19 hfz
  have r0 : (0 : Int) < len := by omega
  have r1 : (1 : Int) < len := by omega
  have hn2 : (n : Int) ≤ 65535 := by omega
  have hsh' : ¬ ((len : Int) < 2 + 6 * n) := by omega
  go_wp2
  go_quiet (fail)
  go_wp2
  go_loopw [8, 9] (fun v' i wr => ∃ k : Nat, k ≤ n ∧ i = .int .i64 k ∧ Own wr w4.heap.size v' z4 (K (ents bs k)) ∧ Below w4.heap.size w4 wr ∧ Gl z4 z6 et ev wr) (fun _ i _ => n - (intOf i).toNat)
  case atStart => exact ⟨0, by omega, rfl, Own.nil _ _ _, below_drewN' _ (Below.refl _ _), Gl.drewN _ HG4.out⟩
  case round =>
    obtain ⟨k, hk, rfl, hOr, hBr, hGr⟩ := hrel
    obtain ⟨a, cap', hv⟩ := hOr.form
    subst hv
    have HOr : Hid _ := hOr
    have HBr : Hid (Below w4.heap.size w4 wr) := hBr
    have HGr : Hid (Gl z4 z6 et ev wr) := hGr
    have hsr := hBr.size
    have hkl := K_le (ents bs k)
    have hlkr : wr.cell? ⟨w2.heap.size, 19, none⟩ = some v := (hBr.cell (p := ⟨w2.heap.size, 19, none⟩) (by show w2.heap.size < w4.heap.size; omega)).trans hlk4
    clear hOr hBr hGr
    by_cases hgo : k < n ∧ (K (ents bs k)).length < 256
    · obtain ⟨hkn, hlen⟩ := hgo
      have HBWr : Hid (Below w.heap.size w wr) := HB4.out.trans (HBr.out.mono HB4.out.size)
      have hcr : ∀ j, j < 6 → wr.cell? ⟨b, off + (2 + 6 * k + j), none⟩ = some (.int .u8 (bs (2 + 6 * k + j))) := fun j hj => (HBWr.out.cell (p := ⟨b, _, none⟩) hbw).trans (HCE.out _ (by omega))
      have d0 : wr.cell? ⟨b, off + (2 + 6 * k), none⟩ = _ := hcr 0 (by omega)
      have d1 := hcr 1 (by omega)
      have d2 := hcr 2 (by omega)
      have d3 := hcr 3 (by omega)
      have d4 := hcr 4 (by omega)
      have d5 := hcr 5 (by omega)
      have x0b : B8 (bs (2 + 6 * k)) := HB8.out _
      have x1b : B8 (bs (2 + 6 * k + 1)) := HB8.out _
      have x2b : B8 (bs (2 + 6 * k + 2)) := HB8.out _
      have x3b : B8 (bs (2 + 6 * k + 3)) := HB8.out _
      have x4b : B8 (bs (2 + 6 * k + 4)) := HB8.out _
      have x5b : B8 (bs (2 + 6 * k + 5)) := HB8.out _
      obtain ⟨lo, p, hlp⟩ : ∃ lo p, ent bs k = (lo, p) := ⟨_, _, rfl⟩
      have hlo : lo4 (bs (2 + 6 * k)) (bs (2 + 6 * k + 1)) (bs (2 + 6 * k + 2)) (bs (2 + 6 * k + 3)) = lo := congrArg Prod.fst hlp
      have hpp : bits .or .u16 (bs (2 + 6 * k + 4)) (bs (2 + 6 * k + 5) * 256) = p := congrArg Prod.snd hlp
      have hzz := or8_zero _ _ _ _ x0b x1b x2b x3b
      rw [hlo] at hzz
      have HLO : Hid _ := hlo
      have HLP : Hid (ent bs k = (lo, p)) := hlp
      clear hcr hlo hlp
      generalize bs (2 + 6 * k) = x0 at *
      generalize bs (2 + 6 * k + 1) = x1 at *
      generalize bs (2 + 6 * k + 2) = x2 at *
      generalize bs (2 + 6 * k + 3) = x3 at *
      generalize bs (2 + 6 * k + 4) = x4 at *
      generalize bs (2 + 6 * k + 5) = x5 at *
      have X0 : Hid (B8 x0) := x0b
      have X1 : Hid (B8 x1) := x1b
      have X2 : Hid (B8 x2) := x2b
      have X3 : Hid (B8 x3) := x3b
      unfold B8 at x0b x1b x2b x3b x4b x5b
      have t0 : 2 + 6 * (k : Int) < len := by omega
      have t1 : 2 + 6 * (k : Int) + 1 < len := by omega
      have t2 : 2 + 6 * (k : Int) + 2 < len := by omega
      have t3 : 2 + 6 * (k : Int) + 3 < len := by omega
      have t4 : 2 + 6 * (k : Int) + 4 < len := by omega
      have t5 : 2 + 6 * (k : Int) + 5 < len := by omega
      have v1 : IntKind.i64.wrap (2 + 6 * (k : Int) + 1) = 2 + 6 * (k : Int) + 1 := by rw [IntKind.wrap_i64]; omega
      have v2 : IntKind.i64.wrap (2 + 6 * (k : Int) + 2) = 2 + 6 * (k : Int) + 2 := by rw [IntKind.wrap_i64]; omega
      have v3 : IntKind.i64.wrap (2 + 6 * (k : Int) + 3) = 2 + 6 * (k : Int) + 3 := by rw [IntKind.wrap_i64]; omega
      have s0 : 0 ≤ 2 + 6 * (k : Int) := by omega
      have y0 : (2 + 6 * (k : Int)).toNat = 2 + 6 * k := by omega
      have y1 : (2 + 6 * (k : Int) + 1).toNat = 2 + 6 * k + 1 := by omega
      have y2 : (2 + 6 * (k : Int) + 2).toNat = 2 + 6 * k + 2 := by omega
      have y3 : (2 + 6 * (k : Int) + 3).toNat = 2 + 6 * k + 3 := by omega
      have s1 : 0 ≤ 2 + 6 * (k : Int) + 1 := by omega
      have s2 : 0 ≤ 2 + 6 * (k : Int) + 2 := by omega
      have s3 : 0 ≤ 2 + 6 * (k : Int) + 3 := by omega
      have s4 : 0 ≤ 2 + 6 * (k : Int) + 4 := by omega
      have s5 : 0 ≤ 2 + 6 * (k : Int) + 5 := by omega
      by_cases hz : (lo == lo4 0 0 0 0) = true
      · rw [hz] at hzz
        have hzn : (bits .or .u8 (bits .or .u8 (bits .or .u8 x0 x1) x2) x3 != 0) = false := by unfold bne; rw [hzz]; rfl
        have hzi : bits .or .u8 (bits .or .u8 (bits .or .u8 x0 x1) x2) x3 = 0 := by simpa using hzz
        clear hzz
        have hgood : good (ent bs k) = false := by rw [HLP.out]; simp [good, hz]
        have HK : Hid (K (ents bs (k + 1)) = K (ents bs k)) := by rw [ents_succ]; exact K_bad hgood
        clear hgood
        go_wp2
        go_quiet (fail)
        go_wp2
        go_quiet (fail)
        go_wp2
        go_roundw
        case rel => exact ⟨k + 1, by omega, by go_num, by rw [HK.out]; exact HOr.out, HBr.out.trans ⟨rfl, rfl, rfl, Nat.le_refl _, fun _ _ => rfl⟩, HGr.out⟩
        case measure => simp [intOf]; omega
      · have hz' : (lo == lo4 0 0 0 0) = false := by simpa using hz
        rw [hz'] at hzz
        have hzn : (bits .or .u8 (bits .or .u8 (bits .or .u8 x0 x1) x2) x3 != 0) = true := by unfold bne; rw [hzz]; rfl
        have hzd : decide (bits .or .u8 (bits .or .u8 (bits .or .u8 x0 x1) x2) x3 = 0) = false := by simpa using hzz
        clear hz
        by_cases hp0 : (p == 0) = true
        · have hgood : good (ent bs k) = false := by rw [HLP.out]; simp [good, hp0]
          have HK : Hid (K (ents bs (k + 1)) = K (ents bs k)) := by rw [ents_succ]; exact K_bad hgood
          clear hgood
          go_wp2
          go_quiet (fail)
          go_wp2
          go_quiet (fail)
          go_wp2
          go_roundw
          case rel => exact ⟨k + 1, by omega, by go_num, by rw [HK.out]; exact HOr.out, HBr.out.trans ⟨rfl, rfl, rfl, Nat.le_refl _, fun _ _ => rfl⟩, HGr.out⟩
          case measure => simp [intOf]; omega
        · have hp0' : (p == 0) = false := by simpa using hp0
          have hgood : good (ent bs k) = true := by rw [HLP.out]; simp only [good, hz', hp0']; rfl
          have HK : Hid (K (ents bs (k + 1)) = K (ents bs k) ++ [(lo, p)]) := by rw [ents_succ, ← HLP.out]; exact K_good hlen hgood
          clear hgood hp0
          go_wp2
          go_quiet (fail)
          go_wp2
          go_quiet (fail)
          go_wp2
          obtain ⟨i38, hi38, hz38, hsz38, hby38⟩ := info_parts Ybad.info38
          have H38 : Hid (Ybad.prog.info? 38 = some i38) := hi38
          have Hz38 : Hid (i38.zero = _) := hz38
          have Hsz38 : Hid (i38.size = 4) := hsz38
          have Hby38 : Hid (i38.bytes = 32) := hby38
          have hb4 : b < w4.heap.size := by have := HB4.out.size; omega
          clear hi38 hz38 hsz38 hby38
          go_region_held3 (fun w' => w'.cell? ⟨b, off + (2 + 6 * k), none⟩ = some (.int .u8 x0) ∧ w'.cell? ⟨b, off + (2 + 6 * k + 1), none⟩ = some (.int .u8 x1) ∧ w'.cell? ⟨b, off + (2 + 6 * k + 2), none⟩ = some (.int .u8 x2) ∧ w'.cell? ⟨b, off + (2 + 6 * k + 3), none⟩ = some (.int .u8 x3))
            (first | exact keep4 HW7.out hb4 d0 d1 d2 d3 | exact keep4 HW6.out hb4 d0 d1 d2 d3 | exact keep4 HW5.out hb4 d0 d1 d2 d3 | go_keep)
            (first
              | (go_at_call 6; refine (c6 x0 x1 x2 x3 z4 z6 et ev _ (by exact HGr.out) X0.out X1.out X2.out X3.out).mono ?_; rintro e w5 ⟨rfl, hB5, hG5⟩; rw [HLO.out]; have HW5 : Hid (Below w4.heap.size wr w5) := below_same (hB5.mono hsr) rfl rfl rfl rfl; have HG5 : Hid (Gl z4 z6 et ev w5) := hG5; have hs5 : wr.heap.size ≤ w5.heap.size := hB5.size; have HO5 : Hid (Own w5 w4.heap.size (.slice a (K (ents bs k)).length cap') z4 (K (ents bs k))) := Own.below HOr.out (below_same (a := wr) hB5 rfl rfl rfl rfl) (Nat.le_refl _); clear hB5 hG5)
              | (go_at_call 5; refine (c5 _ _ _ z4 z6 et ev _ _ (by exact HG5.out)).mono ?_; rintro e w6 ⟨rfl, hB6, hG6⟩; have HW6 : Hid (Below w4.heap.size wr w6) := HW5.out.trans (hB6.mono (by omega)); have hs6 : wr.heap.size ≤ w6.heap.size := Nat.le_trans hs5 hB6.size; have HO6 : Hid ((w6.alloc (.cells #[.int .u64 0, .int .u64 lo, .pointer z4, .int .u16 p] 38)).ownsRow w4.heap.size 38 4 (.slice a (K (ents bs k)).length cap') (K (ents bs k)).length (apcs z4 (K (ents bs k)))) := (Own.below HO5.out hB6 (Nat.le_refl _)).1.alloc _; clear hB6 hG6)
              | (refine step_append_lies _ (by rfl) (.tmp 117) (.tmp 141) 25 (by rfl) w4.heap.size 38 i38 _ 4 32 Ybad.underlying25 H38.out Hz38.out Hsz38.out Hby38.out (by rfl) (by omega) (.slice a (K (ents bs k)).length cap') (K (ents bs k)).length (apcs z4 (K (ents bs k))) (by rfl) HO6.out ⟨w6.heap.size, 0, none⟩ 1 1 (apc z4 (lo, p)) (by rfl) (by rfl) (World.news_of_block (heap_alloc_new w6 _)) (apc_one _ _) (by omega) (by unfold maxLen; omega) (by omega) (by simp; omega) _ rfl ?_; intro g2 cap2 w7 hown hgrow hat7 hlt7; have HO7 : Hid _ := Own.push HO5.out hown; have HW7 : Hid (Below w4.heap.size wr w7) := (HW6.out.alloc (by omega) _).grown hgrow (by simp; omega) (fun q hq => (HO6.out.lt q hq).1); clear hown hgrow hat7 hlt7))
          go_wp2
          go_roundw
          case rel => exact ⟨k + 1, by omega, by go_num, by rw [HK.out]; exact HO7.out, HBr.out.trans HW7.out, Gl.below HG4.out HG4.out.1 (HBr.out.trans HW7.out)⟩
          case measure => simp [intOf]; omega
    · have HKn : Hid (K (ents bs n) = K (ents bs k)) := by
        by_cases hkn : k = n
        · rw [hkn]; exact rfl
        · exact K_full_ents bs (by omega) n hk
      have HO4' : Hid (Own wr (w2.heap.size + 2) v z4 (K (ents bs k))) := by
        have h4 := HO4.out
        rw [HKn.out] at h4
        exact Own.below h4 HBr.out (Nat.le_refl _)
      have hex : (¬ k < n) ∨ (k < n ∧ ¬ (K (ents bs k)).length < 256) := by omega
      clear hgo
      by_cases hnil : K (ents bs k) = []
      · have hv := HO4'.out.2 hnil
        have hv2 := HOr.out.2 hnil
        simp only [Value.slice.injEq] at hv2
        obtain ⟨ha, hlk0, hcp⟩ := hv2
        rw [hlk0] at hex
        rw [hlk0, hcp, ha]
        subst hv
        clear ha hcp HOr hkl hnil HO4 HO4' hlk0
        rcases hex with h1 | ⟨h1, h2⟩
        · go_wp2_with fail
          refine (c9nil _).mono ?_
          rintro e w8 ⟨rfl, rfl⟩
          go_wp2
          go_ret
          exact ⟨rfl, HB4.out.trans (HBr.out.mono HB4.out.size)⟩
        · omega
      · obtain ⟨g1, cap1, hv1, _, hg1, hL1⟩ := Own.lie HO4'.out hnil
        obtain ⟨g2, cap2, hv2, _, hg2, hL2⟩ := Own.lie HOr.out hnil
        simp only [Value.slice.injEq, true_and] at hv2
        obtain ⟨ha, hcp⟩ := hv2
        subst hv1 ha hcp
        have HL1 : Hid (Lie wr g1 z4 (K (ents bs k))) := hL1
        have HL2 : Hid (Lie wr g2 z4 (K (ents bs k))) := hL2
        clear hL1 hL2 HOr HO4 HO4' hnil
        rcases hex with h1 | ⟨h1, h2⟩
        all_goals
          go_wp2_with fail
          refine (c9 g1 g2 _ _ (K (ents bs k)).length (K (ents bs k)) rfl (by omega) z4 _ HL1.out HL2.out).mono ?_
          rintro e w8 ⟨rfl, nq', rfl⟩
          go_wp2
          go_ret
          exact ⟨rfl, below_drewN' _ (HB4.out.trans (HBr.out.mono HB4.out.size))⟩
end Go.Proofs.YbulkdeumDoor
