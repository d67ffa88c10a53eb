/- The law on a well-formed list: the walk. -/
import Derived.Test.YbulkdeumDoorKeepPlain
import Derived.Test.YbulkdeumDoorRawC
namespace Go.Proofs.YbulkdeumDoor
open Go.RowKit
theorem Own.setBody {w : World} {base g o : Nat} {v x : Value} {z : Option Addr} {l : List (Int × Int)} (h : Own w base v z l) (hg : g < base) : Own (w.setCell ⟨g, o, none⟩ x) base v z l :=
  ⟨ownsRow_setCell_below h.1 hg _, h.2⟩
/-- The body's row, as append wants it. -/
theorem BodyB.owns {w : World} {g : Nat} {bs : Nat → Int} {N M base : Nat} (h : BodyB w g bs N M) (hb : base ≤ g) (hNM : N ≤ M) (hM : M ≤ maxLen) : w.ownsRow base 5 1 (.slice (some ⟨g, 0, none⟩) N M) N (bcs bs N) := by
  obtain ⟨C, hC, hs, hc⟩ := h
  refine ⟨by rw [bcs_length]; omega, .inr ⟨g, M, C, rfl, hb, hC, hNM, hM, by omega, ?_⟩⟩
  rw [Nat.mul_one]
  apply List.ext_getElem?
  intro j
  by_cases hj : j < N
  · rw [List.getElem?_take, if_pos hj]
    have := hc j hj
    rw [← Array.getElem?_toList] at this
    rw [this]
    simp [bcs, hj]
  · rw [List.getElem?_take, if_neg hj, List.getElem?_eq_none (by rw [bcs_length]; omega)]
theorem cells_tail {w : World} {g N M l2 base : Nat} {bs ts : Nat → Int} (h : w.ownsRow base 5 1 (.slice (some ⟨g, 0, none⟩) (N + l2) M) (N + l2) (bcs bs N ++ bcs ts l2)) (hb : ∀ i, bs (N + i) = ts i) : ∀ i, i < N + l2 → w.cell? ⟨g, i, none⟩ = some (.int .u8 (bs i)) := by
  intro i hi
  rw [h.cellAt i (by omega)]
  by_cases hN : i < N
  · rw [List.getElem?_append_left (by rw [bcs_length]; exact hN)]
    simp [bcs, hN]
  · rw [List.getElem?_append_right (by rw [bcs_length]; omega), bcs_length]
    have := hb (i - N)
    rw [show N + (i - N) = i by omega] at this
    simp [bcs, show i - N < l2 by omega, this]
theorem ownsRow_other {w : World} {base g : Nat} {e : TypeId} {size : Nat} {v : Value} {n : Nat} {xs : List Value} (h : w.ownsRow base e size v n xs) (hne : ∀ q, v.ownBlock = some q → q ≠ g) (o' : Nat) (u : Value) : (w.setCell ⟨g, o', none⟩ u).ownsRow base e size v n xs := by
  obtain ⟨h1, h2⟩ := h
  refine ⟨h1, ?_⟩
  rcases h2 with h2 | ⟨q, cap, cur, hv, hg, hh, r⟩
  · exact Or.inl h2
  · exact Or.inr ⟨q, cap, cur, hv, hg, by rw [Below.heap_setCell _ _ _ _ (hne q (by rw [hv]; rfl))]; exact hh, r⟩
theorem tail_src {w w1 : World} {a2 : Option Addr} {l2 c2 : Nat} {ts : Nat → Int} (h : Bytes w a2 l2 c2 ts) (b : Below w.heap.size w w1) : ∀ ad, a2 = some ad → ∀ j u, (bcs ts l2)[j]? = some u → w1.cell? (ad.add j) = some u := by
  intro ad ha j u hu
  obtain ⟨hj, rfl⟩ := bcs_at _ _ _ _ hu
  obtain ⟨b0, off, hb0, hlt, hc⟩ := h.2.2 (by omega)
  rw [ha] at hb0
  obtain rfl := Option.some.inj hb0
  rw [addr_add]
  exact (b.cell (p := ⟨b0, off + j, none⟩) hlt).trans (hc j hj)
theorem keep5g {w w1 : World} {row : Option Nat} (hg : w.grownBy w1 row) {b : Nat} {v0 v1 v2 v3 v4 : Value} (hb : b < w.heap.size) (hne : some b ≠ row) (h : w.cell? ⟨b, 0, none⟩ = some v0 ∧ w.cell? ⟨b, 1, none⟩ = some v1 ∧ w.cell? ⟨b, 2, none⟩ = some v2 ∧ w.cell? ⟨b, 3, none⟩ = some v3 ∧ w.cell? ⟨b, 4, none⟩ = some v4) :
    w1.cell? ⟨b, 0, none⟩ = some v0 ∧ w1.cell? ⟨b, 1, none⟩ = some v1 ∧ w1.cell? ⟨b, 2, none⟩ = some v2 ∧ w1.cell? ⟨b, 3, none⟩ = some v3 ∧ w1.cell? ⟨b, 4, none⟩ = some v4 :=
  ⟨(hg.cell_far ⟨b, 0, none⟩ hb hne).trans h.1, (hg.cell_far ⟨b, 1, none⟩ hb hne).trans h.2.1, (hg.cell_far ⟨b, 2, none⟩ hb hne).trans h.2.2.1, (hg.cell_far ⟨b, 3, none⟩ hb hne).trans h.2.2.2.1, (hg.cell_far ⟨b, 4, none⟩ hb hne).trans h.2.2.2.2⟩
theorem keep5 {w w1 : World} {B : Nat} (hB : Below B w w1) {b : Nat} {v0 v1 v2 v3 v4 : Value} (hb : b < B) (h : w.cell? ⟨b, 0, none⟩ = some v0 ∧ w.cell? ⟨b, 1, none⟩ = some v1 ∧ w.cell? ⟨b, 2, none⟩ = some v2 ∧ w.cell? ⟨b, 3, none⟩ = some v3 ∧ w.cell? ⟨b, 4, none⟩ = some v4) :
    w1.cell? ⟨b, 0, none⟩ = some v0 ∧ w1.cell? ⟨b, 1, none⟩ = some v1 ∧ w1.cell? ⟨b, 2, none⟩ = some v2 ∧ w1.cell? ⟨b, 3, none⟩ = some v3 ∧ w1.cell? ⟨b, 4, none⟩ = some v4 :=
  ⟨(hB.cell (p := ⟨b, 0, none⟩) hb).trans h.1, (hB.cell (p := ⟨b, 1, none⟩) hb).trans h.2.1, (hB.cell (p := ⟨b, 2, none⟩) hb).trans h.2.2.1, (hB.cell (p := ⟨b, 3, none⟩) hb).trans h.2.2.2.1, (hB.cell (p := ⟨b, 4, none⟩) hb).trans h.2.2.2.2⟩
set_option maxRecDepth 4000 in
set_option maxHeartbeats 1000000 in
theorem keepsMain (a0 a2 : Option Addr) (l0 c0 l2 c2 R T : Nat) (r : Int) (es : Nat → En) (ts : Nat → Int) (z4 z6 : Option Addr) (et : TypeId) (ev : Value) (w : World) (hG : Gl z4 z6 et ev w) (h0 : ¬ (1024 : Int) < l0) (h2 : ¬ (1024 : Int) < l2) (hr : 0 ≤ r ∧ r ≤ 255) (hR : r % 40 + 1 = R) (hT : (l0 : Int) * R = T) (h : (T : Int) ≤ 4096)
   (he : Entries w a0 l0 es) (ht : Bytes w a2 l2 c2 ts) (hnil : a2 = none → l2 = 0 ∧ c2 = 0) :
    Calls Ybad.prog 3 #[.slice a0 l0 c0, .int .u8 r, .slice a2 l2 c2] w fun e w' => e = .returned (.bool true) ∧ Below w.heap.size w w' := by
  have HG : Hid (Gl z4 z6 et ev w) := hG
  have HE : Hid (Entries w a0 l0 es) := he
  have HT : Hid (Bytes w a2 l2 c2 ts) := ht
  have HNIL : Hid (a2 = none → l2 = 0 ∧ c2 = 0) := hnil
  obtain ⟨bs, hbs⟩ : ∃ bs, bs = kb es l0 T ts := ⟨_, rfl⟩
  have HBS : Hid (bs = kb es l0 T ts) := hbs
  have HB8 : Hid (∀ i, B8 (bs i)) := by rw [hbs]; exact kb_b8 he.1 ht.2.1 (by omega)
  have hl0T : 0 < T → 0 < l0 := by
    intro hTp
    rcases Nat.eq_zero_or_pos l0 with hz | hz
    · rw [hz] at hT; simp at hT; omega
    · exact hz
  have HL0 : Hid (0 < T → 0 < l0) := hl0T
  obtain ⟨N, hN⟩ : ∃ N, N = 2 + 6 * T := ⟨_, rfl⟩
  obtain ⟨M, hM⟩ : ∃ M, M = N + l2 := ⟨_, rfl⟩
  obtain ⟨C0, hC0, hmk⟩ := make5 N M (by omega) (by omega)
  have em : (N : Int) = 2 + 6 * (T : Int) := by omega
  have em2 : (M : Int) = 2 + 6 * (T : Int) + (l2 : Int) := by omega
  rw [em, em2] at hmk
  have HN : Hid (N = 2 + 6 * T ∧ M = N + l2) := ⟨hN, hM⟩
  have hi0 : (0 : Int) < (N : Int) := by omega
  have hi1 : (1 : Int) < (N : Int) := by omega
  obtain ⟨v0, hv0⟩ : ∃ v, C0[0]? = some v := ⟨C0[0]'(by omega), by simp⟩
  obtain ⟨v1, hv1⟩ : ∃ v, C0[1]? = some v := ⟨C0[1]'(by omega), by simp⟩
  have HBody : Hid (BodyB (w.alloc (.cells ((C0.setIfInBounds 0 (.int .u8 ((T : Int) % 256))).setIfInBounds 1 (.int .u8 ((T : Int) / 256))) 5)) w.heap.size bs 2 M) := by
    refine ⟨_, heap_alloc_new _ _, by simpa using hC0, fun j hj => ?_⟩
    have : j = 0 ∨ j = 1 := by omega
    rcases this with rfl | rfl
    · rw [Array.getElem?_setIfInBounds_ne (by omega), Array.getElem?_setIfInBounds_self_of_lt (by omega), hbs, kb0]
    · rw [Array.getElem?_setIfInBounds_self_of_lt (by simp; omega), hbs, kb1]
  clear em em2 hG he ht hbs hl0T hN hM hC0 hnil
  go_enter Ybad.func3, Ybad.ntmps3
  go_wp2
  go_loopw [10, 11] (fun v i wr => ∃ k : Nat, k ≤ T ∧ i = .int .i64 k ∧ BodyB wr w.heap.size bs (2 + 6 * k) M ∧ Own wr (w.heap.size + 1) v z4 (K (ents bs k)) ∧ Below w.heap.size w wr ∧ Gl z4 z6 et ev wr) (fun _ i _ => T - (intOf i).toNat)
  case atStart => exact ⟨0, by omega, rfl, HBody.out, Own.nil _ _ _, (Below.refl _ _).alloc (Nat.le_refl _) _, Gl.alloc HG.out _⟩
  case round =>
    clear HBody hmk hv0 hv1
    obtain ⟨k, hk, rfl, hBd, hO, hB, hGr⟩ := hrel
    obtain ⟨a, cap', hv⟩ := hO.form
    subst hv
    have HO : Hid _ := hO
    have HB : Hid (Below w.heap.size w wr) := hB
    have HBd : Hid (BodyB wr w.heap.size bs (2 + 6 * k) M) := hBd
    have HGr : Hid (Gl z4 z6 et ev wr) := hGr
    have hkl := K_le (ents bs k)
    have HLT : Hid (some wr.heap.size ≠ (Value.slice a (K (ents bs k)).length cap').ownBlock) := fun hq => Nat.lt_irrefl _ (hO.1.lt _ hq.symm).2
    have hsz := hBd.lt
    clear hO hB hGr
    by_cases hkT : k < T
    · have hl0 := HL0.out (by omega)
      obtain ⟨m, hm, hkm⟩ : ∃ m : Nat, m < l0 ∧ k % l0 = m := ⟨k % l0, Nat.mod_lt _ hl0, rfl⟩
      have hkm' : (k : Int) % (l0 : Int) = (m : Int) := by rw [← hkm]; omega
      obtain ⟨b, off, ha, hbw, hcells⟩ := HE.out.2 hl0
      obtain ⟨q0, q1, q2, q3, q4⟩ := hcells m hm
      have hok := HE.out.1 m
      have HK : Hid (ent bs k = (lo4 (es m).a (es m).b (es m).c (es m).d, (es m).p)) := by rw [HBS.out]; have := kb_ent es l0 T ts hkT (HE.out.1 _); rw [hkm] at this; exact this
      have HF : Hid (∀ j, j < 6 → bs (2 + 6 * k + j) = fld (es m) j) := by intro j hj; rw [HBS.out, kbE es l0 T ts hkT hj, hkm]
      obtain ⟨⟨ea, eb, ec, ed, ep⟩, hem⟩ : ∃ e, e = es m := ⟨_, rfl⟩
      rw [← hem] at q0 q1 q2 q3 q4 hok HK HF
      simp only at q0 q1 q2 q3 q4 HK
      have e0 := (HB.out.cell (p := ⟨b, off + m * 5, none⟩) hbw).trans q0
      have e1 := (HB.out.cell (p := ⟨b, off + m * 5 + 1, none⟩) hbw).trans q1
      have e2 := (HB.out.cell (p := ⟨b, off + m * 5 + 2, none⟩) hbw).trans q2
      have e3 := (HB.out.cell (p := ⟨b, off + m * 5 + 3, none⟩) hbw).trans q3
      have e4 := (HB.out.cell (p := ⟨b, off + m * 5 + 4, none⟩) hbw).trans q4
      subst ha
      clear q0 q1 q2 q3 q4 hcells hem hkm
      obtain ⟨u0, f0⟩ := hBd.has (o := 2 + 6 * k) (by have := HN.out; omega)
      obtain ⟨u1, f1⟩ := hBd.has (o := 2 + 6 * k + 1) (by have := HN.out; omega)
      obtain ⟨u2, f2⟩ := hBd.has (o := 2 + 6 * k + 2) (by have := HN.out; omega)
      obtain ⟨u3, f3⟩ := hBd.has (o := 2 + 6 * k + 3) (by have := HN.out; omega)
      obtain ⟨u4, f4⟩ := hBd.has (o := 2 + 6 * k + 4) (by have := HN.out; omega)
      obtain ⟨u5, f5⟩ := hBd.has (o := 2 + 6 * k + 5) (by have := HN.out; omega)
      have fr := hBd.frozen
      have t0 : 2 + 6 * (k : Int) < N := by have := HN.out; omega
      have t1 : 2 + 6 * (k : Int) + 1 < N := by have := HN.out; omega
      have t2 : 2 + 6 * (k : Int) + 2 < N := by have := HN.out; omega
      have t3 : 2 + 6 * (k : Int) + 3 < N := by have := HN.out; omega
      have t4 : 2 + 6 * (k : Int) + 4 < N := by have := HN.out; omega
      have t5 : 2 + 6 * (k : Int) + 5 < N := by have := HN.out; omega
      have ml : (m : Int) < l0 := by omega
      have lz : ¬ (l0 : Int) = 0 := by omega
      have lp : (0 : Int) < l0 := by omega
      have y0 : (2 + 6 * (k : Int)).toNat = 2 + 6 * k := by omega
      have hbr : b < wr.heap.size := by have := HB.out.size; omega
      have X : Hid (En.ok ⟨ea, eb, ec, ed, ep⟩) := hok
      obtain ⟨x0, x1, x2, x3, x4, x5⟩ := hok
      unfold B8 at x0 x1 x2 x3
      simp only at x0 x1 x2 x3 x4 x5
      clear hBd
      obtain ⟨W5, hW5⟩ : ∃ W5, W5 = (((((wr.setCell ⟨w.heap.size, 2 + 6 * k, none⟩ (.int .u8 ea)).setCell ⟨w.heap.size, 2 + 6 * k + 1, none⟩ (.int .u8 eb)).setCell ⟨w.heap.size, 2 + 6 * k + 2, none⟩ (.int .u8 ec)).setCell ⟨w.heap.size, 2 + 6 * k + 3, none⟩ (.int .u8 ed)).setCell ⟨w.heap.size, 2 + 6 * k + 4, none⟩ (.int .u8 (ep % 256))).setCell ⟨w.heap.size, 2 + 6 * k + 5, none⟩ (.int .u8 (ep / 256)) := ⟨_, rfl⟩
      have HBd5 : Hid (BodyB W5 w.heap.size bs (2 + 6 * (k + 1)) M) := by
        rw [hW5]
        have hNN := HN.out
        exact (((((HBd.out.push (by omega) (HF.out 0 (by omega))).push (by omega) (HF.out 1 (by omega))).push (by omega) (HF.out 2 (by omega))).push (by omega) (HF.out 3 (by omega))).push (by omega) (HF.out 4 (by omega))).push (by omega) (HF.out 5 (by omega))
      have HO5 : Hid (Own W5 (w.heap.size + 1) (.slice a (K (ents bs k)).length cap') z4 (K (ents bs k))) := by
        rw [hW5]
        exact (((((Own.setBody HO.out (Nat.lt_succ_self _)).setBody (Nat.lt_succ_self _)).setBody (Nat.lt_succ_self _)).setBody (Nat.lt_succ_self _)).setBody (Nat.lt_succ_self _)).setBody (Nat.lt_succ_self _)
      have HB5 : Hid (Below w.heap.size w W5) := by
        rw [hW5]
        exact (((((HB.out.setCell (Nat.le_refl _) _).setCell (Nat.le_refl _) _).setCell (Nat.le_refl _) _).setCell (Nat.le_refl _) _).setCell (Nat.le_refl _) _).setCell (Nat.le_refl _) _
      have hs5 : W5.heap.size = wr.heap.size := by rw [hW5]; simp [World.setCell]
      have HW5 : Hid _ := hW5.symm
      obtain ⟨box, hbox⟩ : ∃ box, box = Obj.cells #[.int .u8 ea, .int .u8 eb, .int .u8 ec, .int .u8 ed, .int .u16 ep] 28 := ⟨_, rfl⟩
      have HO6 : Hid (Own (W5.alloc box) (w.heap.size + 1) (.slice a (K (ents bs k)).length cap') z4 (K (ents bs k))) := Own.below HO5.out ((Below.refl _ _).alloc (Nat.le_refl _) _) (Nat.le_refl _)
      have HB6 : Hid (Below w.heap.size w (W5.alloc box)) := HB5.out.alloc HB5.out.size _
      have HG6 : Hid (Gl z4 z6 et ev (W5.alloc box)) := Gl.below HG.out HG.out.1 HB6.out
      have HBd6 : Hid (BodyB (W5.alloc box) w.heap.size bs (2 + 6 * (k + 1)) M) := BodyB.below HBd5.out ((Below.refl _ _).alloc (Nat.le_refl _) _) (by omega)
      have hzz := or8_zero ea eb ec ed X.out.1 X.out.2.1 X.out.2.2.1 X.out.2.2.2.1
      have HBX : Hid (box = _) := hbox
      clear hW5 hbox HBd HO HF HBd5 HO5 HB5
      by_cases hz : (lo4 ea eb ec ed == lo4 0 0 0 0) = true
      · rw [hz] at hzz
        have hzi : bits .or .u8 (bits .or .u8 (bits .or .u8 ea eb) ec) ed = 0 := by simpa using hzz
        have hgood : good (ent bs k) = false := by rw [HK.out]; simp [good, hz]
        have HKk : Hid (K (ents bs (k + 1)) = K (ents bs k)) := by rw [ents_succ]; exact K_bad hgood
        clear hzz hgood
        go_wp2
        go_roundw
        case rel => rw [HW5.out, ← HBX.out]; exact ⟨k + 1, by omega, by go_num, HBd6.out, by rw [HKk.out]; exact HO6.out, HB6.out, HG6.out⟩
        case measure => simp [intOf]; omega
      · have hz' : (lo4 ea eb ec ed == lo4 0 0 0 0) = false := by simpa using hz
        rw [hz'] at hzz
        have hzd : decide (bits .or .u8 (bits .or .u8 (bits .or .u8 ea eb) ec) ed = 0) = false := by simpa using hzz
        have hzn : (bits .or .u8 (bits .or .u8 (bits .or .u8 ea eb) ec) ed != 0) = true := by unfold bne; rw [hzz]; rfl
        have hznn : ¬ bits .or .u8 (bits .or .u8 (bits .or .u8 ea eb) ec) ed = 0 := by simpa using hzz
        clear hz
        by_cases hp0 : ep = 0
        · have hgood : good (ent bs k) = false := by rw [HK.out]; simp [good, hp0]
          have HKk : Hid (K (ents bs (k + 1)) = K (ents bs k)) := by rw [ents_succ]; exact K_bad hgood
          have hpb : (ep == 0) = true := by simpa using hp0
          have hpn : (ep != 0) = false := by simpa using hp0
          clear hgood hp0
          go_wp2
          go_roundw
          case rel => rw [HW5.out, ← HBX.out]; exact ⟨k + 1, by omega, by go_num, HBd6.out, by rw [HKk.out]; exact HO6.out, HB6.out, HG6.out⟩
          case measure => simp [intOf]; omega
        · have hp0' : (ep == 0) = false := by simpa using hp0
          have hgood : good (ent bs k) = true := by rw [HK.out]; simp only [good, hz', hp0']; rfl
          have hpn : (ep != 0) = true := by simpa using hp0
          by_cases hfull : (K (ents bs k)).length < 256
          · have HKk : Hid (K (ents bs (k + 1)) = K (ents bs k) ++ [(lo4 ea eb ec ed, ep)]) := by rw [ents_succ, ← HK.out]; exact K_good hfull hgood
            have hfi : ((K (ents bs k)).length : Int) < 256 := by omega
            clear hgood
            have hcE : (W5.alloc box).cell? ⟨wr.heap.size, 0, none⟩ = some (.int .u8 ea) ∧ (W5.alloc box).cell? ⟨wr.heap.size, 1, none⟩ = some (.int .u8 eb) ∧ (W5.alloc box).cell? ⟨wr.heap.size, 2, none⟩ = some (.int .u8 ec) ∧ (W5.alloc box).cell? ⟨wr.heap.size, 3, none⟩ = some (.int .u8 ed) ∧ (W5.alloc box).cell? ⟨wr.heap.size, 4, none⟩ = some (.int .u16 ep) := by
              rw [HBX.out]
              exact ⟨World.cell?_alloc_at _ _ _ _ hs5.symm, World.cell?_alloc_at _ _ _ _ hs5.symm, World.cell?_alloc_at _ _ _ _ hs5.symm, World.cell?_alloc_at _ _ _ _ hs5.symm, World.cell?_alloc_at _ _ _ _ hs5.symm⟩
            have HCE : Hid _ := hcE
            have hs6 : (W5.alloc box).heap.size = wr.heap.size + 1 := by simp [hs5]
            have HS6 : Hid _ := hs6
            have HS5 : Hid _ := hs5
            clear hcE hs6 hs5
            go_wp2
            rw [HW5.out, ← HBX.out]
            generalize hW6 : W5.alloc box = W6 at *
            obtain ⟨g0, g1, g2, g3, g4⟩ := HCE.out
            have hs6 : W6.heap.size = wr.heap.size + 1 := HS6.out
            have HWW : Hid (W5.alloc box = W6) := hW6
            obtain ⟨i38, hi38, hz38, hsz38, hby38⟩ := info_parts Ybad.info38
            have H38 : Hid (Ybad.prog.info? 38 = some i38) := hi38
            have Hz38 : Hid (i38.zero = _) := hz38
            have Hsz38 : Hid (i38.size = 4) := hsz38
            have Hby38 : Hid (i38.bytes = 32) := hby38
            clear hi38 hz38 hsz38 hby38 hW6 HW5 HBX HS5 f0 f1 f2 f3 f4 f5 fr e0 e1 e2 e3 e4
            go_region_held3 (fun w' => w'.cell? ⟨wr.heap.size, 0, none⟩ = some (.int .u8 ea) ∧ w'.cell? ⟨wr.heap.size, 1, none⟩ = some (.int .u8 eb) ∧ w'.cell? ⟨wr.heap.size, 2, none⟩ = some (.int .u8 ec) ∧ w'.cell? ⟨wr.heap.size, 3, none⟩ = some (.int .u8 ed) ∧ w'.cell? ⟨wr.heap.size, 4, none⟩ = some (.int .u16 ep))
              (first | exact HC9.out | exact keep5 HV8.out (by omega) HCE.out | exact keep5 HV7.out (by omega) HCE.out | go_keep)
              (first
                | (go_at_call 6; refine (c6 ea eb ec ed z4 z6 et ev _ (by exact HG6.out) X.out.1 X.out.2.1 X.out.2.2.1 X.out.2.2.2.1).mono ?_; rintro e w7 ⟨rfl, hB7, hG7⟩; have HV7 : Hid (Below W6.heap.size W6 w7) := below_same hB7 rfl rfl rfl rfl; have HG7 : Hid (Gl z4 z6 et ev w7) := hG7; have hs7 : W6.heap.size ≤ w7.heap.size := hB7.size; have HO7 : Hid (Own w7 (w.heap.size + 1) (.slice a (K (ents bs k)).length cap') z4 (K (ents bs k))) := Own.below HO6.out HV7.out (Nat.le_refl _); clear hB7 hG7)
                | (go_at_call 5; refine (c5 _ _ _ z4 z6 et ev _ _ (by exact HG7.out)).mono ?_; rintro e w8 ⟨rfl, hB8, hG8⟩; have HV8 : Hid (Below W6.heap.size W6 w8) := HV7.out.trans (hB8.mono hs7); have hs8 : W6.heap.size ≤ w8.heap.size := Nat.le_trans hs7 hB8.size; have HO8 : Hid ((w8.alloc (.cells #[.int .u64 0, .int .u64 (lo4 ea eb ec ed), .pointer z4, .int .u16 ep] 38)).ownsRow (w.heap.size + 1) 38 4 (.slice a (K (ents bs k)).length cap') (K (ents bs k)).length (apcs z4 (K (ents bs k)))) := (Own.below HO7.out hB8 (Nat.le_refl _)).1.alloc _; clear hB8 hG8)
                | (refine step_append_lies _ (by rfl) (.tmp 128) (.tmp 142) 25 (by rfl) (w.heap.size + 1) 38 i38 _ 4 32 Ybad.underlying25 H38.out Hz38.out Hsz38.out Hby38.out (by rfl) (by omega) (.slice a (K (ents bs k)).length cap') (K (ents bs k)).length (apcs z4 (K (ents bs k))) (by rfl) HO8.out ⟨w8.heap.size, 0, none⟩ 1 1 (apc z4 (lo4 ea eb ec ed, ep)) (by rfl) (by rfl) (World.news_of_block (heap_alloc_new w8 _)) (apc_one _ _) (by omega) (by unfold maxLen; omega) (by omega) (by simp; omega) _ rfl ?_; intro g9 cap9 w9 hown hgrow hat9 hlt9; have HO9 : Hid _ := Own.push HO7.out hown; have HC9 : Hid _ := keep5g hgrow (by simp; omega) HLT.out (keep5 ((Below.refl _ _).alloc (Nat.le_refl _) _) (by omega) (keep5 HV8.out (by omega) HCE.out)); have HV9 : Hid (Below (w.heap.size + 1) W6 w9) := ((HV8.out.mono (by omega)).alloc (by omega) _).grown hgrow (by simp; omega) (fun q hq => (HO8.out.lt q hq).1); clear hown hgrow hat9 hlt9))
            go_wp2
            go_roundw
            case rel => exact ⟨k + 1, by omega, by go_num, BodyB.below HBd6.out HV9.out (Nat.lt_succ_self _), by rw [HKk.out]; exact HO9.out, HB6.out.trans (HV9.out.mono (Nat.le_succ _)), Gl.below HG.out HG.out.1 (HB6.out.trans (HV9.out.mono (Nat.le_succ _)))⟩
            case measure => simp [intOf]; omega
          · have HKk : Hid (K (ents bs (k + 1)) = K (ents bs k)) := by rw [ents_succ]; exact K_full (by omega)
            have hfi : ¬ ((K (ents bs k)).length : Int) < 256 := by omega
            clear hgood
            go_wp2
            go_roundw
            case rel => rw [HW5.out, ← HBX.out]; exact ⟨k + 1, by omega, by go_num, HBd6.out, by rw [HKk.out]; exact HO6.out, HB6.out, HG6.out⟩
            case measure => simp [intOf]; omega
    · have hkT2 : k = T := by omega
      subst hkT2
      have HKT : Hid (N = 2 + 6 * k ∧ M = N + l2) := HN.out
      have hNb : (N : Int) ≤ 24578 := by have := HN.out; omega
      have hMb : M ≤ maxLen := by have := HN.out; unfold maxLen; omega
      have HBd2 : Hid (BodyB wr w.heap.size bs N M) := by rw [HN.out.1]; exact HBd.out
      have HOB : Hid (wr.ownsRow w.heap.size 5 1 (.slice (some ⟨w.heap.size, 0, none⟩) N M) N (bcs bs N)) := BodyB.owns HBd2.out (Nat.le_refl _) (by have := HN.out; omega) hMb
      obtain ⟨i5, hi5, hz5, hsz5, hby5⟩ := info_parts Ybad.info5
      have H5 : Hid (Ybad.prog.info? 5 = some i5) := hi5
      have Hsz5 : Hid (i5.size = 1) := hsz5
      clear hi5 hz5 hsz5 hby5 hBd HBd
      go_wp2_with (at_builtin; refine wpList_append_fits_any _ rfl (.tmp 144) (.tmp 145) 23 rfl w.heap.size 5 i5 1 Ybad.underlying23 H5.out Hsz5.out w.heap.size N M (bcs bs N) rfl HOB.out a2 l2 c2 (bcs ts l2) rfl (by rw [bcs_length]; omega) HNIL.out (tail_src HT.out HB.out) (bcs_one _ _) (by have := HN.out; omega) ?_)
      intro w1 hown hgrow
      have hs1 : w.heap.size < w1.heap.size := Nat.lt_of_lt_of_le hsz hgrow.size
      have HBY : Hid (∀ i, i < N + l2 → w1.cell? ⟨w.heap.size, i, none⟩ = some (.int .u8 (bs i))) := cells_tail hown (fun i => by rw [HN.out.1, HBS.out]; exact kbT es l0 k ts i)
      have HB1 : Hid (Below w.heap.size w w1) := HB.out.grown hgrow HB.out.size (fun q hq => by cases hq; exact Nat.le_refl _)
      have HG1 : Hid (Gl z4 z6 et ev w1) := Gl.below HG.out HG.out.1 HB1.out
      have HO1 : Hid (Own w1 (w.heap.size + 1) (.slice a (K (ents bs k)).length cap') z4 (K (ents bs k))) := ⟨World.ownsRow.kept HO.out.1 hgrow (by
        by_cases hq : (Value.slice a (K (ents bs k)).length cap').ownBlock = some w.heap.size
        · exfalso; have := (HO.out.1.lt _ hq).1; omega
        · exact .inr hq), HO.out.2⟩
      clear hown hgrow HOB HBd2 HO HB
      obtain ⟨ZP, hZP⟩ := peer_built
      have HZP : Hid (Ybad.prog.built 118 [] = some ZP) := hZP
      clear hZP
      go_wp2_with fail
      refine (c7 z4 z6 et ev _ (by exact HG1.out)).mono ?_
      rintro e w2 ⟨g7, rfl, hg7, hL7, hB2, hG2⟩
      have hs2 := hB2.size
      have HB2 : Hid (Below w.heap.size w w2) := HB1.out.trans (hB2.mono (by omega))
      have HG2 : Hid (Gl z4 z6 et ev w2) := hG2
      have HO2 : Hid (Own w2 (w.heap.size + 1) (.slice a (K (ents bs k)).length cap') z4 (K (ents bs k))) := Own.below HO1.out hB2 (Nat.le_refl _)
      have HBL2 : Hid (∀ i, i < N + l2 → w2.cell? ⟨w.heap.size, i, none⟩ = some (.int .u8 (bs i))) := fun i hi => (hB2.cell (p := ⟨w.heap.size, i, none⟩) hs1).trans (HBY.out i hi)
      obtain ⟨L, hLb, hL19⟩ := link_built (some ⟨g7, 0, none⟩) 1 1
      have HLb : Hid (Ybad.prog.built 55 [(11, .slice (some ⟨g7, 0, none⟩) 1 1)] = some L) := hLb
      obtain ⟨MS, hMb, hM19⟩ := msg_built (some ⟨w.heap.size, 0, none⟩) (N + l2) M
      have HMb : Hid (Ybad.prog.built 122 [(4, .slice (some ⟨w.heap.size, 0, none⟩) (N + l2) M)] = some MS) := hMb
      clear hB2 hG2 hL7 hLb hMb HB1 HG1 HBY HO1
      go_wp2_with (first
        | (refine wpList_build1 rfl 55 11 (.tmp 147) rfl (.slice (some ⟨g7, 0, none⟩) 1 1) (by rfl) L HLb.out ?_)
        | (refine wpList_build0 rfl 118 rfl ZP HZP.out ?_)
        | (refine wpList_build1 rfl 122 4 (.tmp 154) rfl (.slice (some ⟨w.heap.size, 0, none⟩) (N + l2) M) (by rfl) MS HMb.out ?_)
        | fail)
      have hsw : w.heap.size ≤ w2.heap.size := HB2.out.size
      have HB3 : Hid (Below w.heap.size w ((w2.alloc (.cells L 55)).alloc (.cells ZP 118))) := (HB2.out.alloc HB2.out.size _).alloc (by have := HB2.out.size; simp; omega) _
      have HG3 : Hid (Gl z4 z6 et ev ((w2.alloc (.cells L 55)).alloc (.cells ZP 118))) := (Gl.alloc HG2.out _).alloc _
      have hlk : ((w2.alloc (.cells L 55)).alloc (.cells ZP 118)).cell? ⟨w2.heap.size, 19, none⟩ = some (.slice (some ⟨g7, 0, none⟩) 1 1) := by
        rw [World.cell?_alloc_past _ _ _ (by simp), World.cell?_alloc_at _ _ _ _ rfl]; exact hL19
      have hfz : ((w2.alloc (.cells L 55)).alloc (.cells ZP 118)).frozen? ⟨w2.heap.size, 19, none⟩ = false := by
        rw [World.frozen?_alloc_past _ _ _ (by simp), World.frozen?_alloc_at _ _ _ _ rfl]
      have HO3 : Hid (Own ((w2.alloc (.cells L 55)).alloc (.cells ZP 118)) (w.heap.size + 1) (.slice a (K (ents bs k)).length cap') z4 (K (ents bs k))) := Own.below HO2.out (((Below.refl _ _).alloc (Nat.le_refl _) _).alloc (by simp) _) (Nat.le_refl _)
      have hcnt : p16 (bs 0) (bs 1) = (k : Nat) := by
        rw [p16_sum _ _ (HB8.out 0) (HB8.out 1), HBS.out, kb0, kb1]; omega
      refine (c8ok _ _ w.heap.size (N + l2) M k MS bs _ z4 z6 et ev _ (by exact HG3.out) hM19 HB8.out (by omega) (by simp; omega) hlk hfz (fun wx hbx hgx => c10ok w.heap.size (N + l2) M k bs z4 z6 et ev wx hgx (by have := HKT.out; omega) (by have := HKT.out; omega) (by have := HKT.out; omega) (by have := hbx.size; simp at this; omega)
        (fun i hi => (hbx.cell (p := ⟨w.heap.size, i, none⟩) (by simp; omega)).trans ((World.cell?_alloc_past _ _ _ (by simp; omega)).trans ((World.cell?_alloc_past _ _ _ (by omega)).trans (HBL2.out i hi))))
        HB8.out hcnt (by omega) (by have := HKT.out; omega))).mono ?_
      rintro e w4 ⟨rfl, v, wm, hw, hOm, hBm, hGm⟩
      have hsm : w2.heap.size + 2 ≤ wm.heap.size := by have := hBm.size; simpa using this
      have hlk4 : w4.cell? ⟨w2.heap.size, 19, none⟩ = some v := by
        rw [hw]; exact cell?_setCell_same' ((hBm.cell (p := ⟨w2.heap.size, 19, none⟩) (by simp; omega)).trans hlk)
      have HO4 : Hid (Own w4 (w2.heap.size + 2) v z4 (K (ents bs k))) := by
        rw [hw]; exact ⟨ownsRow_setCell_below (by simpa using hOm.1) (by show w2.heap.size < w2.heap.size + 2; omega) _, hOm.2⟩
      have HB4 : Hid (Below w.heap.size w w4) := by
        rw [hw]; exact (HB3.out.trans (hBm.mono HB3.out.size)).setCell hsw _
      have HW4 : Hid (Own w4 (w.heap.size + 1) (.slice a (K (ents bs k)).length cap') z4 (K (ents bs k))) := by
        have h3 := Own.below HO3.out hBm (Nat.le_refl _)
        rw [hw]
        exact ⟨ownsRow_other h3.1 (fun q hq => by have := (HO2.out.1.lt q hq).2; show q ≠ w2.heap.size; omega) _ _, h3.2⟩
      clear hw hOm hBm hGm hsm HG3 HB3 hlk HO3 HO2 HG2 HLb HMb HZP hM19 hL19 hfz
      by_cases hnil : K (ents bs k) = []
      · have hv := HO4.out.2 hnil
        have hv2 := HW4.out.2 hnil
        simp only [Value.slice.injEq] at hv2
        obtain ⟨ha, hlk0, hcp⟩ := hv2
        rw [hlk0, hcp, ha]
        subst hv
        clear ha hcp hkl hnil HO4 HW4 hlk0
        go_wp2_with fail
        refine (c9nil _).mono ?_
        rintro e w8 ⟨rfl, rfl⟩
        go_wp2
        go_ret
        exact ⟨rfl, HB4.out⟩
      · obtain ⟨g1, cap1, hv1, _, hg1, hL1⟩ := Own.lie HO4.out hnil
        obtain ⟨g2, cap2, hv2, _, hg2, hL2⟩ := Own.lie HW4.out hnil
        simp only [Value.slice.injEq, true_and] at hv2
        obtain ⟨ha, hcp⟩ := hv2
        subst hv1 ha hcp
        have HL1 : Hid (Lie w4 g1 z4 (K (ents bs k))) := hL1
        have HL2 : Hid (Lie w4 g2 z4 (K (ents bs k))) := hL2
        clear hL1 hL2 HO4 HW4 hnil
        go_wp2_with fail
        refine (c9 g1 g2 _ _ (K (ents bs k)).length (K (ents bs k)) rfl (by omega) z4 _ HL1.out HL2.out).mono ?_
        rintro e w8 ⟨rfl, nq', rfl⟩
        go_wp2
        go_ret
        exact ⟨rfl, below_drewN' _ HB4.out⟩
end Go.Proofs.YbulkdeumDoor
