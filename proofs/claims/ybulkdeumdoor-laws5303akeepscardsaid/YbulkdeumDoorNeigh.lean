/- Contracts of (*Peer).neighbours. -/
import Derived.Test.YbulkdeumDoorKept
namespace Go.Proofs.YbulkdeumDoor
open Go.RowKit
set_option maxHeartbeats 400000 in
theorem c8err (bp bk g len cap : Nat) (M : Array Value) (z4 z6 : Option Addr) (et : TypeId) (ev : Value) (w : World) (hG : Gl z4 z6 et ev w) (hM19 : M[19]? = some (.slice (some ⟨g, 0, none⟩) len cap))
    (hp : Hid (∀ wx, Below w.heap.size w wx → Gl z4 z6 et ev wx → Calls Ybad.prog 10 #[.slice (some ⟨g, 0, none⟩) len cap] wx fun e w' => e = .returned (.tuple #[.slice none 0 0, .iface et ev]) ∧ Below wx.heap.size wx w' ∧ Gl z4 z6 et ev w')) :
    Calls Ybad.prog 8 #[.pointer (some ⟨bp, 0, none⟩), .pointer (some ⟨bk, 0, none⟩), .agg M] w fun e w' => e = .returned (.tuple #[]) ∧ Below w.heap.size w w' ∧ Gl z4 z6 et ev w' := by
  have HG : Hid (Gl z4 z6 et ev w) := hG
  clear hG
  go_enter Ybad.func8, Ybad.ntmps8
  go_wp2_with fail
  refine (hp.out _ ((Below.refl _ _).alloc (Nat.le_refl _) _) (Gl.alloc HG.out _)).mono ?_
  rintro e w1 ⟨rfl, hB1, hG1⟩
  have HB1 : Hid (Below w.heap.size w w1) := ((Below.refl _ _).alloc (Nat.le_refl _) _).trans (hB1.mono (by simp))
  have HG1 : Hid (Gl z4 z6 et ev w1) := hG1
  clear hB1 hG1
  go_wp2
  exact bodyPost_ret (v := .tuple #[]) (by simp [results, Ybad.results8, go_sem]) rfl ⟨rfl, HB1.out, HG1.out⟩
set_option maxRecDepth 4000 in
set_option maxHeartbeats 800000 in
theorem c8ok (bp bk g len cap n : Nat) (M : Array Value) (bs : Nat → Int) (tv : Value) (z4 z6 : Option Addr) (et : TypeId) (ev : Value) (w : World) (hG : Gl z4 z6 et ev w) (hM19 : M[19]? = some (.slice (some ⟨g, 0, none⟩) len cap))
    (hb : ∀ i, B8 (bs i)) (hn1 : n ≤ 65535) (hbk : bk < w.heap.size) (hkc : w.cell? ⟨bk, 19, none⟩ = some tv) (hkf : w.frozen? ⟨bk, 19, none⟩ = false)
    (hp : Hid (∀ wx, Below w.heap.size w wx → Gl z4 z6 et ev wx → Calls Ybad.prog 10 #[.slice (some ⟨g, 0, none⟩) len cap] wx fun e w' => ∃ h, e = .returned (.tuple #[.slice (some ⟨h, 0, none⟩) n n, .nilIface]) ∧ wx.heap.size ≤ h ∧ LieB w' h z4 (ents bs n) n ∧ Below wx.heap.size wx w' ∧ Gl z4 z6 et ev w')) :
    Calls Ybad.prog 8 #[.pointer (some ⟨bp, 0, none⟩), .pointer (some ⟨bk, 0, none⟩), .agg M] w fun e w' => e = .returned (.tuple #[]) ∧ ∃ v wm, w' = wm.setCell ⟨bk, 19, none⟩ v ∧ Own wm w.heap.size v z4 (K (ents bs n)) ∧ Below w.heap.size w wm ∧ Gl z4 z6 et ev wm := by
  have HG : Hid (Gl z4 z6 et ev w) := hG
  clear hG
  go_enter Ybad.func8, Ybad.ntmps8
  go_wp2_with fail
  refine (hp.out _ ((Below.refl _ _).alloc (Nat.le_refl _) _) (Gl.alloc HG.out _)).mono ?_
  rintro e w1 ⟨h, rfl, hh, hL1, hB1, hG1⟩
  have HB1 : Hid (Below w.heap.size w w1) := ((Below.refl _ _).alloc (Nat.le_refl _) _).trans (hB1.mono (by simp))
  have HG1 : Hid (Gl z4 z6 et ev w1) := hG1
  have HL1 : Hid (LieB w1 h z4 (ents bs n) n) := hL1
  have hh1 := hL1.lt
  have hs1 := HB1.out.size
  clear hB1 hG1 hL1 hh hp
  have hn2 : (n : Int) ≤ 65535 := by omega
  go_wp2
  go_loopw [8, 21] (fun v i wr => ∃ k : Nat, k ≤ n ∧ i = .int .i64 k ∧ Own wr w1.heap.size v z4 (K (ents bs k)) ∧ Below w1.heap.size w1 wr ∧ Gl z4 z6 et ev wr) (fun _ i _ => n - (intOf i).toNat)
  case atStart => exact ⟨0, by omega, rfl, Own.nil _ _ _, Below.refl _ _, HG1.out⟩
  case round =>
    obtain ⟨k, hk, rfl, hO, hB, hGr⟩ := hrel
    obtain ⟨a, cap', hv⟩ := hO.form
    subst hv
    have HO : Hid _ := hO
    have HB : Hid (Below w1.heap.size w1 wr) := hB
    have HGr : Hid (Gl z4 z6 et ev wr) := hGr
    have HBW : Hid (Below w.heap.size w wr) := HB1.out.trans (hB.mono hs1)
    have hkl := K_le (ents bs k)
    have hsz := hB.size
    have hbkr : bk < wr.heap.size := by omega
    have hkc' : wr.cell? ⟨bk, 19, none⟩ = some tv := (HBW.out.cell (p := ⟨bk, 19, none⟩) hbk).trans hkc
    have hkf' : wr.frozen? ⟨bk, 19, none⟩ = false := (HBW.out.frozen (p := ⟨bk, 19, none⟩) hbk).trans hkf
    by_cases hlt : k < n
    · obtain ⟨a0, a1, a2, a3⟩ := (LieB.below HL1.out hB hh1).lie k (by rw [ents_length]; exact hlt)
      have hge : (ents bs n).getD k (0, 0) = ent bs k := by simp [ents, hlt]
      rw [hge] at a1 a3
      clear hge hO hB hGr
      by_cases hfull : (K (ents bs k)).length = 256
      · have hf : (((K (ents bs k)).length : Int) == 256) = true := by simp [hfull]
        have HF : Hid _ := K_full_ents bs hfull n hk
        clear hfull
        go_wp2
        go_end0
        refine ⟨rfl, _, _, (World.setCell_alloc_past _ _ _ _ hbkr).symm, ?_, (HBW.out.trans (((Below.refl _ _).alloc (Nat.le_refl _) _).mono HBW.out.size)), Gl.alloc HGr.out _⟩
        rw [HF.out]
        exact (Own.below ⟨ownsRow_base HO.out.1 hs1, HO.out.2⟩ ((Below.refl _ _).alloc (Nat.le_refl _) _) (Nat.le_refl _))
      · have hf : (((K (ents bs k)).length : Int) == 256) = false := by simp; omega
        have hlen : (K (ents bs k)).length < 256 := by omega
        have hne := ent_ne0 bs hb k
        obtain ⟨lo, p, hlp⟩ : ∃ lo p, ent bs k = (lo, p) := ⟨_, _, rfl⟩
        rw [hlp] at a1 a3 hne
        simp only at a1 a3 hne
        have HLP : Hid (ent bs k = (lo, p)) := hlp
        clear hfull hlp
        have HW2 : Hid (Below w1.heap.size w1 (wr.alloc (.cells #[.int .u64 0, .int .u64 lo, .pointer z4, .int .u16 p] 38))) := HB.out.alloc hsz _
        have HG2 : Hid (Gl z4 z6 et ev (wr.alloc (.cells #[.int .u64 0, .int .u64 lo, .pointer z4, .int .u16 p] 38))) := Gl.alloc HGr.out _
        have HO2 : Hid (Own (wr.alloc (.cells #[.int .u64 0, .int .u64 lo, .pointer z4, .int .u16 p] 38)) w1.heap.size (.slice a (K (ents bs k)).length cap') z4 (K (ents bs k))) := Own.below HO.out ((Below.refl _ _).alloc (Nat.le_refl _) _) (Nat.le_refl _)
        clear hkc' hkf' HO
        go_wp2_with fail
        refine (c11 _ _ _ z4 z6 et ev _ _ (by exact HG2.out)).mono ?_
        rintro e w2 ⟨rfl, hB2, hG2⟩
        have HG3 : Hid (Gl z4 z6 et ev w2) := hG2
        have hs2 : wr.heap.size + 1 ≤ w2.heap.size := by have := hB2.size; simpa using this
        have HW3 : Hid (Below w1.heap.size w1 w2) := HW2.out.trans (hB2.mono (by simp; omega))
        have HO3 : Hid (Own w2 w1.heap.size (.slice a (K (ents bs k)).length cap') z4 (K (ents bs k))) := Own.below HO2.out hB2 (Nat.le_refl _)
        have hcl2 := fun o => hB2.cell (p := ⟨wr.heap.size, o, none⟩) (by simp)
        clear hB2 hG2 HG2 HW2 HO2
        by_cases hbad : (lo == lo4 0 0 0 0) = true
        · have hgood : good (ent bs k) = false := by rw [HLP.out]; simp [good, hbad]
          have HK : Hid (K (ents bs (k + 1)) = K (ents bs k)) := by rw [ents_succ]; exact K_bad hgood
          clear hgood
          go_wp2_with fail
          refine (c12t z4 z6 et ev _ (by exact HG3.out) lo hbad).mono ?_
          rintro e w3 ⟨rfl, hB3, hG3⟩
          have HG4 : Hid (Gl z4 z6 et ev w3) := hG3
          have HW4 : Hid (Below w1.heap.size w1 w3) := HW3.out.trans (hB3.mono (by omega))
          have HO4 : Hid (Own w3 w1.heap.size (.slice a (K (ents bs k)).length cap') z4 (K (ents bs k))) := Own.below HO3.out hB3 (Nat.le_refl _)
          clear hB3 hG3 HG3 HW3 HO3 hcl2
          go_wp2
          go_roundw
          case rel => exact ⟨k + 1, by omega, by go_num, by rw [HK.out]; exact HO4.out, HW4.out, HG4.out⟩
          case measure => simp [intOf]; omega
        · have hbad' : (lo == lo4 0 0 0 0) = false := by simpa using hbad
          clear hbad
          go_wp2_with fail
          refine (c12f lo z4 z6 et ev _ (by exact HG3.out) hbad' hne).mono ?_
          rintro e w3 ⟨rfl, hB3, hG3⟩
          have HG4 : Hid (Gl z4 z6 et ev w3) := hG3
          have hs3 : wr.heap.size + 1 ≤ w3.heap.size := by have := hB3.size; omega
          have HW4 : Hid (Below w1.heap.size w1 w3) := HW3.out.trans (hB3.mono (by omega))
          have HO4 : Hid (Own w3 w1.heap.size (.slice a (K (ents bs k)).length cap') z4 (K (ents bs k))) := Own.below HO3.out hB3 (Nat.le_refl _)
          have hcl3 : ∀ o, w3.cell? ⟨wr.heap.size, o, none⟩ = (wr.alloc (.cells #[.int .u64 0, .int .u64 lo, .pointer z4, .int .u16 p] 38)).cell? ⟨wr.heap.size, o, none⟩ := fun o => (hB3.cell (p := ⟨wr.heap.size, o, none⟩) (by show wr.heap.size < w2.heap.size; omega)).trans (hcl2 o)
          clear hB3 hG3 HG3 HW3 HO3 hcl2
          go_wp2_with fail
          refine (c13 _ _ _ z4 z6 et ev _ _ (by exact HG4.out)).mono ?_
          rintro e w4 ⟨rfl, hB4, hG4⟩
          have HG5 : Hid (Gl z4 z6 et ev w4) := hG4
          have hs4 : wr.heap.size + 1 ≤ w4.heap.size := by have := hB4.size; omega
          have HW5 : Hid (Below w1.heap.size w1 w4) := HW4.out.trans (hB4.mono (by omega))
          have HO5 : Hid (Own w4 w1.heap.size (.slice a (K (ents bs k)).length cap') z4 (K (ents bs k))) := Own.below HO4.out hB4 (Nat.le_refl _)
          have hcl4 : ∀ o, w4.cell? ⟨wr.heap.size, o, none⟩ = (wr.alloc (.cells #[.int .u64 0, .int .u64 lo, .pointer z4, .int .u16 p] 38)).cell? ⟨wr.heap.size, o, none⟩ := fun o => (hB4.cell (p := ⟨wr.heap.size, o, none⟩) (by show wr.heap.size < w3.heap.size; omega)).trans (hcl3 o)
          clear hB4 hG4 HG4 HW4 HO4 hcl3
          by_cases hp0 : (p == 0) = true
          · have hgood : good (ent bs k) = false := by rw [HLP.out]; simp [good, hp0]
            have HK : Hid (K (ents bs (k + 1)) = K (ents bs k)) := by rw [ents_succ]; exact K_bad hgood
            clear hgood hcl4
            go_wp2
            go_roundw
            case rel => exact ⟨k + 1, by omega, by go_num, by rw [HK.out]; exact HO5.out, HW5.out, HG5.out⟩
            case measure => simp [intOf]; omega
          · have hp0' : (p == 0) = false := by simpa using hp0
            have hgood : good (ent bs k) = true := by rw [HLP.out]; simp only [good, hbad', hp0']; rfl
            have HK : Hid (K (ents bs (k + 1)) = K (ents bs k) ++ [(lo, p)]) := by rw [ents_succ, ← HLP.out]; exact K_good hlen hgood
            clear hgood hp0
            obtain ⟨i38, hi38, hz38, hsz38, hby38⟩ := info_parts Ybad.info38
            have H38 : Hid (Ybad.prog.info? 38 = some i38) := hi38
            have Hz38 : Hid (i38.zero = _) := hz38
            have Hsz38 : Hid (i38.size = 4) := hsz38
            have Hby38 : Hid (i38.bytes = 32) := hby38
            clear hi38 hz38 hsz38 hby38
            have HO6 : Hid ((w4.alloc (.cells #[.int .u64 0, .int .u64 lo, .pointer z4, .int .u16 p] 38)).ownsRow w1.heap.size 38 4 (.slice a (K (ents bs k)).length cap') (K (ents bs k)).length (apcs z4 (K (ents bs k)))) := HO5.out.1.alloc _
            go_wp2_with (at_builtin; refine wpList_append_lies _ rfl _ _ 25 rfl w1.heap.size 38 i38 _ 4 32 Ybad.underlying25 H38.out Hz38.out Hsz38.out Hby38.out rfl (by omega) (.slice a (K (ents bs k)).length cap') (K (ents bs k)).length (apcs z4 (K (ents bs k))) rfl HO6.out ⟨w4.heap.size, 0, none⟩ 1 1 (apc z4 (lo, p)) rfl rfl (World.news_of_block (heap_alloc_new w4 _)) ?c2 (by omega) (by unfold maxLen; omega) (by omega) (by have := HW5.out.size; simp; omega) _ rfl ?_)
            · intro u hu
              simp only [apc, List.mem_cons, List.not_mem_nil, or_false] at hu
              rcases hu with rfl | rfl | rfl | rfl <;> rfl
            · intro g2 cap2 w5 hown hgrow _ _
              have HO7 : Hid _ := Own.push HO5.out hown
              have HW6 : Hid (Below w1.heap.size w1 w5) := (HW5.out.alloc HW5.out.size _).grown hgrow (by have := HW5.out.size; simp; omega) (fun q hq => (HO6.out.lt q hq).1)
              clear hown hgrow HO6 hcl4
              go_wp2
              go_roundw
              case rel => exact ⟨k + 1, by omega, by go_num, by rw [HK.out]; exact HO7.out, HW6.out, Gl.below HG1.out HG1.out.1 HW6.out⟩
              case measure => simp [intOf]; omega
    · have : k = n := by omega
      subst this
      clear hO hB hGr
      go_wp2
      go_end0
      exact ⟨rfl, _, _, rfl, ⟨ownsRow_base HO.out.1 hs1, HO.out.2⟩, HBW.out, HGr.out⟩
end Go.Proofs.YbulkdeumDoor
