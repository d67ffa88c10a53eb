/- What the listed variables give the walks of LawS5307CJoin; the argument opened. -/
import Derived.Test.YbulkdewqFmtRows
import Derived.Test.YbulkdewqFmtTie
import Derived.Test.YbulkdewqFmtCards
import Derived.Test.YbulkdewqFmtJWalk
import Derived.Lib.LaidTab
import Derived.ProofKit
import Derived.LaidMore
import Derived.OpenShut
import Derived.OpenVars
import Derived.Stop.Joined
import Derived.Stop.JoinedTold
import Derived.ShutString
import Derived.ChangeOld
import Derived.Lay
import Derived.SevenTiedAt
namespace Go.Proofs.YbulkdewqFmt
open Go.ChangeShapes Go.WideShapes Go.ChangeAt Go.WideMaps Go.WideElems Go.RowKit
open Go.Extern.Stop Go.Stop Go.Extern

theorem own : ownKnob Ybaf.prog.godebug = none := by kernel_rfl
theorem laidOut : laidOutB Ybaf.prog = true := by kernel_rfl
theorem gMap : Ybaf.prog.globalNamed "example.com/firethorn/firethorn/policy.namedProtocols" = some 0 := by kernel_rfl
theorem tMap : (Ybaf.prog.globals[0]?).map (·.type) = some 143 := by kernel_rfl
theorem gIcmp : Ybaf.prog.globalNamed "example.com/firethorn/firethorn/packet.AllICMP" = some 1 := by kernel_rfl
theorem tIcmp : (Ybaf.prog.globals[1]?).map (·.type) = some 112 := by kernel_rfl
theorem gPorts : Ybaf.prog.globalNamed "example.com/firethorn/firethorn/packet.AllPorts" = some 2 := by kernel_rfl
theorem tPorts : (Ybaf.prog.globals[2]?).map (·.type) = some 112 := by kernel_rfl
theorem gNames : Ybaf.prog.globalNamed "example.com/firethorn/firethorn/packet.protocolNames" = some 3 := by kernel_rfl
theorem tNames : (Ybaf.prog.globals[3]?).map (·.type) = some 184 := by kernel_rfl
theorem tTab : (Ybaf.prog.globals[4]?).map (·.type) = some 209 := by kernel_rfl
theorem law : KeyLaw Ybaf.prog 9 := string_law Ybaf.underlying9
theorem pow10_data : (Rows.laid_internal_strconv_uint64pow10 : DataW Unit) = Lib.tabData .u64 Lib.pow10Tab := by rfl
theorem names_data : (Rows.laid_example_com_firethorn_firethorn_packet_protocolNames : DataW Unit) = .slice (tab.map fun x => .agg [.lit (.string x.1), .lit (.int .u8 x.2)]) [] := by rfl
abbrev emptyS : ByteArray := { data := #[] }
theorem wf_u16 {z : Int} (h : (Lit.int .u16 z).wf = true) : U16 z := by
  have e1 : IntKind.u16.min = 0 := rfl
  have e2 : IntKind.u16.max = 65535 := rfl
  simp [Lit.wf, e1, e2] at h
  exact ⟨by omega, by omega⟩
theorem cell_of_take {cs : List Value} {j : Nat} {v : Value} (h : (cs.drop j).take 1 = [v]) : cs[j]? = some v := by
  have := congrArg (·[0]?) h
  simpa [List.getElem?_take, List.getElem?_drop] using this
theorem c119 : Ybaf.prog.cellsOf 119 = 9 := by kernel_rfl
theorem c5 : Ybaf.prog.cellsOf 5 = 1 := by kernel_rfl
theorem c110 : Ybaf.prog.cellsOf 110 = 1 := by kernel_rfl
theorem open_one {H : Type} {enc : TypeId × Value → H} {W : World} {sp : Nat → Bool} {held : Bool} {fuel : Nat} {cs : List Value} {x : DataW H × List MemPlace} (h : DataW.trod enc Ybaf.prog W 0 sp held fuel 119 cs = some x) :
    ∀ r, r < 9 → ∃ z, cs[r]? = some (if r = 0 then .int .u8 z else .int .u16 z) ∧ (r = 0 → 0 ≤ z ∧ z ≤ 255) ∧ (0 < r → U16 z) := by
  obtain ⟨xs, k, _, _, _, hxl, hf⟩ := DataW.trod_struct Ybaf.underlying119 h
  have hx9 : xs.length = 9 := hxl
  have key : ∀ r, (hr : r < 9) → 0 < r → DataW.trod enc Ybaf.prog W 0 sp held k 110 ((cs.drop r).take (Ybaf.prog.cellsOf 110)) = xs[r]? := by
    intro r hr h0
    have h9 : r = 1 ∨ r = 2 ∨ r = 3 ∨ r = 4 ∨ r = 5 ∨ r = 6 ∨ r = 7 ∨ r = 8 := by omega
    rcases h9 with rfl | rfl | rfl | rfl | rfl | rfl | rfl | rfl
    · exact hf 1 _ rfl
    · exact hf 2 _ rfl
    · exact hf 3 _ rfl
    · exact hf 4 _ rfl
    · exact hf 5 _ rfl
    · exact hf 6 _ rfl
    · exact hf 7 _ rfl
    · exact hf 8 _ rfl
  intro r hr
  by_cases h0 : r = 0
  · subst h0
    have g0 : DataW.trod enc Ybaf.prog W 0 sp held k 5 ((cs.drop 0).take (Ybaf.prog.cellsOf 5)) = xs[0]? := hf 0 _ rfl
    rw [c5, List.getElem?_eq_getElem (by omega)] at g0
    obtain ⟨z, e1, _, wf⟩ := DataW.trod_int Ybaf.underlying5 g0
    have hb := bounds_u8 wf
    exact ⟨z, by simpa using cell_of_take e1, fun _ => ⟨by omega, by omega⟩, fun h => absurd h (by omega)⟩
  · have g := key r hr (by omega)
    rw [c110, List.getElem?_eq_getElem (by omega)] at g
    obtain ⟨z, e1, _, wf⟩ := DataW.trod_int Ybaf.underlying110 g
    exact ⟨z, by rw [if_neg h0]; exact cell_of_take e1, fun h => absurd h h0, fun _ => wf_u16 wf⟩
theorem addr_add (a : Addr) (i j : Nat) : (a.add i).add j = a.add (i + j) := by
  unfold Addr.add
  by_cases hi : i = 0
  · by_cases hj : j = 0 <;> simp [hi, hj]
  · by_cases hj : j = 0 <;> simp [hi, hj, Nat.add_assoc]
theorem view_none {W : World} {b o : Nat} {av} {v : Value} (h : W.cell? ⟨b, o, av⟩ = some v) : av = none := by
  cases av with
  | none => rfl
  | some y =>
    unfold World.cell? at h
    split at h
    · simp at h
    · cases h
theorem open_in {H : Type} {enc : TypeId × Value → H} {W : World} {sp : Nat → Bool} {held : Bool} {fuel : Nat} {cs : List Value} {x : DataW H × List MemPlace} (h : DataW.trod enc Ybaf.prog W 0 sp held fuel 106 cs = some x) :
    ∃ a n c e, cs = [.slice a n c] ∧ n ≤ c ∧ c ≤ maxLen ∧ (a = none → n = 0 ∧ c = 0) ∧ In W a n e ∧ ∀ i, i < n → Fits e i := by
  rcases DataW.trod_slice Ybaf.underlying106 h with ⟨rfl, _⟩ | ⟨a, len, cap, elems, rest, n, _, rfl, _, _, hl, hm, hlen, hel, _, _⟩
  · exact ⟨none, 0, 0, fun _ => 0, rfl, Nat.le_refl _, Nat.zero_le _, fun _ => ⟨rfl, rfl⟩, fun h => absurd h (by omega), fun i hi => absurd hi (by omega)⟩
  · have core : ∀ i, i < len → ∀ r, r < 9 → ∃ z, W.cell? (a.add (i * 9 + r)) = some (if r = 0 then .int .u8 z else .int .u16 z) ∧ (r = 0 → 0 ≤ z ∧ z ≤ 255) ∧ (0 < r → U16 z) := by
      intro i hi r hr
      have he := hel i hi
      rw [c119, List.getElem?_eq_getElem (by omega)] at he
      obtain ⟨cs', h1, h2⟩ := Option.bind_eq_some_iff.1 he
      obtain ⟨_, hl9, hcell⟩ := World.cells?_some h1
      obtain ⟨z, hz, hb⟩ := open_one h2 r hr
      refine ⟨z, ?_, hb⟩
      have hc := hcell r (by omega)
      rw [hz, addr_add] at hc
      exact hc
    refine ⟨some a, len, cap, fun j => intOf ((W.cell? (a.add j)).getD .nilIface), rfl, hl, hm, fun h => (by cases h), fun hn => ?_, fun i hi => ?_⟩
    · obtain ⟨b, off, av⟩ := a
      obtain ⟨z0, hz0, _⟩ := core 0 hn 0 (by omega)
      have hv : av = none := view_none (by simpa [Addr.add] using hz0)
      subst hv
      refine ⟨b, off, rfl, World.block_lt_of_cell? W _ hz0, fun j hj => ?_⟩
      obtain ⟨z, hz, _⟩ := core (j / 9) (by omega) (j % 9) (by omega)
      have hjj : j / 9 * 9 + j % 9 = j := by omega
      rw [hjj] at hz
      have hz' : W.cell? ⟨b, off + j, none⟩ = some (if j % 9 = 0 then .int .u8 z else .int .u16 z) := by rw [add_plain] at hz; exact hz
      simp only [hz, Option.getD_some]
      rw [hz']
      split <;> simp [intOf]
    · refine ⟨?_, fun r h0 h9 => ?_⟩
      · obtain ⟨z, hz, hb⟩ := core i hi 0 (by omega)
        have hb' := hb.1 rfl
        simp only [Nat.add_zero, if_true] at hz
        simp only [hz, Option.getD_some, intOf]
        exact hb'
      · obtain ⟨z, hz, hb⟩ := core i hi r h9
        have hb' := hb.2 h0
        rw [if_neg (by omega)] at hz
        simp only [hz, Option.getD_some, intOf]
        exact hb'
theorem c9 : Ybaf.prog.cellsOf 9 = 1 := by kernel_rfl
theorem c186 : Ybaf.prog.cellsOf 186 = 2 := by kernel_rfl
theorem ba_eq {s : ByteArray} {l : List UInt8} (h : s.data.toList = l) : s = ⟨l.toArray⟩ := by rw [← h]
/-- One line of the table of names. -/
theorem open_name {H : Type} {enc : TypeId × Value → H} {W : World} {sp : Nat → Bool} {held : Bool} {fuel : Nat} {cs : List Value} {x : DataW H × List MemPlace} {s0 : List UInt8} {z0 : Int} (h : DataW.trod enc Ybaf.prog W 0 sp held fuel 186 cs = some x) (hx : x.1 = .agg [.lit (.string s0), .lit (.int .u8 z0)]) :
    cs[0]? = some (.string ⟨s0.toArray⟩) ∧ cs[1]? = some (.int .u8 z0) := by
  obtain ⟨xs, k, _, hxx, _, hxl, hf⟩ := DataW.trod_struct Ybaf.underlying186 h
  have h2 : xs.length = 2 := hxl
  match xs, h2 with
  | [y0, y1], _ =>
    have g0 : DataW.trod enc Ybaf.prog W 0 sp held k 9 ((cs.drop 0).take (Ybaf.prog.cellsOf 9)) = some y0 := hf 0 _ rfl
    have g1 : DataW.trod enc Ybaf.prog W 0 sp held k 5 ((cs.drop 1).take (Ybaf.prog.cellsOf 5)) = some y1 := hf 1 _ rfl
    rw [c9] at g0
    rw [c5] at g1
    obtain ⟨s, e1, e2, _⟩ := DataW.trod_string Ybaf.underlying9 g0
    obtain ⟨z, d1, d2, _⟩ := DataW.trod_int Ybaf.underlying5 g1
    subst e2 d2 hxx
    simp at hx
    obtain ⟨hs, hz⟩ := hx
    rw [cell_of_take e1, cell_of_take d1, ba_eq hs, hz]
    exact ⟨rfl, rfl⟩
/-- A span. -/
theorem open_span {H : Type} {enc : TypeId × Value → H} {W : World} {sp : Nat → Bool} {held : Bool} {fuel : Nat} {cs : List Value} {x : DataW H × List MemPlace} {s0 z0 : Int} (h : DataW.trod enc Ybaf.prog W 0 sp held fuel 112 cs = some x) (hx : x.1 = .agg [.lit (.int .u16 s0), .lit (.int .u16 z0)]) :
    cs[0]? = some (.int .u16 s0) ∧ cs[1]? = some (.int .u16 z0) := by
  obtain ⟨xs, k, _, hxx, _, hxl, hf⟩ := DataW.trod_struct Ybaf.underlying112 h
  have h2 : xs.length = 2 := hxl
  match xs, h2 with
  | [y0, y1], _ =>
    have g0 : DataW.trod enc Ybaf.prog W 0 sp held k 110 ((cs.drop 0).take (Ybaf.prog.cellsOf 110)) = some y0 := hf 0 _ rfl
    have g1 : DataW.trod enc Ybaf.prog W 0 sp held k 110 ((cs.drop 1).take (Ybaf.prog.cellsOf 110)) = some y1 := hf 1 _ rfl
    rw [c110] at g0 g1
    obtain ⟨s, e1, e2, _⟩ := DataW.trod_int Ybaf.underlying110 g0
    obtain ⟨z, d1, d2, _⟩ := DataW.trod_int Ybaf.underlying110 g1
    subst e2 d2 hxx
    simp at hx
    obtain ⟨hs, hz⟩ := hx
    rw [cell_of_take e1, cell_of_take d1, hs, hz]
    exact ⟨rfl, rfl⟩
theorem open_names {H : Type} {enc : TypeId × Value → H} {W : World} {sp : Nat → Bool} {held : Bool} {fuel : Nat} {cs : List Value} {x : DataW H × List MemPlace} (h : DataW.trod enc Ybaf.prog W 0 sp held fuel 184 cs = some x) (hx : x.1 = .slice (tab.map fun x => .agg [.lit (.string x.1), .lit (.int .u8 x.2)]) []) :
    ∃ b off c, cs = [.slice (some ⟨b, off, none⟩) 56 c] ∧ b < W.heap.size ∧ ∀ k, k < 56 → W.cell? ⟨b, off + k * 2, none⟩ = some (.string (nm k)) ∧ W.cell? ⟨b, off + k * 2 + 1, none⟩ = some (.int .u8 (nu k)) := by
  rcases DataW.trod_slice Ybaf.underlying184 h with ⟨_, h0⟩ | ⟨a, len, cap, elems, rest, n, _, rfl, h0, _, hl, hm, hlen, hel, _, _⟩
  · rw [h0] at hx
    cases hx
  · rw [h0] at hx
    have hel2 : elems.map (·.1) = tab.map fun x => .agg [.lit (.string x.1), .lit (.int .u8 x.2)] := by
      simp only [DataW.slice.injEq] at hx
      exact hx.1
    have h56 : len = 56 := by
      have := congrArg List.length hel2
      simp only [List.length_map] at this
      rw [hlen] at this
      exact this
    subst h56
    have core : ∀ i, i < 56 → W.cell? (a.add (i * 2)) = some (.string (nm i)) ∧ W.cell? (a.add (i * 2 + 1)) = some (.int .u8 (nu i)) := by
      intro i hi
      have he := hel i hi
      rw [c186, List.getElem?_eq_getElem (by omega)] at he
      obtain ⟨cs', h1, h2⟩ := Option.bind_eq_some_iff.1 he
      obtain ⟨_, hl2, hcell⟩ := World.cells?_some h1
      have hti : (tab[i]?).isSome := by
        have : tab.length = 56 := rfl
        rw [List.getElem?_eq_getElem (by omega)]
        rfl
      obtain ⟨⟨s0, z0⟩, ht⟩ := Option.isSome_iff_exists.1 hti
      have hy : (elems[i]'(by omega)).1 = .agg [.lit (.string s0), .lit (.int .u8 z0)] := by
        have := congrArg (·[i]?) hel2
        simp only [List.getElem?_map, ht, Option.map_some] at this
        rw [List.getElem?_eq_getElem (by omega), Option.map_some] at this
        exact Option.some.inj this
      obtain ⟨o0, o1⟩ := open_name h2 hy
      have hnm : nm i = ⟨s0.toArray⟩ := by simp [nm, List.getD_eq_getElem?_getD, ht]
      have hnu : nu i = z0 := by simp [nu, List.getD_eq_getElem?_getD, ht]
      have k0 := hcell 0 (by omega)
      have k1 := hcell 1 (by omega)
      rw [o0, addr_add] at k0
      rw [o1, addr_add] at k1
      rw [hnm, hnu]
      exact ⟨k0, k1⟩
    obtain ⟨b, off, av⟩ := a
    have hv : av = none := view_none (by simpa [Addr.add] using (core 0 (by omega)).1)
    subst hv
    refine ⟨b, off, cap, rfl, ?_, fun k hk => ?_⟩
    · exact World.block_lt_of_cell? W (Addr.add ⟨b, off, none⟩ (0 * 2)) (core 0 (by omega)).1
    · obtain ⟨k0, k1⟩ := core k hk
      rw [add_plain] at k0 k1
      exact ⟨k0, by rw [Nat.add_assoc]; exact k1⟩
set_option maxRecDepth 100000 in
theorem GJ_of_laid {W : World} (h : laidMetH Ybaf.prog Rows.lawS5307CJoinRow.laid W) : ∃ m o b off c, NoName m o ∧ Looks m o ∧ GJ m o b off c W := by
  rw [MakeChecks.laidMetH_plain _ _ _ (by kernel_rfl)] at h
  obtain ⟨ps, ⟨g0, t0, cs0, f0, p0, q0, hg0, ht0, hv0, hd0, ⟨g1, t1, cs1, f1, p1, q1, hg1, ht1, hv1, hd1, ⟨g2, t2, cs2, f2, p2, q2, hg2, ht2, hv2, hd2, ⟨g3, t3, cs3, f3, p3, q3, hg3, ht3, hv3, hd3, ⟨g4, t4, cs4, f4, p4, q4, hg4, ht4, hv4, hd4, ⟨g5, t5, cs5, f5, p5, q5, hg5, ht5, hv5, hd5, ⟨g6, t6, cs6, f6, p6, q6, hg6, ht6, hv6, hd6, _, _⟩, _⟩, _⟩, _⟩, _⟩, _⟩, _⟩, _, _⟩ := h
  obtain rfl := Option.some.inj (gTab.symm.trans hg2)
  obtain rfl := Option.some.inj (tTab.symm.trans ht2)
  obtain rfl := Option.some.inj (gNames.symm.trans hg3)
  obtain rfl := Option.some.inj (tNames.symm.trans ht3)
  obtain rfl := Option.some.inj (gPorts.symm.trans hg4)
  obtain rfl := Option.some.inj (tPorts.symm.trans ht4)
  obtain rfl := Option.some.inj (gIcmp.symm.trans hg5)
  obtain rfl := Option.some.inj (tIcmp.symm.trans ht5)
  obtain rfl := Option.some.inj (gMap.symm.trans hg6)
  obtain rfl := Option.some.inj (tMap.symm.trans ht6)
  have hT : Lib.TabIs Ybaf.prog W "internal/strconv.uint64pow10" .u64 Lib.pow10Tab := by
    unfold Lib.TabIs
    rw [pow10_data] at hd2
    rw [hv2, ← Lib.cells_of_tab Ybaf.underlying209 Ybaf.underlying189 (by kernel_rfl) (by kernel_rfl) hd2]
  have h4 : 4 < W.heap.size := World.block_lt_of_cell? W _ (hT.cell gTab 0 (by decide))
  obtain ⟨b, off, c, hcs3, hb3, hnames⟩ := open_names hd3 names_data
  have hcell3 : W.cell? ⟨3, 0, none⟩ = some (.slice (some ⟨b, off, none⟩) 56 c) := by
    have := World.var?_cell hg3 hv3 0
    rw [Array.eq_one_of_toList hcs3] at this
    simpa using this
  obtain ⟨hp0, hp1⟩ := open_span hd4 (s0 := 0) (z0 := 65535) rfl
  obtain ⟨hi0, hi1⟩ := open_span hd5 (s0 := 0) (z0 := 255) rfl
  have cp0 := World.var?_cell hg4 hv4 0
  have cp1 := World.var?_cell hg4 hv4 1
  have ci0 := World.var?_cell hg5 hv5 0
  have ci1 := World.var?_cell hg5 hv5 1
  rw [← Array.getElem?_toList, hp0] at cp0
  rw [← Array.getElem?_toList, hp1] at cp1
  rw [← Array.getElem?_toList, hi0] at ci0
  rw [← Array.getElem?_toList, hi1] at ci1
  rcases open_map Ybaf.underlying143 hd6 with ⟨_, hx⟩ | ⟨bm, es, clock, m, rfl, hcs, hb, _, F, hx⟩
  · simp [Rows.laid_example_com_firethorn_firethorn_policy_namedProtocols] at hx
  simp only [Prod.mk.injEq] at hx
  have hcell : W.cell? ⟨0, 0, none⟩ = some (.map (some bm)) := by
    have := World.var?_cell hg6 hv6 0
    rw [Array.eq_one_of_toList hcs] at this
    simpa using this
  have look : ∀ (s : ByteArray) (_ : s.size ≤ maxLen) (w : World), w.heap[bm]? = some (.map es clock) →
      ((Instr.lookup 143 (.map (some bm)) (.string s) true).run Ybaf.prog w = .ok (.tuple #[.int .u8 0, .bool false]) w ∧ (Rows.laid_example_com_firethorn_firethorn_policy_namedProtocols : DataW Unit).atKey (.string s.data.toList) .nil = .nil) ∨
      ∃ r, (Instr.lookup 143 (.map (some bm)) (.string s) true).run Ybaf.prog w = .ok (.tuple #[.int .u8 r, .bool true]) w ∧ (Rows.laid_example_com_firethorn_firethorn_policy_namedProtocols : DataW Unit).atKey (.string s.data.toList) .nil = .lit (.int .u8 r) := by
    intro s hs w hw
    have zero : (zeroValue 5).run Ybaf.prog w = .ok (.int .u8 0) w := by kernel_rfl
    rcases fit_lookup_ok (w := w) law Ybaf.underlying143 zero hw F (keyOf_string_mk (s := s) Ybaf.underlying9 hs) with ⟨hrun, hat⟩ | ⟨v, y, hrun, hRv, hat, _⟩
    · refine Or.inl ⟨hrun, ?_⟩
      have := hat .nil
      rw [← hx.1] at this
      exact this
    · obtain ⟨r, rfl, rfl, _⟩ := elemAt_int Ybaf.underlying5 hRv
      refine Or.inr ⟨r, hrun, ?_⟩
      have := hat .nil
      rw [← hx.1] at this
      exact this
  refine ⟨bm, .map es clock, b, off, c, ?_, ?_, ⟨h4, (Array.getElem?_eq_some_iff.1 hb).1, hcell, hb, hT⟩, ⟨hb3, by omega, hcell3, hnames⟩, ci0, ci1, cp0, cp1⟩
  · intro w hw
    rcases look emptyS (by decide) w hw with ⟨hrun, _⟩ | ⟨r, _, hat⟩
    · exact hrun
    · have e2 : (Rows.laid_example_com_firethorn_firethorn_policy_namedProtocols : DataW Unit).atKey (.string emptyS.data.toList) .nil = .nil := rfl
      rw [e2] at hat
      cases hat
  · intro p hp
    have hsz : (nm (ix p)).size ≤ maxLen := by
      have := (ix_named hp).2.2.2.2
      simp only [ByteArray.size, ← Array.length_toList]
      unfold maxLen
      omega
    refine ⟨.int .u8 (if inm p then p else 0), fun w hw => ?_⟩
    rcases look _ hsz w hw with ⟨hrun, hat⟩ | ⟨r, hrun, hat⟩
    · rw [hrun]
      rcases named_ten hp with rfl | rfl | rfl | rfl | rfl | rfl | rfl | rfl | rfl | rfl
      all_goals
        first
          | rfl
          | (have e2 : (DataW.lit (.int .u8 1) : DataW Unit) = .nil := Eq.trans (by rfl) hat
             cases e2)
          | (have e2 : (DataW.lit (.int .u8 6) : DataW Unit) = .nil := Eq.trans (by rfl) hat
             cases e2)
          | (have e2 : (DataW.lit (.int .u8 17) : DataW Unit) = .nil := Eq.trans (by rfl) hat
             cases e2)
    · rw [hrun]
      rcases named_ten hp with rfl | rfl | rfl | rfl | rfl | rfl | rfl | rfl | rfl | rfl
      all_goals
        first
          | (have e2 : (DataW.nil : DataW Unit) = .lit (.int .u8 r) := Eq.trans (by rfl) hat
             cases e2)
          | (have e2 : (DataW.lit (.int .u8 1) : DataW Unit) = .lit (.int .u8 r) := Eq.trans (by rfl) hat
             cases e2
             rfl)
          | (have e2 : (DataW.lit (.int .u8 6) : DataW Unit) = .lit (.int .u8 r) := Eq.trans (by rfl) hat
             cases e2
             rfl)
          | (have e2 : (DataW.lit (.int .u8 17) : DataW Unit) = .lit (.int .u8 r) := Eq.trans (by rfl) hat
             cases e2
             rfl)
end Go.Proofs.YbulkdewqFmt
