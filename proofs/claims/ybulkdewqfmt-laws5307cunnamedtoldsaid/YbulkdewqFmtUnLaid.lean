/- What the listed variables give the walks; the argument opened. -/
import Derived.Test.YbulkdewqFmtRows
import Derived.Test.YbulkdewqFmtTie
import Derived.Test.YbulkdewqFmtCards
import Derived.Test.YbulkdewqFmtUn
import Derived.Lib.LaidTab
import Derived.ProofKit
import Derived.LaidMore
import Derived.OpenShut
import Derived.OpenVars
import Derived.Stop.Joined
import Derived.Stop.JoinedTold
import Derived.ShutString
import Derived.ChangeOld
import Derived.Lay
import Derived.SevenTiedAt
namespace Go.Proofs.YbulkdewqFmt
open Go.ChangeShapes Go.WideShapes Go.ChangeAt Go.WideMaps Go.WideElems Go.RowKit
open Go.Extern.Stop Go.Stop Go.Extern

theorem own : ownKnob Ybaf.prog.godebug = none := by kernel_rfl
theorem laidOut : laidOutB Ybaf.prog = true := by kernel_rfl
theorem gMap : Ybaf.prog.globalNamed "example.com/firethorn/firethorn/policy.namedProtocols" = some 0 := by kernel_rfl
theorem tMap : (Ybaf.prog.globals[0]?).map (·.type) = some 143 := by kernel_rfl
theorem tTab : (Ybaf.prog.globals[4]?).map (·.type) = some 209 := by kernel_rfl
theorem law : KeyLaw Ybaf.prog 9 := string_law Ybaf.underlying9
theorem pow10_data : (Rows.laid_internal_strconv_uint64pow10 : DataW Unit) = Lib.tabData .u64 Lib.pow10Tab := by rfl
abbrev emptyS : ByteArray := { data := #[] }
set_option maxRecDepth 100000 in
theorem GV_of_laid {W : World} (h : laidMetH Ybaf.prog Rows.lawS5307CUnnamedRow.laid W) : ∃ m o, NoName m o ∧ GV m o W := by
  rw [MakeChecks.laidMetH_plain _ _ _ (by kernel_rfl)] at h
  obtain ⟨ps, ⟨g0, t0, cs0, f0, p0, q0, hg0, ht0, hv0, hd0, ⟨g1, t1, cs1, f1, p1, q1, hg1, ht1, hv1, hd1, ⟨g2, t2, cs2, f2, p2, q2, hg2, ht2, hv2, hd2, ⟨g3, t3, cs3, f3, p3, q3, hg3, ht3, hv3, hd3, ⟨g4, t4, cs4, f4, p4, q4, hg4, ht4, hv4, hd4, ⟨g5, t5, cs5, f5, p5, q5, hg5, ht5, hv5, hd5, ⟨g6, t6, cs6, f6, p6, q6, hg6, ht6, hv6, hd6, _, _⟩, _⟩, _⟩, _⟩, _⟩, _⟩, _⟩, _, _⟩ := h
  obtain rfl := Option.some.inj (gTab.symm.trans hg2)
  obtain rfl := Option.some.inj (tTab.symm.trans ht2)
  obtain rfl := Option.some.inj (gMap.symm.trans hg6)
  obtain rfl := Option.some.inj (tMap.symm.trans ht6)
  have hT : Lib.TabIs Ybaf.prog W "internal/strconv.uint64pow10" .u64 Lib.pow10Tab := by
    unfold Lib.TabIs
    rw [pow10_data] at hd2
    rw [hv2, ← Lib.cells_of_tab Ybaf.underlying209 Ybaf.underlying189 (by kernel_rfl) (by kernel_rfl) hd2]
  rcases open_map Ybaf.underlying143 hd6 with ⟨_, hx⟩ | ⟨bm, es, clock, m, rfl, hcs, hb, _, F, hx⟩
  · simp [Rows.laid_example_com_firethorn_firethorn_policy_namedProtocols] at hx
  simp only [Prod.mk.injEq] at hx
  have hcell : W.cell? ⟨0, 0, none⟩ = some (.map (some bm)) := by
    have := World.var?_cell hg6 hv6 0
    rw [Array.eq_one_of_toList hcs] at this
    simpa using this
  have h4 : 4 < W.heap.size := World.block_lt_of_cell? W _ (hT.cell gTab 0 (by decide))
  refine ⟨bm, .map es clock, ?_, h4, (Array.getElem?_eq_some_iff.1 hb).1, hcell, hb, hT⟩
  intro w hw
  have zero : (zeroValue 5).run Ybaf.prog w = .ok (.int .u8 0) w := by kernel_rfl
  rcases fit_lookup_ok (w := w) law Ybaf.underlying143 zero hw F (keyOf_string_mk (s := emptyS) Ybaf.underlying9 (by decide)) with ⟨hrun, _⟩ | ⟨v, y, _, hRv, hat, _⟩
  · exact hrun
  · obtain ⟨r, rfl, rfl, _⟩ := elemAt_int Ybaf.underlying5 hRv
    have := hat .nil
    rw [← hx.1] at this
    have e2 : (Rows.laid_example_com_firethorn_firethorn_policy_namedProtocols : DataW Unit).atKey (.string emptyS.data.toList) .nil = .nil := rfl
    rw [e2] at this
    cases this
theorem cell_of_take {cs : List Value} {j : Nat} {v : Value} (h : (cs.drop j).take 1 = [v]) : cs[j]? = some v := by
  have := congrArg (·[0]?) h
  simpa [List.getElem?_take, List.getElem?_drop] using this
theorem c119 : Ybaf.prog.cellsOf 119 = 9 := by kernel_rfl
theorem c5 : Ybaf.prog.cellsOf 5 = 1 := by kernel_rfl
theorem c110 : Ybaf.prog.cellsOf 110 = 1 := by kernel_rfl
theorem open_one {H : Type} {enc : TypeId × Value → H} {W : World} {sp : Nat → Bool} {held : Bool} {fuel : Nat} {cs : List Value} {x : DataW H × List MemPlace} (h : DataW.trod enc Ybaf.prog W 0 sp held fuel 119 cs = some x) :
    ∀ r, r < 9 → ∃ z, cs[r]? = some (if r = 0 then .int .u8 z else .int .u16 z) ∧ (r = 0 → 0 ≤ z ∧ z ≤ 255) := by
  obtain ⟨xs, k, _, _, _, hxl, hf⟩ := DataW.trod_struct Ybaf.underlying119 h
  have hx9 : xs.length = 9 := hxl
  have key : ∀ r, (hr : r < 9) → 0 < r → DataW.trod enc Ybaf.prog W 0 sp held k 110 ((cs.drop r).take (Ybaf.prog.cellsOf 110)) = xs[r]? := by
    intro r hr h0
    have h9 : r = 1 ∨ r = 2 ∨ r = 3 ∨ r = 4 ∨ r = 5 ∨ r = 6 ∨ r = 7 ∨ r = 8 := by omega
    rcases h9 with rfl | rfl | rfl | rfl | rfl | rfl | rfl | rfl
    · exact hf 1 _ rfl
    · exact hf 2 _ rfl
    · exact hf 3 _ rfl
    · exact hf 4 _ rfl
    · exact hf 5 _ rfl
    · exact hf 6 _ rfl
    · exact hf 7 _ rfl
    · exact hf 8 _ rfl
  intro r hr
  by_cases h0 : r = 0
  · subst h0
    have g0 : DataW.trod enc Ybaf.prog W 0 sp held k 5 ((cs.drop 0).take (Ybaf.prog.cellsOf 5)) = xs[0]? := hf 0 _ rfl
    rw [c5, List.getElem?_eq_getElem (by omega)] at g0
    obtain ⟨z, e1, _, wf⟩ := DataW.trod_int Ybaf.underlying5 g0
    have hb := bounds_u8 wf
    exact ⟨z, by simpa using cell_of_take e1, fun _ => ⟨by omega, by omega⟩⟩
  · have g := key r hr (by omega)
    rw [c110, List.getElem?_eq_getElem (by omega)] at g
    obtain ⟨z, e1, _, _⟩ := DataW.trod_int Ybaf.underlying110 g
    exact ⟨z, by rw [if_neg h0]; exact cell_of_take e1, fun h => absurd h h0⟩
theorem addr_add (a : Addr) (i j : Nat) : (a.add i).add j = a.add (i + j) := by
  unfold Addr.add
  by_cases hi : i = 0
  · by_cases hj : j = 0 <;> simp [hi, hj]
  · by_cases hj : j = 0 <;> simp [hi, hj, Nat.add_assoc]
theorem view_none {W : World} {b o : Nat} {av} {v : Value} (h : W.cell? ⟨b, o, av⟩ = some v) : av = none := by
  cases av with
  | none => rfl
  | some y =>
    unfold World.cell? at h
    split at h
    · simp at h
    · cases h
theorem open_in {H : Type} {enc : TypeId × Value → H} {W : World} {sp : Nat → Bool} {held : Bool} {fuel : Nat} {cs : List Value} {x : DataW H × List MemPlace} (h : DataW.trod enc Ybaf.prog W 0 sp held fuel 106 cs = some x) :
    ∃ a n c e, cs = [.slice a n c] ∧ n ≤ c ∧ c ≤ maxLen ∧ (a = none → n = 0 ∧ c = 0) ∧ In W a n e ∧ ∀ i, i < n → 0 ≤ e (i * 9) ∧ e (i * 9) ≤ 255 := by
  rcases DataW.trod_slice Ybaf.underlying106 h with ⟨rfl, _⟩ | ⟨a, len, cap, elems, rest, n, _, rfl, _, _, hl, hm, hlen, hel, _, _⟩
  · exact ⟨none, 0, 0, fun _ => 0, rfl, Nat.le_refl _, Nat.zero_le _, fun _ => ⟨rfl, rfl⟩, fun h => absurd h (by omega), fun i hi => absurd hi (by omega)⟩
  · have core : ∀ i, i < len → ∀ r, r < 9 → ∃ z, W.cell? (a.add (i * 9 + r)) = some (if r = 0 then .int .u8 z else .int .u16 z) ∧ (r = 0 → 0 ≤ z ∧ z ≤ 255) := by
      intro i hi r hr
      have he := hel i hi
      rw [c119, List.getElem?_eq_getElem (by omega)] at he
      obtain ⟨cs', h1, h2⟩ := Option.bind_eq_some_iff.1 he
      obtain ⟨_, hl9, hcell⟩ := World.cells?_some h1
      obtain ⟨z, hz, hb⟩ := open_one h2 r hr
      refine ⟨z, ?_, hb⟩
      have hc := hcell r (by omega)
      rw [hz, addr_add] at hc
      exact hc
    refine ⟨some a, len, cap, fun j => intOf ((W.cell? (a.add j)).getD .nilIface), rfl, hl, hm, fun h => (by cases h), fun hn => ?_, fun i hi => ?_⟩
    · obtain ⟨b, off, av⟩ := a
      obtain ⟨z0, hz0, _⟩ := core 0 hn 0 (by omega)
      have hv : av = none := view_none (by simpa [Addr.add] using hz0)
      subst hv
      refine ⟨b, off, rfl, World.block_lt_of_cell? W _ hz0, fun j hj => ?_⟩
      obtain ⟨z, hz, _⟩ := core (j / 9) (by omega) (j % 9) (by omega)
      have hjj : j / 9 * 9 + j % 9 = j := by omega
      rw [hjj] at hz
      have hz' : W.cell? ⟨b, off + j, none⟩ = some (if j % 9 = 0 then .int .u8 z else .int .u16 z) := by rw [add_plain] at hz; exact hz
      simp only [hz, Option.getD_some]
      rw [hz']
      split <;> simp [intOf]
    · obtain ⟨z, hz, hb⟩ := core i hi 0 (by omega)
      have hb' := hb rfl
      simp only [Nat.add_zero, if_true] at hz
      simp only [hz, Option.getD_some, intOf]
      exact hb'
end Go.Proofs.YbulkdewqFmt
