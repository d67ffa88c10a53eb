/- String at every service, and FormatServices. -/
import Derived.Test.YbulkdewqFmtJPortB
namespace Go.Proofs.YbulkdewqFmt
open Go.RowKit
theorem str_all (F : Stop.Interp) (m : Nat) (o : Obj) (b off c : Nat) (hL : Looks m o) (hN : NoName m o) (p x1 x2 x3 x4 x5 x6 x7 x8 : Int) (hpp : 0 ≤ p ∧ p ≤ 255) (h1 : U16 x1) (h2 : U16 x2) (h3 : U16 x3) (h4 : U16 x4) (h5 : U16 x5) (h7 : U16 x7) (w : World) (hF : F.told.answers w.tape) (hG : GJ m o b off c w) :
    Calls Ybaf.prog 14 #[.agg #[.int .u8 p, .int .u16 x1, .int .u16 x2, .int .u16 x3, .int .u16 x4, .int .u16 x5, .int .u16 x6, .int .u16 x7, .int .u16 x8]] w fun r w' => r = .returned (.string (bs (txt p x1 x2 x3 x4 x5 x6 x7 x8))) ∧ Below w.heap.size w w' := by
  obtain ⟨q, rfl⟩ : ∃ q : Nat, p = q := ⟨p.toNat, by omega⟩
  unfold txt
  by_cases h0 : (q : Int) = 0
  · rw [if_pos h0, h0]
    exact str_any x1 x2 x3 x4 x5 x6 x7 x8 w
  · rw [if_neg h0]
    cases hn : named (q : Int) with
    | false =>
      rw [if_neg (by simp)]
      exact str_num m o hN q (by omega) (by omega) hn x1 x2 x3 x4 x5 x6 x7 x8 w hG.1
    | true =>
      rw [if_pos rfl]
      unfold more
      by_cases hq1 : (q : Int) = 1
      · rw [if_pos hq1, hq1]
        exact str_icmp F m o b off c hL x1 x2 x3 x4 x5 x6 x7 x8 h5 h7 w hF hG
      · rw [if_neg hq1]
        cases hh : hp (q : Int) with
        | false =>
          rw [if_neg (by simp), List.append_nil]
          have hi : inm (q : Int) = false := by
            rcases named_ten hn with h | h | h | h | h | h | h | h | h | h <;> rw [h] at hh hq1 ⊢ <;> revert hh hq1 <;> decide
          exact str_plain m o b off c hL q (by omega) hn hi hh x1 x2 x3 x4 x5 x6 x7 x8 w hG
        | true =>
          rw [if_pos rfl]
          cases hi : inm (q : Int) with
          | true => exact str_port F m o b off c hL q (by omega) hn hi hh x1 x2 x3 x4 x5 x6 x7 x8 h1 h2 h3 h4 w hF hG
          | false => exact str_port2 F m o b off c hL q (by omega) hn hi hh x1 x2 x3 x4 x5 x6 x7 x8 h1 h2 h3 h4 w hF hG
/-- The text of service i. -/
def te (e : Nat → Int) (i : Nat) : List UInt8 := txt (e (i * 9)) (e (i * 9 + 1)) (e (i * 9 + 2)) (e (i * 9 + 3)) (e (i * 9 + 4)) (e (i * 9 + 5)) (e (i * 9 + 6)) (e (i * 9 + 7)) (e (i * 9 + 8))
/-- The numbers of a service are of their sizes. -/
def Fits (e : Nat → Int) (i : Nat) : Prop := (0 ≤ e (i * 9) ∧ e (i * 9) ≤ 255) ∧ ∀ r, 0 < r → r < 9 → U16 (e (i * 9 + r))
theorem te_le {e : Nat → Int} {i : Nat} (h : Fits e i) : (te e i).length ≤ 264 :=
  txt_le h.1 (h.2 1 (by omega) (by omega)) (h.2 2 (by omega) (by omega)) (h.2 3 (by omega) (by omega)) (h.2 4 (by omega) (by omega)) (h.2 5 (by omega) (by omega)) (h.2 7 (by omega) (by omega))
/-- What the made services hold. -/
def Sf (w : World) (a : Option Addr) (g n : Nat) (e : Nat → Int) : Prop := 0 < n → a = some ⟨g, 0, none⟩ ∧ g < w.heap.size ∧ ∀ j, j < n * 9 → w.cell? ⟨g, j, none⟩ = some (sv false e j)
theorem Sf.below {w w' : World} {a : Option Addr} {g n B : Nat} {e : Nat → Int} (h : Sf w a g n e) (hB : w.heap.size ≤ B) (l : Below B w w') : Sf w' a g n e := by
  intro hn
  obtain ⟨ha, hg, hc⟩ := h hn
  exact ⟨ha, Nat.lt_of_lt_of_le hg l.size, fun j hj => (l.cell (p := ⟨g, j, none⟩) (Nat.lt_of_lt_of_le hg hB)).trans (hc j hj)⟩
theorem Sf.cells {w : World} {a : Option Addr} {g n k : Nat} {e : Nat → Int} (h : Sf w a g n e) (hk : k < n) :
    w.cell? ⟨g, k * 9, none⟩ = some (.int .u8 (e (k * 9))) ∧ ∀ j, 0 < j → j < 9 → w.cell? ⟨g, k * 9 + j, none⟩ = some (.int .u16 (e (k * 9 + j))) := by
  obtain ⟨_, _, hc⟩ := h (by omega)
  refine ⟨by rw [hc (k * 9) (by omega), sv_plain], fun j h0 h9 => ?_⟩
  rw [hc (k * 9 + j) (by omega)]
  unfold sv
  rw [if_neg (by omega)]
def wde (e : Nat → Int) (i : Nat) : ByteArray := bs (te e i)
def wrw (e : Nat → Int) (n k : Nat) : List Value := (List.range n).map fun i => if i < k then .string (wde e i) else .string ⟨#[]⟩
theorem wrw_start (e : Nat → Int) (n : Nat) : (madeCells #[.string ⟨#[]⟩] n).toList = wrw e n 0 := by
  rw [toList_madeCells_one]
  apply List.ext_getElem?
  intro j
  simp only [wrw, List.getElem?_map, List.getElem?_replicate]
  by_cases hj : j < n
  · rw [List.getElem?_range hj]
    simp [hj]
  · rw [List.getElem?_eq_none (by simpa using hj)]
    simp [hj]
theorem wrw_step (e : Nat → Int) (n k : Nat) (_hk : k < n) : (wrw e n k).set k (.string (wde e k)) = wrw e n (k + 1) := by
  apply List.ext_getElem?
  intro j
  by_cases hj : j < n
  · simp only [List.getElem?_set, wrw, List.length_map, List.length_range, List.getElem?_map, List.getElem?_range hj, Option.map_some]
    by_cases h : k = j
    · subst h
      simp [hj]
    · rw [if_neg h]
      have e2 : (j < k + 1) = (j < k) := by apply propext; omega
      simp only [e2]
  · rw [List.getElem?_eq_none (by simp [wrw]; omega), List.getElem?_eq_none (by simp [wrw]; omega)]
theorem owns_below {w w' : World} {base : Nat} {e : TypeId} {size n : Nat} {v : Value} {xs : List Value} (h : w.ownsRow base e size v n xs) (l : Below w.heap.size w w') : w'.ownsRow base e size v n xs := by
  refine ⟨h.1, ?_⟩
  rcases h.2 with h0 | ⟨g, cap, cur, hv, hb, hg, r⟩
  · exact Or.inl h0
  · exact Or.inr ⟨g, cap, cur, hv, hb, (l.block g (Array.getElem?_eq_some_iff.1 hg).1).trans hg, r⟩
theorem wrw_at (e : Nat → Int) (n k j : Nat) (hj : j < n) : (wrw e n k)[j]? = some (if j < k then .string (wde e j) else .string ⟨#[]⟩) := by
  rw [wrw, List.getElem?_map, List.getElem?_range hj, Option.map_some]
set_option maxRecDepth 4000 in
set_option maxHeartbeats 1000000 in
theorem form_all (F : Stop.Interp) (m : Nat) (o : Obj) (b off c : Nat) (hL : Looks m o) (hN : NoName m o) (a : Option Addr) (g n : Nat) (e : Nat → Int) (w : World) (hF : F.told.answers w.tape) (hG : GJ m o b off c w) (hS : Sf w a g n e) (hn : n ≤ 1024) (hb : ∀ i, i < n → Fits e i) :
    Calls Ybaf.prog 13 #[.slice a n n] w fun r w' => r = .returned (.string (bs (wantT (te e) n))) ∧ Below w.heap.size w w' := by
  obtain ⟨i, hi, hz, hsz, hby⟩ := info_parts Ybaf.info9'
  have H1 : Hid (Ybaf.prog.info? 9 = some i) := hi
  have H2 : Hid (i.zero = some (.string ⟨#[]⟩)) := hz
  have H3 : Hid (i.size = 1) := hsz
  have H4 : Hid (i.bytes = 16) := hby
  have HG : Hid (GJ m o b off c w) := hG
  have HN : Hid (NoName m o) := hN
  have HL : Hid (Looks m o) := hL
  have HF : Hid (F.told.answers w.tape) := hF
  have HS : Hid (Sf w a g n e) := hS
  have HE : Hid (∀ i, i < n → Fits e i) := hb
  clear hi hz hsz hby hG hN hS hb hL hF
  have q1 : (n : Int) ≤ 1024 := by omega
  go_enter Ybaf.func13, Ybaf.ntmps13
  go_wp2_with (at_make; refine wpList_make_full _ rfl _ _ 28 rfl w.heap.size 9 i _ 1 Ybaf.underlying28 H1.out H2.out H3.out _ _ _ _ n rfl rfl (by omega) (by omega) (by rw [H4.out]; omega) (by unfold maxLen; omega) (Nat.le_refl _) ?_)
  intro w1 hown hgrow
  have HO1 : Hid (w1.ownsRow w.heap.size 9 1 (.slice (some ⟨w.heap.size, 0, none⟩) n n) n (wrw e n 0)) := by rw [← wrw_start e n]; exact hown
  have HB1 : Hid (Below w.heap.size w w1) := (Below.refl _ _).grown hgrow (Nat.le_refl _) (fun q hq => by cases hq)
  clear hown hgrow
  go_wp2_with fail
  go_loopw [11] (fun i wr => ∃ k : Nat, k ≤ n ∧ i = .int .i64 k ∧ wr.ownsRow w.heap.size 9 1 (.slice (some ⟨w.heap.size, 0, none⟩) n n) n (wrw e n k) ∧ Below w.heap.size w wr) (fun i _ => n - (intOf i).toNat)
  case atStart => exact ⟨0, by omega, rfl, HO1.out, HB1.out⟩
  case round =>
    obtain ⟨k, hk, rfl, hO, hB⟩ := hrel
    have HO : Hid (wr.ownsRow w.heap.size 9 1 (.slice (some ⟨w.heap.size, 0, none⟩) n n) n (wrw e n k)) := hO
    have HB : Hid (Below w.heap.size w wr) := hB
    clear hO hB
    by_cases hkn : k < n
    · obtain ⟨rfl, hg, _⟩ := HS.out (by omega)
      obtain ⟨f0, fc⟩ := Sf.cells (Sf.below HS.out (Nat.le_refl _) HB.out) hkn
      have f1 := fc 1 (by omega) (by omega)
      have f2 := fc 2 (by omega) (by omega)
      have f3 := fc 3 (by omega) (by omega)
      have f4 := fc 4 (by omega) (by omega)
      have f5 := fc 5 (by omega) (by omega)
      have f6 := fc 6 (by omega) (by omega)
      have f7 := fc 7 (by omega) (by omega)
      have f8 := fc 8 (by omega) (by omega)
      have hgr : g < wr.heap.size := by have := HB.out.size; omega
      clear fc
      go_wp2_with fail
      have hBa : ∀ o1, Below wr.heap.size wr (wr.alloc o1) := fun o1 => (Below.refl _ _).alloc (Nat.le_refl _) o1
      have hfit := HE.out k hkn
      have HFr : Hid (∀ o1, F.told.answers (wr.alloc o1).tape) := fun o1 => answers_later HF.out (((hBa o1).tape).trans HB.out.tape)
      refine (str_all F m o b off c HL.out HN.out _ _ _ _ _ _ _ _ _ hfit.1 (hfit.2 1 (by omega) (by omega)) (hfit.2 2 (by omega) (by omega)) (hfit.2 3 (by omega) (by omega)) (hfit.2 4 (by omega) (by omega)) (hfit.2 5 (by omega) (by omega)) (hfit.2 7 (by omega) (by omega)) _ (HFr.out _) (GJ.below (GJ.below HG.out (Nat.le_refl _) HB.out) (Nat.le_refl _) (hBa _))).mono ?_
      rintro r w2 ⟨rfl, hB2⟩
      have hB2' : Below wr.heap.size wr w2 := (hBa _).trans (hB2.mono (by simp))
      have HO2 : Hid (w2.ownsRow w.heap.size 9 1 (.slice (some ⟨w.heap.size, 0, none⟩) n n) n (wrw e n k)) := owns_below HO.out hB2'
      have HB2 : Hid (Below w.heap.size w w2) := HB.out.trans (hB2'.mono HB.out.size)
      have g0 : w2.cell? ⟨w.heap.size, k, none⟩ = some (.string ⟨#[]⟩) := by rw [HO2.out.cellAt k (by omega), wrw_at e n k k hkn]; simp
      have z0 := HO2.out.frozenAt k
      clear hB2 hB2' hBa hfit
      go_wp2_with fail
      go_roundw
      case rel => exact ⟨k + 1, by omega, by go_num, by rw [← wrw_step e n k hkn]; exact (HO2.out.stored k _).1, HB2.out.setCell (Nat.le_refl _) _⟩
      case measure => simp [intOf]; omega
    · have : k = n := by omega
      subst this
      go_wp2_with fail
      have hx : ((List.range k).map (wde e)).length = k := by simp
      have hj : Lib.join (((List.range k).map (wde e)).map (·.data.toList)) (⟨#[44, 32]⟩ : ByteArray).data.toList = wantT (te e) k := by
        rw [← wantT_join (te e) k, List.map_map]
        rfl
      have hlen := wantT_length (te e) k (fun i hi => te_le (HE.out i hi))
      have hJ := Ybaf.strings_Join w.heap.size 0 k ((List.range k).map (wde e)) ⟨#[44, 32]⟩ wr (by
        intro j x hx
        have hjk : j < k := by
          have := (List.getElem?_eq_some_iff.1 hx).1
          simpa using this
        rw [List.getElem?_map, List.getElem?_range hjk, Option.map_some] at hx
        cases hx
        rw [Nat.zero_add, HO.out.cellAt j (by omega), wrw_at e k k j hjk, if_pos hjk]) (HO.out.lt w.heap.size rfl).2 (by rw [hx]; omega) (by rw [hx]; exact Nat.le_refl _) (by rw [hj]; omega)
      rw [hx, hj] at hJ
      refine hJ.mono ?_
      rintro r w3 ⟨rfl, hB3⟩
      have HB3 : Hid (Below w.heap.size w w3) := HB.out.trans (hB3.mono HB.out.size)
      clear hJ hB3 hj hx
      go_wp2_with fail
      go_ret
      exact ⟨rfl, HB3.out⟩
end Go.Proofs.YbulkdewqFmt
