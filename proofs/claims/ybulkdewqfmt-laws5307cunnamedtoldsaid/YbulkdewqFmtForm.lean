/- FormatServices at services that have no name. -/
import Derived.Test.YbulkdewqFmtStr
namespace Go.Proofs.YbulkdewqFmt
open Go.RowKit
/-- The text of one service. -/
def tx (p : Nat) : List UInt8 := if p = 0 then [97, 110, 121] else [112, 114, 111, 116, 111, 32] ++ Lib.itoa p
theorem tx_length (p : Nat) (hp : p ≤ 255) : (tx p).length ≤ 27 := by
  unfold tx
  split
  · simp
  · have := (itoa_facts p hp).2
    simp only [List.length_append, List.length_cons, List.length_nil]
    omega
theorem str_un (m : Nat) (o : Obj) (hN : NoName m o) (p : Nat) (hp : p ≤ 255) (hu : named p = false) (x1 x2 x3 x4 x5 x6 x7 x8 : Int) (w : World) (hG : GV m o w) :
    Calls Ybaf.prog 14 #[.agg #[.int .u8 p, .int .u16 x1, .int .u16 x2, .int .u16 x3, .int .u16 x4, .int .u16 x5, .int .u16 x6, .int .u16 x7, .int .u16 x8]] w fun r w' => r = .returned (.string ⟨(tx p).toArray⟩) ∧ Below w.heap.size w w' := by
  by_cases h0 : p = 0
  · subst h0
    exact str_any x1 x2 x3 x4 x5 x6 x7 x8 w
  · have h := str_num m o hN p (by omega) hp hu x1 x2 x3 x4 x5 x6 x7 x8 w hG
    unfold tx
    rw [if_neg h0]
    exact h
/-- The protocol that service i bears. -/
def pr (e : Nat → Int) (i : Nat) : Nat := if named (e (i * 9)) then 0 else (e (i * 9)).toNat
theorem pr_le {e : Nat → Int} {i : Nat} (h : 0 ≤ e (i * 9) ∧ e (i * 9) ≤ 255) : pr e i ≤ 255 := by
  unfold pr
  split <;> omega
theorem pr_un {e : Nat → Int} {i : Nat} (h : 0 ≤ e (i * 9) ∧ e (i * 9) ≤ 255) : named (pr e i) = false := by
  unfold pr
  split
  · rfl
  · rename_i hn
    rw [Int.toNat_of_nonneg h.1]
    simpa using hn
theorem sv_pr {e : Nat → Int} {i : Nat} (h : 0 ≤ e (i * 9) ∧ e (i * 9) ≤ 255) : sv true e (i * 9) = .int .u8 (pr e i) := by
  unfold sv pr
  rw [if_pos (by omega)]
  cases hn : named (e (i * 9)) <;> simp
  omega
/-- The law's own text of the first k services. -/
def want (e : Nat → Int) : Nat → List UInt8
  | 0 => []
  | k + 1 => (if 0 < k then want e k ++ [44, 32] else want e k) ++ tx (pr e k)
def wd (e : Nat → Int) (i : Nat) : ByteArray := ⟨(tx (pr e i)).toArray⟩
theorem want_join (e : Nat → Int) : ∀ k, Lib.join ((List.range k).map (fun i => tx (pr e i))) [44, 32] = want e k
  | 0 => rfl
  | k + 1 => by
    have ih := want_join e k
    rw [List.range_succ, List.map_append, List.map_singleton]
    unfold want
    by_cases hk : 0 < k
    · rw [if_pos hk]
      obtain ⟨k', rfl⟩ : ∃ k', k = k' + 1 := ⟨k - 1, by omega⟩
      rw [← ih]
      rw [List.range_succ_eq_map, List.map_cons, List.cons_append, Lib.join_cons, Lib.join_cons]
      simp [Lib.joinTail]
    · rw [if_neg hk]
      have : k = 0 := by omega
      subst this
      simp [want, Lib.join_one]
theorem want_length (e : Nat → Int) : ∀ k, (∀ i, i < k → pr e i ≤ 255) → (want e k).length ≤ 29 * k
  | 0, _ => by simp [want]
  | k + 1, h => by
    have ih := want_length e k (fun i hi => h i (by omega))
    have ht := tx_length (pr e k) (h k (by omega))
    unfold want
    split <;> simp only [List.length_append, List.length_cons, List.length_nil] <;> omega
/-- What the made services hold. -/
def Sv (w : World) (a : Option Addr) (g n : Nat) (e : Nat → Int) : Prop := 0 < n → a = some ⟨g, 0, none⟩ ∧ g < w.heap.size ∧ ∀ j, j < n * 9 → w.cell? ⟨g, j, none⟩ = some (sv true e j)
theorem Sv.below {w w' : World} {a : Option Addr} {g n B : Nat} {e : Nat → Int} (h : Sv w a g n e) (hB : w.heap.size ≤ B) (l : Below B w w') : Sv w' a g n e := by
  intro hn
  obtain ⟨ha, hg, hc⟩ := h hn
  exact ⟨ha, Nat.lt_of_lt_of_le hg l.size, fun j hj => (l.cell (p := ⟨g, j, none⟩) (Nat.lt_of_lt_of_le hg hB)).trans (hc j hj)⟩
/-- The eight other cells of service k. -/
theorem Sv.cells {w : World} {a : Option Addr} {g n k : Nat} {e : Nat → Int} (h : Sv w a g n e) (hk : k < n) (hb : 0 ≤ e (k * 9) ∧ e (k * 9) ≤ 255) :
    w.cell? ⟨g, k * 9, none⟩ = some (.int .u8 (pr e k)) ∧ ∀ j, 0 < j → j < 9 → w.cell? ⟨g, k * 9 + j, none⟩ = some (.int .u16 (e (k * 9 + j))) := by
  obtain ⟨_, _, hc⟩ := h (by omega)
  refine ⟨by rw [hc (k * 9) (by omega), sv_pr hb], fun j h0 h9 => ?_⟩
  rw [hc (k * 9 + j) (by omega)]
  unfold sv
  rw [if_neg (by omega)]
theorem Ybaf.info9 : (Ybaf.prog.info? 9).map (fun i => (i.zero, i.size, i.bytes)) = some (some (.string ⟨#[]⟩), 1, 16) := by kernel_rfl
def wrow (e : Nat → Int) (n k : Nat) : List Value := (List.range n).map fun i => if i < k then .string (wd e i) else .string ⟨#[]⟩
theorem wrow_start (e : Nat → Int) (n : Nat) : (madeCells #[.string ⟨#[]⟩] n).toList = wrow e n 0 := by
  rw [toList_madeCells_one]
  apply List.ext_getElem?
  intro j
  simp only [wrow, List.getElem?_map, List.getElem?_replicate]
  by_cases hj : j < n
  · rw [List.getElem?_range hj]
    simp [hj]
  · rw [List.getElem?_eq_none (by simpa using hj)]
    simp [hj]
theorem wrow_step (e : Nat → Int) (n k : Nat) (_hk : k < n) : (wrow e n k).set k (.string (wd e k)) = wrow e n (k + 1) := by
  apply List.ext_getElem?
  intro j
  by_cases hj : j < n
  · simp only [List.getElem?_set, wrow, List.length_map, List.length_range, List.getElem?_map, List.getElem?_range hj, Option.map_some]
    by_cases h : k = j
    · subst h
      simp [hj]
    · rw [if_neg h]
      have e2 : (j < k + 1) = (j < k) := by apply propext; omega
      simp only [e2]
  · rw [List.getElem?_eq_none (by simp [wrow]; omega), List.getElem?_eq_none (by simp [wrow]; omega)]
theorem own_below {w w' : World} {base : Nat} {e : TypeId} {size n : Nat} {v : Value} {xs : List Value} (h : w.ownsRow base e size v n xs) (l : Below w.heap.size w w') : w'.ownsRow base e size v n xs := by
  refine ⟨h.1, ?_⟩
  rcases h.2 with h0 | ⟨g, cap, cur, hv, hb, hg, r⟩
  · exact Or.inl h0
  · exact Or.inr ⟨g, cap, cur, hv, hb, (l.block g (Array.getElem?_eq_some_iff.1 hg).1).trans hg, r⟩
theorem wrow_at (e : Nat → Int) (n k j : Nat) (hj : j < n) : (wrow e n k)[j]? = some (if j < k then .string (wd e j) else .string ⟨#[]⟩) := by
  rw [wrow, List.getElem?_map, List.getElem?_range hj, Option.map_some]
set_option maxRecDepth 4000 in
set_option maxHeartbeats 1000000 in
theorem form_un (m : Nat) (o : Obj) (hN : NoName m o) (a : Option Addr) (g n : Nat) (e : Nat → Int) (w : World) (hG : GV m o w) (hS : Sv w a g n e) (hn : n ≤ 1024) (hb : ∀ i, i < n → 0 ≤ e (i * 9) ∧ e (i * 9) ≤ 255) :
    Calls Ybaf.prog 13 #[.slice a n n] w fun r w' => r = .returned (.string ⟨(want e n).toArray⟩) ∧ Below w.heap.size w w' := by
  obtain ⟨i, hi, hz, hsz, hby⟩ := info_parts Ybaf.info9
  have H1 : Hid (Ybaf.prog.info? 9 = some i) := hi
  have H2 : Hid (i.zero = some (.string ⟨#[]⟩)) := hz
  have H3 : Hid (i.size = 1) := hsz
  have H4 : Hid (i.bytes = 16) := hby
  have HG : Hid (GV m o w) := hG
  have HN : Hid (NoName m o) := hN
  have HS : Hid (Sv w a g n e) := hS
  have HE : Hid (∀ i, i < n → 0 ≤ e (i * 9) ∧ e (i * 9) ≤ 255) := hb
  clear hi hz hsz hby hG hN hS hb
  have q1 : (n : Int) ≤ 1024 := by omega
  go_enter Ybaf.func13, Ybaf.ntmps13
  go_wp2_with (at_make; refine wpList_make_full _ rfl _ _ 28 rfl w.heap.size 9 i _ 1 Ybaf.underlying28 H1.out H2.out H3.out _ _ _ _ n rfl rfl (by omega) (by omega) (by rw [H4.out]; omega) (by unfold maxLen; omega) (Nat.le_refl _) ?_)
  intro w1 hown hgrow
  have HO1 : Hid (w1.ownsRow w.heap.size 9 1 (.slice (some ⟨w.heap.size, 0, none⟩) n n) n (wrow e n 0)) := by rw [← wrow_start e n]; exact hown
  have HB1 : Hid (Below w.heap.size w w1) := (Below.refl _ _).grown hgrow (Nat.le_refl _) (fun q hq => by cases hq)
  clear hown hgrow
  go_wp2_with fail
  go_loopw [11] (fun i wr => ∃ k : Nat, k ≤ n ∧ i = .int .i64 k ∧ wr.ownsRow w.heap.size 9 1 (.slice (some ⟨w.heap.size, 0, none⟩) n n) n (wrow e n k) ∧ Below w.heap.size w wr) (fun i _ => n - (intOf i).toNat)
  case atStart => exact ⟨0, by omega, rfl, HO1.out, HB1.out⟩
  case round =>
    obtain ⟨k, hk, rfl, hO, hB⟩ := hrel
    have HO : Hid (wr.ownsRow w.heap.size 9 1 (.slice (some ⟨w.heap.size, 0, none⟩) n n) n (wrow e n k)) := hO
    have HB : Hid (Below w.heap.size w wr) := hB
    clear hO hB
    by_cases hkn : k < n
    · obtain ⟨rfl, hg, _⟩ := HS.out (by omega)
      obtain ⟨f0, fc⟩ := Sv.cells (Sv.below HS.out (Nat.le_refl _) HB.out) hkn (HE.out k hkn)
      have f1 := fc 1 (by omega) (by omega)
      have f2 := fc 2 (by omega) (by omega)
      have f3 := fc 3 (by omega) (by omega)
      have f4 := fc 4 (by omega) (by omega)
      have f5 := fc 5 (by omega) (by omega)
      have f6 := fc 6 (by omega) (by omega)
      have f7 := fc 7 (by omega) (by omega)
      have f8 := fc 8 (by omega) (by omega)
      have hgr : g < wr.heap.size := by have := HB.out.size; omega
      clear fc
      go_wp2_with fail
      have hBa : ∀ o1, Below wr.heap.size wr (wr.alloc o1) := fun o1 => (Below.refl _ _).alloc (Nat.le_refl _) o1
      refine (str_un m o HN.out (pr e k) (pr_le (HE.out k hkn)) (pr_un (HE.out k hkn)) _ _ _ _ _ _ _ _ _ (GV.below (GV.below HG.out (Nat.le_refl _) HB.out) (Nat.le_refl _) (hBa _))).mono ?_
      rintro r w2 ⟨rfl, hB2⟩
      have hB2' : Below wr.heap.size wr w2 := (hBa _).trans (hB2.mono (by simp))
      have HO2 : Hid (w2.ownsRow w.heap.size 9 1 (.slice (some ⟨w.heap.size, 0, none⟩) n n) n (wrow e n k)) := own_below HO.out hB2'
      have HB2 : Hid (Below w.heap.size w w2) := HB.out.trans (hB2'.mono HB.out.size)
      have g0 : w2.cell? ⟨w.heap.size, k, none⟩ = some (.string ⟨#[]⟩) := by rw [HO2.out.cellAt k (by omega), wrow_at e n k k hkn]; simp
      have z0 := HO2.out.frozenAt k
      clear hB2 hB2' hBa
      go_wp2_with fail
      go_roundw
      case rel => exact ⟨k + 1, by omega, by go_num, by rw [← wrow_step e n k hkn]; exact (HO2.out.stored k _).1, HB2.out.setCell (Nat.le_refl _) _⟩
      case measure => simp [intOf]; omega
    · have : k = n := by omega
      subst this
      go_wp2_with fail
      have hx : ((List.range k).map (wd e)).length = k := by simp
      have hj : Lib.join (((List.range k).map (wd e)).map (·.data.toList)) (⟨#[44, 32]⟩ : ByteArray).data.toList = want e k := by
        rw [← want_join e k, List.map_map]
        rfl
      have hlen := want_length e k (fun i hi => pr_le (HE.out i hi))
      have hJ := Ybaf.strings_Join w.heap.size 0 k ((List.range k).map (wd e)) ⟨#[44, 32]⟩ wr (by
        intro j x hx
        have hjk : j < k := by
          have := (List.getElem?_eq_some_iff.1 hx).1
          simpa using this
        rw [List.getElem?_map, List.getElem?_range hjk, Option.map_some] at hx
        cases hx
        rw [Nat.zero_add, HO.out.cellAt j (by omega), wrow_at e k k j hjk, if_pos hjk]) (HO.out.lt w.heap.size rfl).2 (by rw [hx]; omega) (by rw [hx]; exact Nat.le_refl _) (by rw [hj]; omega)
      rw [hx, hj] at hJ
      refine hJ.mono ?_
      rintro r w3 ⟨rfl, hB3⟩
      have HB3 : Hid (Below w.heap.size w w3) := HB.out.trans (hB3.mono HB.out.size)
      clear hJ hB3 hj hx
      go_wp2_with fail
      go_ret
      exact ⟨rfl, HB3.out⟩
end Go.Proofs.YbulkdewqFmt
