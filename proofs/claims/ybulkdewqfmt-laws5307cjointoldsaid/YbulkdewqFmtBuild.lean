/- zzs5307cnamed and zzs5307cbuild. -/
import Derived.Test.YbulkdewqFmtProg
import Derived.KernelRfl
import Derived.WalkKit
import Derived.WalkSpells
import Derived.WalkLawsBesides
import Derived.BigQuiet
import Derived.Deep.QuietTactic
import Derived.Deep.RegionHeld3
import Derived.OpenShut
import Derived.OwnWalk
import Derived.Laws.OwnMore
namespace Go.Proofs.YbulkdewqFmt
open Go.RowKit
/-- The protocols that have a name. -/
def named (p : Int) : Bool := p == 1 || p == 2 || p == 6 || p == 17 || p == 33 || p == 47 || p == 50 || p == 51 || p == 132 || p == 136
set_option maxRecDepth 4000 in
theorem c26 (p : Int) (w : World) : Calls Ybaf.prog 26 #[.int .u8 p] w fun e w' => e = .returned (.bool (named p)) ∧ w = w' := by
  go_enter Ybaf.func26, Ybaf.ntmps26
  go_wp2
  all_goals
    go_ret
    refine ⟨?_, rfl⟩
    simp_all [named]
/-- What the services that came in hold. -/
def In (w : World) (a : Option Addr) (n : Nat) (e : Nat → Int) : Prop := 0 < n → ∃ b off, a = some ⟨b, off, none⟩ ∧ b < w.heap.size ∧ ∀ j, j < n * 9 → w.cell? ⟨b, off + j, none⟩ = some (if j % 9 = 0 then .int .u8 (e j) else .int .u16 (e j))
theorem In.below {w w' : World} {a : Option Addr} {n B : Nat} {e : Nat → Int} (h : In w a n e) (hB : w.heap.size ≤ B) (l : Below B w w') : In w' a n e := by
  intro hn
  obtain ⟨b, off, ha, hb, hc⟩ := h hn
  exact ⟨b, off, ha, Nat.lt_of_lt_of_le hb l.size, fun j hj => (l.cell (p := ⟨b, off + j, none⟩) (Nat.lt_of_lt_of_le hb hB)).trans (hc j hj)⟩
/-- The cells of the services that are made of them. -/
def sv (u : Bool) (e : Nat → Int) (j : Nat) : Value := if j % 9 = 0 then .int .u8 (if u && named (e j) then 0 else e j) else .int .u16 (e j)
def zv (j : Nat) : Value := if j % 9 = 0 then .int .u8 0 else .int .u16 0
/-- The row when k services have been laid. -/
def row (u : Bool) (e : Nat → Int) (n k : Nat) : List Value := (List.range (n * 9)).map fun j => if j < k * 9 then sv u e j else zv j
theorem Ybaf.info114 : (Ybaf.prog.info? 114).map (fun i => (i.zero, i.size, i.bytes)) = some (some (.agg #[.int .u8 0, .int .u16 0, .int .u16 0, .int .u16 0, .int .u16 0, .int .u16 0, .int .u16 0, .int .u16 0, .int .u16 0]), 9, 18) := by kernel_rfl
theorem row_start (u : Bool) (e : Nat → Int) (n : Nat) : (madeCells #[.int .u8 0, .int .u16 0, .int .u16 0, .int .u16 0, .int .u16 0, .int .u16 0, .int .u16 0, .int .u16 0, .int .u16 0] (n * 9)).toList = row u e n 0 := by
  apply List.ext_getElem?
  intro j
  simp only [madeCells, row, Array.toList_map, Array.toList_range, List.getElem?_map]
  by_cases hj : j < n * 9
  · rw [List.getElem?_range hj]
    simp only [Option.map_some, Nat.zero_mul, Nat.not_lt_zero, if_false, zv]
    have h : j % 9 = 0 ∨ j % 9 = 1 ∨ j % 9 = 2 ∨ j % 9 = 3 ∨ j % 9 = 4 ∨ j % 9 = 5 ∨ j % 9 = 6 ∨ j % 9 = 7 ∨ j % 9 = 8 := by omega
    rcases h with h | h | h | h | h | h | h | h | h <;> simp [h]
  · rw [List.getElem?_eq_none (by simpa using hj)]
    rfl
set_option maxRecDepth 4000 in
theorem build_nil (u : Bool) (w : World) : Calls Ybaf.prog 12 #[.slice none 0 0, .bool u] w fun e w' => e = .returned (.slice none 0 0) ∧ w = w' := by
  have hq := fun (a : Option Addr) (n c : Nat) (w : World) => Lib.run_eql_slice_nil (P := Ybaf.prog) w 106 119 a n c 0 0 Ybaf.underlying106
  go_enter Ybaf.func12, Ybaf.ntmps12
  go_wp2
  go_ret
  exact ⟨rfl, rfl⟩
theorem row_length (u : Bool) (e : Nat → Int) (n k : Nat) : (row u e n k).length = n * 9 := by simp [row]
theorem row_at (u : Bool) (e : Nat → Int) (n k j : Nat) (hj : j < n * 9) : (row u e n k)[j]? = some (if j < k * 9 then sv u e j else zv j) := by
  rw [row, List.getElem?_map, List.getElem?_range hj, Option.map_some]
theorem row_step (u : Bool) (e : Nat → Int) (n k : Nat) (_hk : k < n) :
    (((((((((row u e n k).set (k * 9) (sv u e (k * 9))).set (k * 9 + 1) (sv u e (k * 9 + 1))).set (k * 9 + 2) (sv u e (k * 9 + 2))).set (k * 9 + 3) (sv u e (k * 9 + 3))).set (k * 9 + 4) (sv u e (k * 9 + 4))).set (k * 9 + 5) (sv u e (k * 9 + 5))).set (k * 9 + 6) (sv u e (k * 9 + 6))).set (k * 9 + 7) (sv u e (k * 9 + 7))).set (k * 9 + 8) (sv u e (k * 9 + 8)) = row u e n (k + 1) := by
  apply List.ext_getElem?
  intro j
  by_cases hj : j < n * 9
  · simp only [List.getElem?_set, List.length_set, row_length, row_at u e n _ j hj]
    by_cases h : k * 9 ≤ j ∧ j < k * 9 + 9
    · have h9 : j = k * 9 ∨ j = k * 9 + 1 ∨ j = k * 9 + 2 ∨ j = k * 9 + 3 ∨ j = k * 9 + 4 ∨ j = k * 9 + 5 ∨ j = k * 9 + 6 ∨ j = k * 9 + 7 ∨ j = k * 9 + 8 := by omega
      have hlt : j < (k + 1) * 9 := by omega
      rcases h9 with h | h | h | h | h | h | h | h | h <;> subst h <;> simp [hj, hlt]
    · have e2 : (j < (k + 1) * 9) = (j < k * 9) := by apply propext; omega
      simp only [e2]
      rw [if_neg (by omega), if_neg (by omega), if_neg (by omega), if_neg (by omega), if_neg (by omega), if_neg (by omega), if_neg (by omega), if_neg (by omega), if_neg (by omega)]
  · rw [List.getElem?_eq_none (by simp [row_length]; omega), List.getElem?_eq_none (by simp [row_length]; omega)]
theorem own_put {wr : World} {base g n m : Nat} {xs : List Value} (h : wr.ownsRow base 114 9 (.slice (some ⟨g, 0, none⟩) n n) n xs) (v0 v1 v2 v3 v4 v5 v6 v7 v8 : Value) :
    (((((((((wr.setCell ⟨g, m, none⟩ v0).setCell ⟨g, m + 1, none⟩ v1).setCell ⟨g, m + 2, none⟩ v2).setCell ⟨g, m + 3, none⟩ v3).setCell ⟨g, m + 4, none⟩ v4).setCell ⟨g, m + 5, none⟩ v5).setCell ⟨g, m + 6, none⟩ v6).setCell ⟨g, m + 7, none⟩ v7).setCell ⟨g, m + 8, none⟩ v8).ownsRow base 114 9 (.slice (some ⟨g, 0, none⟩) n n) n
      (((((((((xs.set m v0).set (m + 1) v1).set (m + 2) v2).set (m + 3) v3).set (m + 4) v4).set (m + 5) v5).set (m + 6) v6).set (m + 7) v7).set (m + 8) v8) :=
  (((((((((h.stored _ _).1.stored _ _).1.stored _ _).1.stored _ _).1.stored _ _).1.stored _ _).1.stored _ _).1.stored _ _).1.stored _ _).1
theorem below_put {a wr : World} {B g m : Nat} (h : Below B a wr) (hg : B ≤ g) (v0 v1 v2 v3 v4 v5 v6 v7 v8 : Value) :
    Below B a (((((((((wr.setCell ⟨g, m, none⟩ v0).setCell ⟨g, m + 1, none⟩ v1).setCell ⟨g, m + 2, none⟩ v2).setCell ⟨g, m + 3, none⟩ v3).setCell ⟨g, m + 4, none⟩ v4).setCell ⟨g, m + 5, none⟩ v5).setCell ⟨g, m + 6, none⟩ v6).setCell ⟨g, m + 7, none⟩ v7).setCell ⟨g, m + 8, none⟩ v8) :=
  ((((((((h.setCell hg _).setCell hg _).setCell hg _).setCell hg _).setCell hg _).setCell hg _).setCell hg _).setCell hg _).setCell hg _
theorem own_row {wr : World} {base g n k : Nat} {u : Bool} {e : Nat → Int} {v0 : Value} (hk : k < n) (h : wr.ownsRow base 114 9 (.slice (some ⟨g, 0, none⟩) n n) n (row u e n k)) (hv : v0 = sv u e (k * 9)) :
    (((((((((wr.setCell ⟨g, k * 9, none⟩ v0).setCell ⟨g, k * 9 + 1, none⟩ (.int .u16 (e (k * 9 + 1)))).setCell ⟨g, k * 9 + 2, none⟩ (.int .u16 (e (k * 9 + 2)))).setCell ⟨g, k * 9 + 3, none⟩ (.int .u16 (e (k * 9 + 3)))).setCell ⟨g, k * 9 + 4, none⟩ (.int .u16 (e (k * 9 + 4)))).setCell ⟨g, k * 9 + 5, none⟩ (.int .u16 (e (k * 9 + 5)))).setCell ⟨g, k * 9 + 6, none⟩ (.int .u16 (e (k * 9 + 6)))).setCell ⟨g, k * 9 + 7, none⟩ (.int .u16 (e (k * 9 + 7)))).setCell ⟨g, k * 9 + 8, none⟩ (.int .u16 (e (k * 9 + 8)))).ownsRow base 114 9 (.slice (some ⟨g, 0, none⟩) n n) n (row u e n (k + 1)) := by
  have hs : ∀ j, 0 < j → j < 9 → Value.int .u16 (e (k * 9 + j)) = sv u e (k * 9 + j) := by
    intro j h0 h9
    unfold sv
    rw [if_neg (by omega)]
  rw [← row_step u e n k hk, hv, hs 1 (by omega) (by omega), hs 2 (by omega) (by omega), hs 3 (by omega) (by omega), hs 4 (by omega) (by omega), hs 5 (by omega) (by omega), hs 6 (by omega) (by omega), hs 7 (by omega) (by omega), hs 8 (by omega) (by omega)]
  exact own_put h _ _ _ _ _ _ _ _ _
theorem sv_plain {e : Nat → Int} {k : Nat} : Value.int .u8 (e (k * 9)) = sv false e (k * 9) := by simp [sv]
theorem sv_kept {e : Nat → Int} {k : Nat} (h : named (e (k * 9)) = false) : Value.int .u8 (e (k * 9)) = sv true e (k * 9) := by simp [sv, h]
theorem sv_none {e : Nat → Int} {k : Nat} (h : named (e (k * 9)) = true) : Value.int .u8 0 = sv true e (k * 9) := by simp [sv, h]
set_option maxRecDepth 4000 in
set_option maxHeartbeats 1000000 in
theorem build_true (x : Addr) (n c : Nat) (e : Nat → Int) (w : World) (hI : In w (some x) n e) (hn : n ≤ 1024) (hnc : n ≤ c) :
    Calls Ybaf.prog 12 #[.slice (some x) n c, .bool true] w fun r w' => r = .returned (.slice (some ⟨w.heap.size, 0, none⟩) n n) ∧ w'.ownsRow w.heap.size 114 9 (.slice (some ⟨w.heap.size, 0, none⟩) n n) n (row true e n n) ∧ Below w.heap.size w w' := by
  obtain ⟨i, hi, hz, hsz, hby⟩ := info_parts Ybaf.info114
  have HI : Hid (In w (some x) n e) := hI
  have H1 : Hid (Ybaf.prog.info? 114 = some i) := hi
  have H2 : Hid _ := hz
  have H3 : Hid _ := hsz
  have H4 : Hid _ := hby
  clear hi hz hsz hby hI
  have q1 : (n : Int) ≤ 1024 := by omega
  have hq := fun (a : Option Addr) (n c : Nat) (w : World) => Lib.run_eql_slice_nil (P := Ybaf.prog) w 106 119 a n c 0 0 Ybaf.underlying106
  go_enter Ybaf.func12, Ybaf.ntmps12
  go_wp2_with (at_make; refine wpList_make_full _ rfl _ _ 107 rfl w.heap.size 114 i _ 9 Ybaf.underlying107 H1.out H2.out H3.out _ _ _ _ n rfl rfl (by omega) (by omega) (by rw [H4.out]; omega) (by unfold maxLen; omega) (Nat.le_refl _) ?_)
  intro w1 hown hgrow
  rw [row_start true e n] at hown
  have HO1 : Hid _ := hown
  have HB1 : Hid (Below w.heap.size w w1) := (Below.refl _ _).grown hgrow (Nat.le_refl _) (fun q hq => by cases hq)
  clear hown hgrow
  go_wp2_with fail
  go_loopw [6] (fun i wr => ∃ k : Nat, k ≤ n ∧ i = .int .i64 k ∧ wr.ownsRow w.heap.size 114 9 (.slice (some ⟨w.heap.size, 0, none⟩) n n) n (row true e n k) ∧ Below w.heap.size w wr) (fun i _ => n - (intOf i).toNat)
  case atStart => exact ⟨0, by omega, rfl, HO1.out, HB1.out⟩
  case round =>
    obtain ⟨k, hk, rfl, hO, hB⟩ := hrel
    have HO : Hid (wr.ownsRow w.heap.size 114 9 (.slice (some ⟨w.heap.size, 0, none⟩) n n) n (row true e n k)) := hO
    have HB : Hid (Below w.heap.size w wr) := hB
    clear hO hB
    by_cases hkn : k < n
    · obtain ⟨b, off, hab, hb, hc⟩ := HI.out (by omega)
      cases hab
      have hbr : b < wr.heap.size := by have := HB.out.size; omega
      have fc : ∀ j, j < 9 → wr.cell? ⟨b, off + k * 9 + j, none⟩ = some (if j = 0 then .int .u8 (e (k * 9)) else .int .u16 (e (k * 9 + j))) := by
        intro j hj
        have h := (HB.out.cell (p := ⟨b, off + (k * 9 + j), none⟩) hb).trans (hc (k * 9 + j) (by omega))
        have hm : (k * 9 + j) % 9 = j := by omega
        rw [hm] at h
        rw [Nat.add_assoc, h]
        by_cases h0 : j = 0
        · subst h0; simp
        · simp [h0]
      have f0 : wr.cell? ⟨b, off + k * 9, none⟩ = some (.int .u8 (e (k * 9))) := fc 0 (by omega)
      have f1 : wr.cell? ⟨b, off + k * 9 + 1, none⟩ = some (.int .u16 (e (k * 9 + 1))) := fc 1 (by omega)
      have f2 : wr.cell? ⟨b, off + k * 9 + 2, none⟩ = some (.int .u16 (e (k * 9 + 2))) := fc 2 (by omega)
      have f3 : wr.cell? ⟨b, off + k * 9 + 3, none⟩ = some (.int .u16 (e (k * 9 + 3))) := fc 3 (by omega)
      have f4 : wr.cell? ⟨b, off + k * 9 + 4, none⟩ = some (.int .u16 (e (k * 9 + 4))) := fc 4 (by omega)
      have f5 : wr.cell? ⟨b, off + k * 9 + 5, none⟩ = some (.int .u16 (e (k * 9 + 5))) := fc 5 (by omega)
      have f6 : wr.cell? ⟨b, off + k * 9 + 6, none⟩ = some (.int .u16 (e (k * 9 + 6))) := fc 6 (by omega)
      have f7 : wr.cell? ⟨b, off + k * 9 + 7, none⟩ = some (.int .u16 (e (k * 9 + 7))) := fc 7 (by omega)
      have f8 : wr.cell? ⟨b, off + k * 9 + 8, none⟩ = some (.int .u16 (e (k * 9 + 8))) := fc 8 (by omega)
      have gc : ∀ j, j < 9 → wr.cell? ⟨w.heap.size, k * 9 + j, none⟩ = some (zv j) := by
        intro j hj
        rw [HO.out.cellAt (k * 9 + j) (by omega)]
        unfold row
        have hm : (k * 9 + j) % 9 = j % 9 := by omega
        rw [List.getElem?_map, List.getElem?_range (by omega)]
        rw [Option.map_some, if_neg (by omega)]
        unfold zv
        rw [hm]
      have g0 : wr.cell? ⟨w.heap.size, k * 9, none⟩ = some (.int .u8 0) := gc 0 (by omega)
      have g1 : wr.cell? ⟨w.heap.size, k * 9 + 1, none⟩ = some (.int .u16 0) := gc 1 (by omega)
      have g2 : wr.cell? ⟨w.heap.size, k * 9 + 2, none⟩ = some (.int .u16 0) := gc 2 (by omega)
      have g3 : wr.cell? ⟨w.heap.size, k * 9 + 3, none⟩ = some (.int .u16 0) := gc 3 (by omega)
      have g4 : wr.cell? ⟨w.heap.size, k * 9 + 4, none⟩ = some (.int .u16 0) := gc 4 (by omega)
      have g5 : wr.cell? ⟨w.heap.size, k * 9 + 5, none⟩ = some (.int .u16 0) := gc 5 (by omega)
      have g6 : wr.cell? ⟨w.heap.size, k * 9 + 6, none⟩ = some (.int .u16 0) := gc 6 (by omega)
      have g7 : wr.cell? ⟨w.heap.size, k * 9 + 7, none⟩ = some (.int .u16 0) := gc 7 (by omega)
      have g8 : wr.cell? ⟨w.heap.size, k * 9 + 8, none⟩ = some (.int .u16 0) := gc 8 (by omega)
      have z0 := HO.out.frozenAt (k * 9)
      have z1 := HO.out.frozenAt (k * 9 + 1)
      have z2 := HO.out.frozenAt (k * 9 + 2)
      have z3 := HO.out.frozenAt (k * 9 + 3)
      have z4 := HO.out.frozenAt (k * 9 + 4)
      have z5 := HO.out.frozenAt (k * 9 + 5)
      have z6 := HO.out.frozenAt (k * 9 + 6)
      have z7 := HO.out.frozenAt (k * 9 + 7)
      have z8 := HO.out.frozenAt (k * 9 + 8)
      have hg : w.heap.size < wr.heap.size := World.block_lt_of_cell? wr _ g0
      clear gc
      clear fc hc hb
      go_wp2_with (go_at_call 26; refine (c26 _ _).mono ?_; rintro e w5 ⟨rfl, rfl⟩)
      all_goals
        go_roundw
        case rel => exact ⟨k + 1, by omega, by go_num, (own_row hkn HO.out (by first | exact sv_plain | exact sv_kept (by assumption) | exact sv_none (by assumption))).alloc _, (below_put HB.out (Nat.le_refl _) _ _ _ _ _ _ _ _ _).alloc (by simp; omega) _⟩
        case measure => simp [intOf]; omega
    · have : k = n := by omega
      subst this
      go_wp2_with fail
      go_ret
      exact ⟨rfl, HO.out, HB.out⟩
set_option maxRecDepth 4000 in
set_option maxHeartbeats 1000000 in
theorem build_false (x : Addr) (n c : Nat) (e : Nat → Int) (w : World) (hI : In w (some x) n e) (hn : n ≤ 1024) (hnc : n ≤ c) :
    Calls Ybaf.prog 12 #[.slice (some x) n c, .bool false] w fun r w' => r = .returned (.slice (some ⟨w.heap.size, 0, none⟩) n n) ∧ w'.ownsRow w.heap.size 114 9 (.slice (some ⟨w.heap.size, 0, none⟩) n n) n (row false e n n) ∧ Below w.heap.size w w' := by
  obtain ⟨i, hi, hz, hsz, hby⟩ := info_parts Ybaf.info114
  have HI : Hid (In w (some x) n e) := hI
  have H1 : Hid (Ybaf.prog.info? 114 = some i) := hi
  have H2 : Hid _ := hz
  have H3 : Hid _ := hsz
  have H4 : Hid _ := hby
  clear hi hz hsz hby hI
  have q1 : (n : Int) ≤ 1024 := by omega
  have hq := fun (a : Option Addr) (n c : Nat) (w : World) => Lib.run_eql_slice_nil (P := Ybaf.prog) w 106 119 a n c 0 0 Ybaf.underlying106
  go_enter Ybaf.func12, Ybaf.ntmps12
  go_wp2_with (at_make; refine wpList_make_full _ rfl _ _ 107 rfl w.heap.size 114 i _ 9 Ybaf.underlying107 H1.out H2.out H3.out _ _ _ _ n rfl rfl (by omega) (by omega) (by rw [H4.out]; omega) (by unfold maxLen; omega) (Nat.le_refl _) ?_)
  intro w1 hown hgrow
  rw [row_start false e n] at hown
  have HO1 : Hid _ := hown
  have HB1 : Hid (Below w.heap.size w w1) := (Below.refl _ _).grown hgrow (Nat.le_refl _) (fun q hq => by cases hq)
  clear hown hgrow
  go_wp2_with fail
  go_loopw [6] (fun i wr => ∃ k : Nat, k ≤ n ∧ i = .int .i64 k ∧ wr.ownsRow w.heap.size 114 9 (.slice (some ⟨w.heap.size, 0, none⟩) n n) n (row false e n k) ∧ Below w.heap.size w wr) (fun i _ => n - (intOf i).toNat)
  case atStart => exact ⟨0, by omega, rfl, HO1.out, HB1.out⟩
  case round =>
    obtain ⟨k, hk, rfl, hO, hB⟩ := hrel
    have HO : Hid (wr.ownsRow w.heap.size 114 9 (.slice (some ⟨w.heap.size, 0, none⟩) n n) n (row false e n k)) := hO
    have HB : Hid (Below w.heap.size w wr) := hB
    clear hO hB
    by_cases hkn : k < n
    · obtain ⟨b, off, hab, hb, hc⟩ := HI.out (by omega)
      cases hab
      have hbr : b < wr.heap.size := by have := HB.out.size; omega
      have fc : ∀ j, j < 9 → wr.cell? ⟨b, off + k * 9 + j, none⟩ = some (if j = 0 then .int .u8 (e (k * 9)) else .int .u16 (e (k * 9 + j))) := by
        intro j hj
        have h := (HB.out.cell (p := ⟨b, off + (k * 9 + j), none⟩) hb).trans (hc (k * 9 + j) (by omega))
        have hm : (k * 9 + j) % 9 = j := by omega
        rw [hm] at h
        rw [Nat.add_assoc, h]
        by_cases h0 : j = 0
        · subst h0; simp
        · simp [h0]
      have f0 : wr.cell? ⟨b, off + k * 9, none⟩ = some (.int .u8 (e (k * 9))) := fc 0 (by omega)
      have f1 : wr.cell? ⟨b, off + k * 9 + 1, none⟩ = some (.int .u16 (e (k * 9 + 1))) := fc 1 (by omega)
      have f2 : wr.cell? ⟨b, off + k * 9 + 2, none⟩ = some (.int .u16 (e (k * 9 + 2))) := fc 2 (by omega)
      have f3 : wr.cell? ⟨b, off + k * 9 + 3, none⟩ = some (.int .u16 (e (k * 9 + 3))) := fc 3 (by omega)
      have f4 : wr.cell? ⟨b, off + k * 9 + 4, none⟩ = some (.int .u16 (e (k * 9 + 4))) := fc 4 (by omega)
      have f5 : wr.cell? ⟨b, off + k * 9 + 5, none⟩ = some (.int .u16 (e (k * 9 + 5))) := fc 5 (by omega)
      have f6 : wr.cell? ⟨b, off + k * 9 + 6, none⟩ = some (.int .u16 (e (k * 9 + 6))) := fc 6 (by omega)
      have f7 : wr.cell? ⟨b, off + k * 9 + 7, none⟩ = some (.int .u16 (e (k * 9 + 7))) := fc 7 (by omega)
      have f8 : wr.cell? ⟨b, off + k * 9 + 8, none⟩ = some (.int .u16 (e (k * 9 + 8))) := fc 8 (by omega)
      have gc : ∀ j, j < 9 → wr.cell? ⟨w.heap.size, k * 9 + j, none⟩ = some (zv j) := by
        intro j hj
        rw [HO.out.cellAt (k * 9 + j) (by omega)]
        unfold row
        have hm : (k * 9 + j) % 9 = j % 9 := by omega
        rw [List.getElem?_map, List.getElem?_range (by omega)]
        rw [Option.map_some, if_neg (by omega)]
        unfold zv
        rw [hm]
      have g0 : wr.cell? ⟨w.heap.size, k * 9, none⟩ = some (.int .u8 0) := gc 0 (by omega)
      have g1 : wr.cell? ⟨w.heap.size, k * 9 + 1, none⟩ = some (.int .u16 0) := gc 1 (by omega)
      have g2 : wr.cell? ⟨w.heap.size, k * 9 + 2, none⟩ = some (.int .u16 0) := gc 2 (by omega)
      have g3 : wr.cell? ⟨w.heap.size, k * 9 + 3, none⟩ = some (.int .u16 0) := gc 3 (by omega)
      have g4 : wr.cell? ⟨w.heap.size, k * 9 + 4, none⟩ = some (.int .u16 0) := gc 4 (by omega)
      have g5 : wr.cell? ⟨w.heap.size, k * 9 + 5, none⟩ = some (.int .u16 0) := gc 5 (by omega)
      have g6 : wr.cell? ⟨w.heap.size, k * 9 + 6, none⟩ = some (.int .u16 0) := gc 6 (by omega)
      have g7 : wr.cell? ⟨w.heap.size, k * 9 + 7, none⟩ = some (.int .u16 0) := gc 7 (by omega)
      have g8 : wr.cell? ⟨w.heap.size, k * 9 + 8, none⟩ = some (.int .u16 0) := gc 8 (by omega)
      have z0 := HO.out.frozenAt (k * 9)
      have z1 := HO.out.frozenAt (k * 9 + 1)
      have z2 := HO.out.frozenAt (k * 9 + 2)
      have z3 := HO.out.frozenAt (k * 9 + 3)
      have z4 := HO.out.frozenAt (k * 9 + 4)
      have z5 := HO.out.frozenAt (k * 9 + 5)
      have z6 := HO.out.frozenAt (k * 9 + 6)
      have z7 := HO.out.frozenAt (k * 9 + 7)
      have z8 := HO.out.frozenAt (k * 9 + 8)
      have hg : w.heap.size < wr.heap.size := World.block_lt_of_cell? wr _ g0
      clear gc
      clear fc hc hb
      go_wp2_with (go_at_call 26; refine (c26 _ _).mono ?_; rintro e w5 ⟨rfl, rfl⟩)
      all_goals
        go_roundw
        case rel => exact ⟨k + 1, by omega, by go_num, (own_row hkn HO.out (by first | exact sv_plain | exact sv_kept (by assumption) | exact sv_none (by assumption))).alloc _, (below_put HB.out (Nat.le_refl _) _ _ _ _ _ _ _ _ _).alloc (by simp; omega) _⟩
        case measure => simp [intOf]; omega
    · have : k = n := by omega
      subst this
      go_wp2_with fail
      go_ret
      exact ⟨rfl, HO.out, HB.out⟩
end Go.Proofs.YbulkdewqFmt
