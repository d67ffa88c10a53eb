/- Contracts of wire.ParseNeighbours. -/
import Derived.Test.YbulkdeumDoorSame
namespace Go.Proofs.YbulkdeumDoor
open Go.RowKit
def ent (bs : Nat → Int) (i : Nat) : Int × Int :=
  (lo4 (bs (2 + 6 * i)) (bs (2 + 6 * i + 1)) (bs (2 + 6 * i + 2)) (bs (2 + 6 * i + 3)), p16 (bs (2 + 6 * i + 4)) (bs (2 + 6 * i + 5)))
def ents (bs : Nat → Int) (n : Nat) : List (Int × Int) := (List.range n).map (ent bs)
theorem ents_succ (bs : Nat → Int) (n : Nat) : ents bs (n + 1) = ents bs n ++ [ent bs n] := by simp [ents, List.range_succ]
theorem ents_length (bs : Nat → Int) (n : Nat) : (ents bs n).length = n := by simp [ents]
/-- Block h holds n AddrPorts, the first of them those of l. -/
def LieB (w : World) (h : Nat) (z : Option Addr) (l : List (Int × Int)) (n : Nat) : Prop :=
  ∃ C : Array Value, w.heap[h]? = some (.cells C 38 (0, 0)) ∧ C.size = n * 4 ∧ ∀ i, i < l.length → C[i * 4]? = some (.int .u64 0) ∧ C[i * 4 + 1]? = some (.int .u64 (l.getD i (0, 0)).1) ∧ C[i * 4 + 2]? = some (.pointer z) ∧ C[i * 4 + 3]? = some (.int .u16 (l.getD i (0, 0)).2)
theorem LieB.lie {w : World} {h : Nat} {z : Option Addr} {l : List (Int × Int)} {n : Nat} (H : LieB w h z l n) : Lie w h z l := by
  obtain ⟨C, hC, _, hl⟩ := H
  intro i hi
  obtain ⟨a, b, c, d⟩ := hl i hi
  simp [World.cell?, hC, a, b, c, d]
theorem LieB.below {w w' : World} {h B : Nat} {z : Option Addr} {l : List (Int × Int)} {n : Nat} (H : LieB w h z l n) (b : Below B w w') (hb : h < B) : LieB w' h z l n := by
  obtain ⟨C, hC, r⟩ := H
  exact ⟨C, by rw [b.block h hb]; exact hC, r⟩
theorem LieB.has {w : World} {h : Nat} {z : Option Addr} {l : List (Int × Int)} {n : Nat} (H : LieB w h z l n) {o : Nat} (ho : o < n * 4) : ∃ v, w.cell? ⟨h, o, none⟩ = some v := by
  obtain ⟨C, hC, hs, _⟩ := H
  exact ⟨C[o], by simp [World.cell?, hC, hs, ho]⟩
theorem LieB.frozen {w : World} {h : Nat} {z : Option Addr} {l : List (Int × Int)} {n : Nat} (H : LieB w h z l n) (o : Nat) : w.frozen? ⟨h, o, none⟩ = false := by
  obtain ⟨C, hC, hs, _⟩ := H
  simp [World.frozen?, hC]
theorem LieB.lt {w : World} {h : Nat} {z : Option Addr} {l : List (Int × Int)} {n : Nat} (H : LieB w h z l n) : h < w.heap.size := by
  obtain ⟨C, hC, hs, _⟩ := H
  exact (Array.getElem?_eq_some_iff.1 hC).1
theorem heap_setCell_at {wr : World} {b : Nat} {C : Array Value} {t : TypeId} {fr : Nat × Nat} (hC : wr.heap[b]? = some (.cells C t fr)) (o : Nat) (v : Value) :
    (wr.setCell ⟨b, o, none⟩ v).heap[b]? = some (.cells (C.setIfInBounds o v) t fr) := by
  simp [World.setCell, Array.getElem?_modify, hC]
theorem LieB.push {w : World} {h : Nat} {z : Option Addr} {l : List (Int × Int)} {n : Nat} (H : LieB w h z l n) (hk : l.length < n) (e : Int × Int) :
    LieB ((((w.setCell ⟨h, l.length * 4, none⟩ (.int .u64 0)).setCell ⟨h, l.length * 4 + 1, none⟩ (.int .u64 e.1)).setCell ⟨h, l.length * 4 + 2, none⟩ (.pointer z)).setCell ⟨h, l.length * 4 + 3, none⟩ (.int .u16 e.2)) h z (l ++ [e]) n := by
  obtain ⟨C, hC, hs, hl⟩ := H
  refine ⟨_, heap_setCell_at (heap_setCell_at (heap_setCell_at (heap_setCell_at hC _ _) _ _) _ _) _ _, by simpa using hs, fun i hi => ?_⟩
  simp only [List.length_append, List.length_cons, List.length_nil] at hi
  by_cases e1 : i = l.length
  · subst e1
    simp only [Array.getElem?_setIfInBounds, Array.size_setIfInBounds]
    refine ⟨?_, ?_, ?_, ?_⟩
    · rw [if_neg (by omega), if_neg (by omega), if_neg (by omega), if_pos trivial, if_pos (by omega)]
    · rw [if_neg (by omega), if_neg (by omega), if_pos trivial, if_pos (by omega)]; simp
    · rw [if_neg (by omega), if_pos trivial, if_pos (by omega)]
    · rw [if_pos trivial, if_pos (by omega)]; simp
  · obtain ⟨a, b, c, d⟩ := hl i (by omega)
    have hg : (l ++ [e]).getD i (0, 0) = l.getD i (0, 0) := by simp [List.getElem?_append, show i < l.length by omega]
    rw [hg]
    simp only [Array.getElem?_setIfInBounds, Array.size_setIfInBounds]
    refine ⟨?_, ?_, ?_, ?_⟩
    · rw [if_neg (by omega), if_neg (by omega), if_neg (by omega), if_neg (by omega)]; exact a
    · rw [if_neg (by omega), if_neg (by omega), if_neg (by omega), if_neg (by omega)]; exact b
    · rw [if_neg (by omega), if_neg (by omega), if_neg (by omega), if_neg (by omega)]; exact c
    · rw [if_neg (by omega), if_neg (by omega), if_neg (by omega), if_neg (by omega)]; exact d
theorem Ybad.info38 : (Ybad.prog.info? 38).map (fun i => (i.zero, i.size, i.bytes)) = some (some (.agg #[.int .u64 0, .int .u64 0, .pointer none, .int .u16 0]), 4, 32) := by kernel_rfl
/-- 'make([]netip.AddrPort, n)' -/
theorem make38 (t : TypeId) (ht : Ybad.prog.underlying t = some (.slice 38)) (n : Nat) (hn : n ≤ 1000000) :
    ∃ C : Array Value, C.size = n * 4 ∧ ∀ w : World, (Instr.makeSlice t (.int .i64 n) (.int .i64 n)).run Ybad.prog w = .ok (.slice (some ⟨w.heap.size, 0, none⟩) n n) (w.alloc (.cells C 38)) := by
  obtain ⟨i, hi, hz, hsz, hby⟩ := info_parts Ybad.info38
  refine ⟨madeCells #[.int .u64 0, .int .u64 0, .pointer none, .int .u16 0] (n * 4), size_madeCells _ _, fun w => ?_⟩
  have h := run_make (P := Ybad.prog) w t 38 i _ ht hi hz .i64 .i64 n n (by omega) (by omega) (by rw [hby]; omega) (by omega)
  rw [h, hsz]
  simp [Value.cells]
set_option maxHeartbeats 400000 in
theorem c10short (g len cap : Nat) (z4 z6 : Option Addr) (et : TypeId) (ev : Value) (w : World) (hG : Gl z4 z6 et ev w) (hl : len < 2) :
    Calls Ybad.prog 10 #[.slice (some ⟨g, 0, none⟩) len cap] w fun e w' => e = .returned (.tuple #[.slice none 0 0, .iface et ev]) ∧ Below w.heap.size w w' ∧ Gl z4 z6 et ev w' := by
  have hE := hG.2.2.2
  have HG : Hid (Gl z4 z6 et ev w) := hG
  clear hG
  go_enter Ybad.func10, Ybad.ntmps10
  go_wp2
  go_quiet (fail)
  go_wp2
  go_ret2
  exact ⟨rfl, ⟨rfl, rfl, rfl, Nat.le_refl _, fun _ _ => rfl⟩, Gl.drewN _ HG.out⟩
set_option maxHeartbeats 400000 in
theorem c10short2 (g len cap n : Nat) (bs : Nat → Int) (z4 z6 : Option Addr) (et : TypeId) (ev : Value) (w : World) (hG : Gl z4 z6 et ev w) (hl : 2 ≤ len) (hg : g < w.heap.size)
    (h0 : w.cell? ⟨g, 0, none⟩ = some (.int .u8 (bs 0))) (h1 : w.cell? ⟨g, 0 + 1, none⟩ = some (.int .u8 (bs 1))) (b0 : B8 (bs 0)) (b1 : B8 (bs 1)) (hn : p16 (bs 0) (bs 1) = n) (hn1 : n ≤ 65535) (hs : len < 2 + 6 * n) :
    Calls Ybad.prog 10 #[.slice (some ⟨g, 0, none⟩) len cap] w fun e w' => e = .returned (.tuple #[.slice none 0 0, .iface et ev]) ∧ Below w.heap.size w w' ∧ Gl z4 z6 et ev w' := by
  have HG : Hid (Gl z4 z6 et ev w) := hG
  have HN : Hid (p16 (bs 0) (bs 1) = n) := hn
  clear hG hn
  go_enter Ybad.func10, Ybad.ntmps10
  go_wp2_with fail
  refine (c14 g 0 len cap (bs 0) (bs 1) z4 z6 et ev _ (by exact HG.out) hl hg h0 h1 b0 b1).mono ?_
  rintro e w1 ⟨rfl, hB1, hG1⟩
  rw [HN.out]
  have hE := hG1.2.2.2
  have HG1 : Hid (Gl z4 z6 et ev w1) := hG1
  clear hG1
  go_wp2
  go_quiet (fail)
  go_wp2
  go_ret2
  exact ⟨rfl, hB1.trans ⟨rfl, rfl, rfl, Nat.le_refl _, fun _ _ => rfl⟩, Gl.drewN _ HG1.out⟩
set_option maxHeartbeats 400000 in
theorem c10ok (g len cap n : Nat) (bs : Nat → Int) (z4 z6 : Option Addr) (et : TypeId) (ev : Value) (w : World) (hG : Gl z4 z6 et ev w) (hl : 2 ≤ len) (hlc : len ≤ cap) (hcm : (cap : Int) ≤ 140737488351232) (hg : g < w.heap.size)
    (hc : ∀ i, i < len → w.cell? ⟨g, i, none⟩ = some (.int .u8 (bs i))) (hb : ∀ i, B8 (bs i)) (hn : p16 (bs 0) (bs 1) = n) (hn1 : n ≤ 65535) (hs : 2 + 6 * n ≤ len) :
    Calls Ybad.prog 10 #[.slice (some ⟨g, 0, none⟩) len cap] w fun e w' => ∃ h, e = .returned (.tuple #[.slice (some ⟨h, 0, none⟩) n n, .nilIface]) ∧ w.heap.size ≤ h ∧ LieB w' h z4 (ents bs n) n ∧ Below w.heap.size w w' ∧ Gl z4 z6 et ev w' := by
  have HG : Hid (Gl z4 z6 et ev w) := hG
  have HN : Hid (p16 (bs 0) (bs 1) = n) := hn
  have HC : Hid (∀ i, i < len → w.cell? ⟨g, i, none⟩ = some (.int .u8 (bs i))) := hc
  clear hG hn hc
  go_enter Ybad.func10, Ybad.ntmps10
  go_wp2_with fail
  refine (c14 g 0 len cap (bs 0) (bs 1) z4 z6 et ev _ (by exact HG.out) hl hg (HC.out 0 (by omega)) (HC.out 1 (by omega)) (hb 0) (hb 1)).mono ?_
  rintro e w1 ⟨rfl, hB1, hG1⟩
  rw [HN.out]
  have HG1 : Hid (Gl z4 z6 et ev w1) := hG1
  obtain ⟨C, hCs, hmk⟩ := make38 92 Ybad.underlying92 n (by omega)
  have hs1 := hB1.size
  have HL : Hid (LieB (w1.alloc (.cells C 38)) w1.heap.size z4 (ents bs 0) n) := ⟨C, by show (w1.heap.push _)[w1.heap.size]? = _; simp, hCs, fun i hi => by simp [ents] at hi⟩
  have HB : Hid (Below w.heap.size w (w1.alloc (.cells C 38))) := hB1.alloc (by omega) _
  clear hG1 hB1 hCs
  have hn0 : (0 : Int) ≤ n := by omega
  have hn2 : (n : Int) ≤ 65535 := by omega
  have hs' : ¬ ((len : Int) < 2 + 6 * n) := by omega
  go_wp2
  go_loopw [26] (fun i wr => ∃ k : Nat, k ≤ n ∧ i = .int .i64 k ∧ LieB wr w1.heap.size z4 (ents bs k) n ∧ Below w.heap.size w wr ∧ Gl z4 z6 et ev wr) (fun i _ => n - (intOf i).toNat)
  case atStart => exact ⟨0, by omega, rfl, HL.out, HB.out, Gl.alloc HG1.out _⟩
  case round =>
    clear HL HB
    obtain ⟨k, hk, rfl, hL, hB, hGr⟩ := hrel
    by_cases hlt : k < n
    · have HL : Hid (LieB wr w1.heap.size z4 (ents bs k) n) := hL
      have HB : Hid (Below w.heap.size w wr) := hB
      have HGr : Hid (Gl z4 z6 et ev wr) := hGr
      have hhl := hL.lt
      have hgr : g < wr.heap.size := by have := hB.size; omega
      have hcr : ∀ j, j < 6 → wr.cell? ⟨g, 2 + 6 * k + j, none⟩ = some (.int .u8 (bs (2 + 6 * k + j))) := fun j hj => (hB.cell (p := ⟨g, _, none⟩) hg).trans (HC.out _ (by omega))
      have HCR : Hid _ := hcr
      clear hL hB hGr hcr
      have q1 : (0 : Int) ≤ 2 + 6 * (k : Int) := by omega
      have q2 : 2 + 6 * (k : Int) ≤ len := by omega
      have q3 : ¬ cap = 2 + 6 * k := by omega
      have q4 : (len : Int) ≤ cap := by omega
      go_wp2_with fail
      refine (c15 g (2 + 6 * k) (len - (2 + 6 * k)) (cap - (2 + 6 * k)) (bs (2 + 6 * k)) (bs (2 + 6 * k + 1)) (bs (2 + 6 * k + 2)) (bs (2 + 6 * k + 3)) (bs (2 + 6 * k + 4)) (bs (2 + 6 * k + 5)) z4 z6 et ev _ (by exact HGr.out) (by omega) (by omega) hgr
        (HCR.out 0 (by omega)) (HCR.out 1 (by omega)) (HCR.out 2 (by omega)) (HCR.out 3 (by omega)) (HCR.out 4 (by omega)) (HCR.out 5 (by omega)) (hb _) (hb _) (hb _) (hb _) (hb _) (hb _)).mono ?_
      rintro e w2 ⟨rfl, hB2, hG2⟩
      have hL2 : LieB w2 w1.heap.size z4 (ents bs k) n := LieB.below HL.out hB2 hhl
      have HB2 : Hid (Below w.heap.size w w2) := HB.out.trans (hB2.mono HB.out.size)
      have HG2 : Hid (Gl z4 z6 et ev w2) := hG2
      have HP := hL2.push (by rw [ents_length]; exact hlt) (ent bs k)
      rw [ents_length, ← ents_succ] at HP
      have HP' : Hid _ := HP
      obtain ⟨v0, f0⟩ := hL2.has (o := k * 4) (by omega)
      obtain ⟨v1, f1⟩ := hL2.has (o := k * 4 + 1) (by omega)
      obtain ⟨v2, f2⟩ := hL2.has (o := k * 4 + 2) (by omega)
      obtain ⟨v3, f3⟩ := hL2.has (o := k * 4 + 3) (by omega)
      have z0 := hL2.frozen (k * 4)
      have z1 := hL2.frozen (k * 4 + 1)
      have z2 := hL2.frozen (k * 4 + 2)
      have z3 := hL2.frozen (k * 4 + 3)
      clear hB2 hG2 hL2 HP HGr HCR HL HB
      go_wp2
      go_roundw
      case rel =>
        have HB4 := (((HB2.out.setCell (p := ⟨w1.heap.size, k * 4, none⟩) hs1 (.int .u64 0)).setCell (p := ⟨w1.heap.size, k * 4 + 1, none⟩) hs1 (.int .u64 (ent bs k).1)).setCell (p := ⟨w1.heap.size, k * 4 + 2, none⟩) hs1 (.pointer z4)).setCell (p := ⟨w1.heap.size, k * 4 + 3, none⟩) hs1 (.int .u16 (ent bs k).2)
        exact ⟨k + 1, by omega, by go_num, HP'.out, HB4, Gl.below HG.out HG.out.1 HB4⟩
      case measure => simp [intOf]; omega
    · have : k = n := by omega
      subst this
      have HL : Hid (LieB wr w1.heap.size z4 (ents bs k) k) := hL
      have HB : Hid (Below w.heap.size w wr) := hB
      have HGr : Hid (Gl z4 z6 et ev wr) := hGr
      clear hL hB hGr
      go_wp2
      go_ret2
      exact ⟨_, rfl, hs1, HL.out, HB.out, HGr.out⟩
end Go.Proofs.YbulkdeumDoor
