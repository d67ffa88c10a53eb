/- Contracts of readIPPort and of the law's sentinel. -/
import Derived.Test.YbulkdeumDoorAddr
namespace Go.Proofs.YbulkdeumDoor
open Go.RowKit
theorem keep6 {w w1 : World} (hB : Below w.heap.size w w1) {b o0 o1 o2 o3 o4 o5 : Nat} {v0 v1 v2 v3 v4 v5 : Value} (hb : b < w.heap.size) (h0 : w.cell? ⟨b, o0, none⟩ = some v0) (h1 : w.cell? ⟨b, o1, none⟩ = some v1) (h2 : w.cell? ⟨b, o2, none⟩ = some v2) (h3 : w.cell? ⟨b, o3, none⟩ = some v3) (h4 : w.cell? ⟨b, o4, none⟩ = some v4) (h5 : w.cell? ⟨b, o5, none⟩ = some v5) :
    w1.cell? ⟨b, o0, none⟩ = some v0 ∧ w1.cell? ⟨b, o1, none⟩ = some v1 ∧ w1.cell? ⟨b, o2, none⟩ = some v2 ∧ w1.cell? ⟨b, o3, none⟩ = some v3 ∧ w1.cell? ⟨b, o4, none⟩ = some v4 ∧ w1.cell? ⟨b, o5, none⟩ = some v5 :=
  ⟨(hB.cell (p := ⟨b, o0, none⟩) hb).trans h0, (hB.cell (p := ⟨b, o1, none⟩) hb).trans h1, (hB.cell (p := ⟨b, o2, none⟩) hb).trans h2, (hB.cell (p := ⟨b, o3, none⟩) hb).trans h3, (hB.cell (p := ⟨b, o4, none⟩) hb).trans h4, (hB.cell (p := ⟨b, o5, none⟩) hb).trans h5⟩
set_option maxHeartbeats 400000 in
theorem c15 (b off len cap : Nat) (x0 x1 x2 x3 x4 x5 : Int) (z4 z6 : Option Addr) (et : TypeId) (ev : Value) (w : World) (hG : Gl z4 z6 et ev w) (hl : 6 ≤ len) (hc : len ≤ cap) (hb : b < w.heap.size)
    (h0 : w.cell? ⟨b, off, none⟩ = some (.int .u8 x0)) (h1 : w.cell? ⟨b, off + 1, none⟩ = some (.int .u8 x1)) (h2 : w.cell? ⟨b, off + 2, none⟩ = some (.int .u8 x2)) (h3 : w.cell? ⟨b, off + 3, none⟩ = some (.int .u8 x3))
    (h4 : w.cell? ⟨b, off + 4, none⟩ = some (.int .u8 x4)) (h5 : w.cell? ⟨b, off + 4 + 1, none⟩ = some (.int .u8 x5)) (b0 : B8 x0) (b1 : B8 x1) (b2 : B8 x2) (b3 : B8 x3) (b4 : B8 x4) (b5 : B8 x5) :
    Calls Ybad.prog 15 #[.slice (some ⟨b, off, none⟩) len cap] w fun e w' => e = .returned (.agg #[.int .u64 0, .int .u64 (lo4 x0 x1 x2 x3), .pointer z4, .int .u16 (p16 x4 x5)]) ∧ Below w.heap.size w w' ∧ Gl z4 z6 et ev w' := by
  have HG : Hid (Gl z4 z6 et ev w) := hG
  clear hG
  have l4 : (4 : Int) ≤ len := by omega
  have l5 : (4 : Int) ≤ cap := by omega
  have l6 : (len : Int) ≤ cap := by omega
  have hbb : b < w.heap.size + 1 := by omega
  have hne4 : ¬ cap = 4 := by omega
  have hbne : ¬ b = w.heap.size := by omega
  have hbne' : ¬ w.heap.size = b := by omega
  go_enter Ybad.func15, Ybad.ntmps15
  go_wp2
  have hat : ∀ w, (Instr.arrayAt 41 (.slice (some ⟨b, off, none⟩) 4 cap)).run Ybad.prog w = .ok (.pointer (some ⟨b, off, none⟩)) w := fun w => run_arrayAt w 41 _ 4 _ 4 cap Ybad.underlying41 (by decide)
  go_region_held3 (fun w' => w'.cell? ⟨b, off, none⟩ = some (.int .u8 x0) ∧ w'.cell? ⟨b, off + 1, none⟩ = some (.int .u8 x1) ∧ w'.cell? ⟨b, off + 2, none⟩ = some (.int .u8 x2) ∧ w'.cell? ⟨b, off + 3, none⟩ = some (.int .u8 x3) ∧ w'.cell? ⟨b, off + 4, none⟩ = some (.int .u8 x4) ∧ w'.cell? ⟨b, off + 4 + 1, none⟩ = some (.int .u8 x5))
    (first | go_keep | exact keep6 HW3.out hb h0 h1 h2 h3 h4 h5 | exact keep6 HW2.out hb h0 h1 h2 h3 h4 h5 | exact keep6 HW1.out hb h0 h1 h2 h3 h4 h5)
    (first
      | (go_at_call 6; refine (c6 x0 x1 x2 x3 z4 z6 et ev _ (by exact Gl.alloc HG.out _) b0 b1 b2 b3).mono ?_; rintro e w1 ⟨rfl, hB1, hG1⟩; obtain ⟨hc1, hf1⟩ := bcell hB1; have hs1 : w.heap.size < w1.heap.size := (by have := hB1.size; simp at this; omega); have HW1 : Hid (Below w.heap.size w w1) := ((Below.refl _ _).alloc (Nat.le_refl _) _).drew.trans (hB1.mono (by simp)); have hb1 : b < w1.heap.size := (by omega); have HG1 : Hid (Gl z4 z6 et ev w1) := hG1; clear hG1; clear hB1)
      | (go_at_call 14; refine (c14 b (off + 4) (len - 4) (cap - 4) x4 x5 z4 z6 et ev _ (by exact HG1.out) (by omega) (by omega) ((HW1.out.cell (p := ⟨b, _, none⟩) hb).trans h4) ((HW1.out.cell (p := ⟨b, _, none⟩) hb).trans h5) b4 b5).mono ?_; rintro e w2 ⟨rfl, hB2, hG2⟩; obtain ⟨hc2, hf2⟩ := bcell hB2; have hs2 : w.heap.size < w2.heap.size := (by have := hB2.size; omega); have HW2 : Hid (Below w.heap.size w w2) := HW1.out.trans (hB2.mono (by omega)); have hb2 : b < w2.heap.size := (by omega); have HG2 : Hid (Gl z4 z6 et ev w2) := hG2; clear hG2; clear hB2)
      | (go_at_call 5; refine (c5 _ _ _ z4 z6 et ev _ _ (by exact HG2.out)).mono ?_; rintro e w3 ⟨rfl, hB3, hG3⟩; obtain ⟨hc3, hf3⟩ := bcell hB3; have hs3 : w.heap.size < w3.heap.size := (by have := hB3.size; omega); have HW3 : Hid (Below w.heap.size w w3) := HW2.out.trans (hB3.mono (by omega)); have hb3 : b < w3.heap.size := (by omega); have HG3 : Hid (Gl z4 z6 et ev w3) := hG3; clear hG3; clear hB3))
  go_wp2
  have HB4 := (((HW3.out.setCell (p := ⟨w.heap.size, 0, none⟩) (Nat.le_refl _) (.int .u64 0)).setCell (p := ⟨w.heap.size, 1, none⟩) (Nat.le_refl _) (.int .u64 (lo4 x0 x1 x2 x3))).setCell (p := ⟨w.heap.size, 2, none⟩) (Nat.le_refl _) (.pointer z4)).setCell (p := ⟨w.heap.size, 3, none⟩) (Nat.le_refl _) (.int .u16 (p16 x4 x5))
  exact bodyPost_ret (v := .agg #[.int .u64 0, .int .u64 (lo4 x0 x1 x2 x3), .pointer z4, .int .u16 (p16 x4 x5)]) (by simp [results, Ybad.results15, go_sem, hc3, hs2, hc2, hs1, hc1]) rfl ⟨rfl, HB4, Gl.below HG.out HG.out.1 HB4⟩
set_option maxHeartbeats 400000 in
theorem c7 (z4 z6 : Option Addr) (et : TypeId) (ev : Value) (w : World) (hG : Gl z4 z6 et ev w) :
    Calls Ybad.prog 7 #[] w fun e w' => ∃ g, e = .returned (.slice (some ⟨g, 0, none⟩) 1 1) ∧ w.heap.size ≤ g ∧ w'.heap[g]? = some (.cells #[.int .u64 0, .int .u64 (lo4 9 9 9 9), .pointer z4, .int .u16 9] 38) ∧ Below w.heap.size w w' ∧ Gl z4 z6 et ev w' := by
  have HG : Hid (Gl z4 z6 et ev w) := hG
  clear hG
  go_enter Ybad.func7, Ybad.ntmps7
  go_wp2_with fail
  refine (c6 9 9 9 9 z4 z6 et ev _ (by exact HG.out) b9 b9 b9 b9).mono ?_
  rintro e w1 ⟨rfl, hB1, hG1⟩
  have HG1 : Hid (Gl z4 z6 et ev w1) := hG1
  clear hG1
  go_wp2_with fail
  refine (c5 _ _ _ z4 z6 et ev _ _ (by exact HG1.out)).mono ?_
  rintro e w2 ⟨rfl, hB2, hG2⟩
  have HG2 : Hid (Gl z4 z6 et ev w2) := hG2
  clear hG2
  have hs := hB1.size
  have hs2 := hB2.size
  go_wp2
  go_ret
  exact ⟨w2.heap.size, rfl, by omega, by show (w2.heap.push _)[w2.heap.size]? = _; simp, (hB1.trans (hB2.mono (by omega))).alloc (by omega) _, Gl.alloc HG2.out _⟩

/-- The AddrPorts of l (low word, port) lie in block g, four cells each. -/
def Lie (w : World) (g : Nat) (z : Option Addr) (l : List (Int × Int)) : Prop :=
  ∀ i, i < l.length → w.cell? ⟨g, i * 4, none⟩ = some (.int .u64 0) ∧ w.cell? ⟨g, i * 4 + 1, none⟩ = some (.int .u64 (l.getD i (0, 0)).1) ∧ w.cell? ⟨g, i * 4 + 2, none⟩ = some (.pointer z) ∧ w.cell? ⟨g, i * 4 + 3, none⟩ = some (.int .u16 (l.getD i (0, 0)).2)

end Go.Proofs.YbulkdeumDoor
