/- Contracts of netip's small functions and of binary.LittleEndian.Uint16, over the seat's translation. -/
import Derived.Test.YbulkdeumDoorProg
import Derived.KernelRfl
import Derived.WalkKit
import Derived.WalkSpells
import Derived.WalkLawsBesides
import Derived.BigQuiet
import Derived.Deep.QuietTactic
import Derived.Deep.RegionHeld3
import Derived.LaidEqlPtr
namespace Go.Proofs.YbulkdeumDoor
open Go.RowKit
/-- The low word of an IPv4 address. -/
def lo4 (a b c d : Int) : Int := bits .or .u64 (bits .or .u64 (bits .or .u64 (bits .or .u64 281470681743360 (a * 16777216)) (b * 65536)) (c * 256)) d
def B8 (a : Int) : Prop := 0 ≤ a ∧ a ≤ 255
theorem b0 : B8 0 := ⟨by omega, by omega⟩
theorem b9 : B8 9 := ⟨by omega, by omega⟩
/-- What the globals hold: netip's z4 and z6noz (each a pointer), wire's ErrShortBody (an error). -/
def Gl (z4 z6 : Option Addr) (et : TypeId) (ev : Value) (w : World) : Prop :=
  3 < w.heap.size ∧ w.cell? ⟨0, 0, none⟩ = some (.pointer z4) ∧ w.cell? ⟨3, 0, none⟩ = some (.pointer z6) ∧ w.cell? ⟨1, 0, none⟩ = some (.iface et ev)
theorem Gl.below {z4 z6 : Option Addr} {et : TypeId} {ev : Value} {B : Nat} {w w' : World} (h : Gl z4 z6 et ev w) (hB : 3 < B) (b : Below B w w') : Gl z4 z6 et ev w' :=
  ⟨Nat.lt_of_lt_of_le h.1 b.size, by rw [b.cell (p := ⟨0, 0, none⟩) (Nat.lt_of_le_of_lt (Nat.zero_le 3) hB)]; exact h.2.1, by rw [b.cell (p := ⟨3, 0, none⟩) hB]; exact h.2.2.1,
    by rw [b.cell (p := ⟨1, 0, none⟩) (Nat.lt_of_le_of_lt (by decide : 1 ≤ 3) hB)]; exact h.2.2.2⟩
theorem Gl.drew {z4 z6 : Option Addr} {et : TypeId} {ev : Value} {w : World} (h : Gl z4 z6 et ev w) : Gl z4 z6 et ev w.drew := h
theorem Gl.drewN {z4 z6 : Option Addr} {et : TypeId} {ev : Value} {w : World} (n : Nat) (h : Gl z4 z6 et ev w) : Gl z4 z6 et ev (w.drewN n) := h
theorem Gl.alloc {z4 z6 : Option Addr} {et : TypeId} {ev : Value} {w : World} (h : Gl z4 z6 et ev w) (o : Obj) : Gl z4 z6 et ev (w.alloc o) :=
  h.below h.1 ((Below.refl _ _).alloc (Nat.le_refl _) o)
theorem Gl.setCell {z4 z6 : Option Addr} {et : TypeId} {ev : Value} {w : World} (h : Gl z4 z6 et ev w) (a : Addr) (ha : 3 < a.block) (v : Value) : Gl z4 z6 et ev (w.setCell a v) :=
  h.below (B := 4) (by omega) ((Below.refl _ _).setCell (by omega) v)
theorem bcell {W w1 : World} (hb : Below W.heap.size W w1) : (∀ b o, b < W.heap.size → w1.cell? ⟨b, o, none⟩ = W.cell? ⟨b, o, none⟩) ∧ (∀ b o, b < W.heap.size → w1.frozen? ⟨b, o, none⟩ = W.frozen? ⟨b, o, none⟩) :=
  ⟨fun b o h => hb.cell (p := ⟨b, o, none⟩) h, fun b o h => hb.frozen (p := ⟨b, o, none⟩) h⟩
set_option maxHeartbeats 400000 in
theorem c6 (a b c d : Int) (z z6 : Option Addr) (et : TypeId) (ev : Value) (w : World) (hG : Gl z z6 et ev w)
   (ha : B8 a) (hb : B8 b) (hc : B8 c) (hd : B8 d) :
    Calls Ybad.prog 6 #[.agg #[.int .u8 a, .int .u8 b, .int .u8 c, .int .u8 d]] w fun e w' => e = .returned (.agg #[.int .u64 0, .int .u64 (lo4 a b c d), .pointer z]) ∧ Below w.heap.size w w' ∧ Gl z z6 et ev w' := by
  unfold B8 at ha hb hc hd
  have h0 : 0 < w.heap.size := Nat.lt_of_le_of_lt (Nat.zero_le 3) hG.1
  have hz := hG.2.1
  have HG : Hid (Gl z z6 et ev w) := hG
  clear hG
  go_enter Ybad.func6, Ybad.ntmps6
  go_wp2
  exact bodyPost_ret (v := .agg #[.int .u64 0, .int .u64 (lo4 a b c d), .pointer z]) (by simp [results, Ybad.results6, go_sem, lo4]) rfl ⟨rfl, ((Below.refl _ _).alloc (Nat.le_refl _) _).alloc (by simp) _, (Gl.alloc HG.out _).alloc _⟩
set_option maxHeartbeats 400000 in
theorem c5 (hi lo p : Int) (z4 z6 : Option Addr) (et : TypeId) (ev : Value) (z : Option Addr) (w : World) (hG : Gl z4 z6 et ev w) :
    Calls Ybad.prog 5 #[.agg #[.int .u64 hi, .int .u64 lo, .pointer z], .int .u16 p] w fun e w' => e = .returned (.agg #[.int .u64 hi, .int .u64 lo, .pointer z, .int .u16 p]) ∧ Below w.heap.size w w' ∧ Gl z4 z6 et ev w' := by
  have HG : Hid _ := hG
  clear hG
  go_enter Ybad.func5, Ybad.ntmps5
  go_wp2
  exact bodyPost_ret (v := .agg #[.int .u64 hi, .int .u64 lo, .pointer z, .int .u16 p]) (by simp [results, Ybad.results5, go_sem]) rfl ⟨rfl, ((Below.refl _ _).alloc (Nat.le_refl _) _).alloc (by simp) _, (Gl.alloc HG.out _).alloc _⟩
set_option maxHeartbeats 400000 in
theorem c11 (hi lo p : Int) (z4 z6 : Option Addr) (et : TypeId) (ev : Value) (z : Option Addr) (w : World) (hG : Gl z4 z6 et ev w) :
    Calls Ybad.prog 11 #[.agg #[.int .u64 hi, .int .u64 lo, .pointer z, .int .u16 p]] w fun e w' => e = .returned (.agg #[.int .u64 hi, .int .u64 lo, .pointer z]) ∧ Below w.heap.size w w' ∧ Gl z4 z6 et ev w' := by
  have HG : Hid _ := hG
  clear hG
  go_enter Ybad.func11, Ybad.ntmps11
  go_wp2
  exact bodyPost_ret (v := .agg #[.int .u64 hi, .int .u64 lo, .pointer z]) (by simp [results, Ybad.results11, go_sem]) rfl ⟨rfl, ((Below.refl _ _).alloc (Nat.le_refl _) _).alloc (by simp) _, (Gl.alloc HG.out _).alloc _⟩
set_option maxHeartbeats 400000 in
theorem c13 (hi lo p : Int) (z4 z6 : Option Addr) (et : TypeId) (ev : Value) (z : Option Addr) (w : World) (hG : Gl z4 z6 et ev w) :
    Calls Ybad.prog 13 #[.agg #[.int .u64 hi, .int .u64 lo, .pointer z, .int .u16 p]] w fun e w' => e = .returned (.int .u16 p) ∧ Below w.heap.size w w' ∧ Gl z4 z6 et ev w' := by
  have HG : Hid _ := hG
  clear hG
  go_enter Ybad.func13, Ybad.ntmps13
  go_wp2
  go_ret
  exact ⟨rfl, ((Below.refl _ _).alloc (Nat.le_refl _) _), Gl.alloc HG.out _⟩
set_option maxHeartbeats 400000 in
theorem c16 (z z6 : Option Addr) (et : TypeId) (ev : Value) (w : World) (hG : Gl z z6 et ev w) :
    Calls Ybad.prog 16 #[] w fun e w' => e = .returned (.agg #[.int .u64 0, .int .u64 (lo4 0 0 0 0), .pointer z]) ∧ Below w.heap.size w w' ∧ Gl z z6 et ev w' := by
  have HG : Hid _ := hG
  clear hG
  go_enter Ybad.func16, Ybad.ntmps16
  go_wp2_with fail
  refine (c6 0 0 0 0 z z6 et ev _ (Gl.alloc HG.out _) b0 b0 b0 b0).mono ?_
  rintro e w1 ⟨rfl, hb, hG1⟩
  obtain ⟨hc, hf⟩ := bcell hb
  clear hG1
  have HB : Below w.heap.size w w1 := ((Below.refl _ _).alloc (Nat.le_refl _) _).trans (hb.mono (by simp))
  go_wp2
  have HB2 := ((HB.setCell (p := ⟨w.heap.size, 0, none⟩) (Nat.le_refl _) (.int .u64 0)).setCell (p := ⟨w.heap.size, 1, none⟩) (Nat.le_refl _) (.int .u64 (lo4 0 0 0 0))).setCell (p := ⟨w.heap.size, 2, none⟩) (Nat.le_refl _) (.pointer z)
  exact bodyPost_ret (v := .agg #[.int .u64 0, .int .u64 (lo4 0 0 0 0), .pointer z]) (by simp [results, Ybad.results16, go_sem, hc]) rfl ⟨rfl, HB2, Gl.below HG.out HG.out.1 HB2⟩
set_option maxHeartbeats 400000 in
theorem c17 (z4 z : Option Addr) (et : TypeId) (ev : Value) (w : World) (hG : Gl z4 z et ev w) :
    Calls Ybad.prog 17 #[] w fun e w' => e = .returned (.agg #[.int .u64 0, .int .u64 0, .pointer z]) ∧ Below w.heap.size w w' ∧ Gl z4 z et ev w' := by
  have h0 : 3 < w.heap.size := hG.1
  have hz := hG.2.2.1
  have HG : Hid (Gl z4 z et ev w) := hG
  clear hG
  go_enter Ybad.func17, Ybad.ntmps17
  go_wp2
  exact bodyPost_ret (v := .agg #[.int .u64 0, .int .u64 0, .pointer z]) (by simp [results, Ybad.results17, go_sem]) rfl ⟨rfl, (Below.refl _ _).alloc (Nat.le_refl _) _, Gl.alloc HG.out _⟩
theorem isinfo : (Ybad.prog.info? (Ybad.prog.pointee 32)).isSome = true := by kernel_rfl
theorem under32 : Ybad.prog.underlying 32 = some (.pointer (Ybad.prog.pointee 32)) := by kernel_rfl
theorem eqp (z : Option Addr) (d : Nat) (w : World) : (Op.equalIn (d + 1) 32 (.pointer z) (.pointer z)).run Ybad.prog w = .ok true w := by
  cases z with
  | none => simp [Op.equalIn, run_underlying under32]
  | some a =>
    obtain ⟨i, hi⟩ := Option.isSome_iff_exists.1 isinfo
    simp [Op.equalIn, run_underlying under32, sizeOf, typeInfo, hi, run_sameAddr_same]
set_option maxHeartbeats 400000 in
theorem c12f (lo : Int) (z4 z6 : Option Addr) (et : TypeId) (ev : Value) (w : World) (hG : Gl z4 z6 et ev w)
   (h1 : (lo == lo4 0 0 0 0) = false) (h2 : (lo == 0) = false) :
    Calls Ybad.prog 12 #[.agg #[.int .u64 0, .int .u64 lo, .pointer z4]] w fun e w' => e = .returned (.bool false) ∧ Below w.heap.size w w' ∧ Gl z4 z6 et ev w' := by
  have HG : Hid (Gl z4 z6 et ev w) := hG
  clear hG
  go_enter Ybad.func12, Ybad.ntmps12
  go_wp2
  go_region_held3 (fun w' => w'.cell? ⟨w.heap.size, 0, none⟩ = some (.int .u64 0) ∧ w'.cell? ⟨w.heap.size, 1, none⟩ = some (.int .u64 lo) ∧ w'.cell? ⟨w.heap.size, 2, none⟩ = some (.pointer z4)) (first | go_keep | (simp [hc2, hs1, hc]))
    (first | (go_at_call 16; refine (c16 z4 z6 et ev _ (by exact Gl.alloc HG.out _)).mono ?_; rintro e w1 ⟨rfl, hb, hG1⟩; obtain ⟨hc, hf⟩ := bcell hb; have hs1 : w.heap.size < w1.heap.size := (by have := hb.size; simp at this; omega); have HG1 : Hid (Gl z4 z6 et ev w1) := hG1; clear hG1; have HB : Hid (Below _ _ _) := hb; clear hb) | (go_at_call 17; refine (c17 z4 z6 et ev _ (by exact HG1.out)).mono ?_; rintro e w2 ⟨rfl, hb2, hG2⟩; obtain ⟨hc2, hf2⟩ := bcell hb2))
  go_wp2
  go_ret
  exact ⟨rfl, (((Below.refl _ _).alloc (Nat.le_refl _) _).drew.trans (HB.out.mono (by simp))).trans (hb2.mono (by omega)), hG2⟩
set_option maxHeartbeats 400000 in
theorem c12t (z4 z6 : Option Addr) (et : TypeId) (ev : Value) (w : World) (hG : Gl z4 z6 et ev w) (lo : Int) (h1 : (lo == lo4 0 0 0 0) = true) :
    Calls Ybad.prog 12 #[.agg #[.int .u64 0, .int .u64 lo, .pointer z4]] w fun e w' => e = .returned (.bool true) ∧ Below w.heap.size w w' ∧ Gl z4 z6 et ev w' := by
  have HG : Hid (Gl z4 z6 et ev w) := hG
  clear hG
  have he := eqp z4
  go_enter Ybad.func12, Ybad.ntmps12
  go_wp2
  go_region_with (first | (go_at_call 16; refine (c16 z4 z6 et ev _ (by exact Gl.alloc HG.out _)).mono ?_; rintro e w1 ⟨rfl, hb, hG1⟩; obtain ⟨hc, hf⟩ := bcell hb; have hs1 : w.heap.size < w1.heap.size := (by have := hb.size; simp at this; omega)))
  all_goals go_wp2
  all_goals go_ret
  all_goals exact ⟨rfl, ((Below.refl _ _).alloc (Nat.le_refl _) _).drew.trans (hb.mono (by simp)), hG1⟩
/-- Two bytes, the low one first. -/
def p16 (x y : Int) : Int := bits .or .u16 x (y * 256)
set_option maxHeartbeats 400000 in
theorem c14 (b off len cap : Nat) (x y : Int) (z4 z6 : Option Addr) (et : TypeId) (ev : Value) (w : World) (hG : Gl z4 z6 et ev w) (hl : 2 ≤ len) (hb : b < w.heap.size)
    (hx : w.cell? ⟨b, off, none⟩ = some (.int .u8 x)) (hy : w.cell? ⟨b, off + 1, none⟩ = some (.int .u8 y)) (bx : B8 x) (by' : B8 y) :
    Calls Ybad.prog 14 #[.agg #[], .slice (some ⟨b, off, none⟩) len cap] w fun e w' => e = .returned (.int .u16 (p16 x y)) ∧ Below w.heap.size w w' ∧ Gl z4 z6 et ev w' := by
  have HG : Hid (Gl z4 z6 et ev w) := hG
  clear hG
  unfold B8 at bx by'
  have h0 : (0 : Int) < len := by omega
  have h1 : (1 : Int) < len := by omega
  go_enter Ybad.func14, Ybad.ntmps14
  go_wp2
  go_quiet (fail)
  go_wp2
  go_ret
  exact ⟨rfl, ((Below.refl _ _).alloc (Nat.le_refl _) _).trans ⟨rfl, rfl, rfl, Nat.le_refl _, fun _ _ => rfl⟩, Gl.drewN _ (Gl.alloc HG.out _)⟩
end Go.Proofs.YbulkdeumDoor
