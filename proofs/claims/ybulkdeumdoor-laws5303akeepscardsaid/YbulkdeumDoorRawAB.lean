/- The law on raw bodies: the two ways on which the body is too short. -/
import Derived.Test.YbulkdeumDoorParts
namespace Go.Proofs.YbulkdeumDoor
open Go.RowKit
theorem Lie.drew {w : World} {g : Nat} {z : Option Addr} {l : List (Int × Int)} (h : Lie w g z l) : Lie w.drew g z l := h
set_option maxRecDepth 4000 in
set_option maxHeartbeats 400000 in
theorem rawA (a0 : Option Addr) (len cap : Nat) (bs : Nat → Int) (z4 z6 : Option Addr) (et : TypeId) (ev : Value) (w : World) (hG : Gl z4 z6 et ev w) (hb : Bytes w a0 len cap bs) (hl : len < 2) :
    Calls Ybad.prog 4 #[.slice a0 len cap] w fun e w' => e = .returned (.bool true) ∧ Below w.heap.size w w' := by
  have HG : Hid (Gl z4 z6 et ev w) := hG
  have HBy : Hid (Bytes w a0 len cap bs) := hb
  obtain ⟨C0, hC0, hmk⟩ := make5 len len (Nat.le_refl _) (by omega)
  have HC0 : Hid (C0.size = len) := hC0
  obtain ⟨ZP, hZP⟩ := peer_built
  have HZP : Hid (Ybad.prog.built 118 [] = some ZP) := hZP
  clear hG hb hC0 hZP
  go_enter Ybad.func4, Ybad.ntmps4
  go_wp2_with (refine wpList_copy_splice rfl (.tmp 18) (.tmp 19) 23 23 rfl 5 Ybad.underlying23 size5 (some ⟨w.heap.size, 0, none⟩) a0 len len len cap rfl rfl w.heap.size 0 C0.toList 5 (alloc_heap _ _ _) (bcs bs len) (by rw [bcs_length]; exact (Nat.min_self _).symm) (copy_pos HBy.out _) (by rw [bcs_length]; simp [HC0.out]) (bcs_one _ _) w.heap.size w ((Below.refl _ _).alloc (Nat.le_refl _) _) (Nat.le_refl _) ?_)
  intro w1 hbl1 hB1
  have hs1 : w.heap.size < w1.heap.size := (Array.getElem?_eq_some_iff.1 hbl1.out).1
  rw [splice_all _ _ (by rw [bcs_length]; simp [HC0.out])] at hbl1
  have HB1 : Hid (Below w.heap.size w w1) := hB1
  have HG1 : Hid (Gl z4 z6 et ev w1) := Gl.below HG.out HG.out.1 hB1
  clear hB1 hmk HC0
  go_wp2_with fail
  refine (c7 z4 z6 et ev _ (by exact HG1.out)).mono ?_
  rintro e w2 ⟨g7, rfl, hg7, hL7, hB2, hG2⟩
  have hs2 := hB2.size
  have hg7' : g7 < w2.heap.size := (Array.getElem?_eq_some_iff.1 hL7).1
  have HL7 : Hid (Lie w2 g7 z4 sen) := lie_sen hL7
  have HB2 : Hid (Below w.heap.size w w2) := HB1.out.trans (hB2.mono (by omega))
  have HG2 : Hid (Gl z4 z6 et ev w2) := hG2
  have HBL2 : Hid (∀ i, i < len → w2.cell? ⟨w.heap.size, i, none⟩ = some (.int .u8 (bs i))) := fun i hi => (hB2.cell (p := ⟨w.heap.size, i, none⟩) hs1).trans (cells_of_bcs hbl1.out i hi)
  obtain ⟨L, hLb, hL19⟩ := link_built (some ⟨g7, 0, none⟩) 1 1
  have HLb : Hid (Ybad.prog.built 55 [(11, .slice (some ⟨g7, 0, none⟩) 1 1)] = some L) := hLb
  obtain ⟨M, hMb, hM19⟩ := msg_built (some ⟨w.heap.size, 0, none⟩) len len
  have HMb : Hid (Ybad.prog.built 122 [(4, .slice (some ⟨w.heap.size, 0, none⟩) len len)] = some M) := hMb
  clear hB2 hG2 hL7 hLb hMb hbl1 HB1 HG1
  go_wp2_with (first
    | (refine wpList_build1 rfl 55 11 (.tmp 22) rfl (.slice (some ⟨g7, 0, none⟩) 1 1) (by rfl) L HLb.out ?_)
    | (refine wpList_build0 rfl 118 rfl ZP HZP.out ?_)
    | (refine wpList_build1 rfl 122 4 (.tmp 29) rfl (.slice (some ⟨w.heap.size, 0, none⟩) len len) (by rfl) M HMb.out ?_)
    | fail)
  have HB3 : Hid (Below w.heap.size w ((w2.alloc (.cells L 55)).alloc (.cells ZP 118))) := (HB2.out.alloc HB2.out.size _).alloc (by have := HB2.out.size; simp; omega) _
  have HG3 : Hid (Gl z4 z6 et ev ((w2.alloc (.cells L 55)).alloc (.cells ZP 118))) := (Gl.alloc HG2.out _).alloc _
  have hlk : ((w2.alloc (.cells L 55)).alloc (.cells ZP 118)).cell? ⟨w2.heap.size, 19, none⟩ = some (.slice (some ⟨g7, 0, none⟩) 1 1) := by
    rw [World.cell?_alloc_past _ _ _ (by simp), World.cell?_alloc_at _ _ _ _ rfl]; exact hL19
  have HL3 : Hid (Lie ((w2.alloc (.cells L 55)).alloc (.cells ZP 118)) g7 z4 sen) := Lie.below (HL7.out) (((Below.refl _ _).alloc (Nat.le_refl _) _).alloc (by simp) _) hg7'
  refine (c8err _ _ w.heap.size len len M z4 z6 et ev _ (by exact HG3.out) hM19 (fun wx _ hgx => c10short w.heap.size len len z4 z6 et ev wx hgx hl)).mono ?_
  rintro e w4 ⟨rfl, hB4, hG4⟩
  have hs4 : w2.heap.size + 2 ≤ w4.heap.size := by have := hB4.size; simpa using this
  have hlk4 : w4.cell? ⟨w2.heap.size, 19, none⟩ = some (.slice (some ⟨g7, 0, none⟩) 1 1) := (hB4.cell (p := ⟨w2.heap.size, 19, none⟩) (by simp; omega)).trans hlk
  have HL4 : Hid (Lie w4 g7 z4 sen) := Lie.below HL3.out hB4 (by simp; omega)
  have HB4 : Hid (Below w.heap.size w w4) := HB3.out.trans (hB4.mono HB3.out.size)
  have HG4 : Hid (Gl z4 z6 et ev w4) := hG4
  clear hB4 hG4 HG3 HB3 hlk HL3 HL7 HG2 HLb HMb HZP hM19 hL19
  go_wp2
  go_region_held3 (fun w' => w'.cell? ⟨w2.heap.size, 19, none⟩ = some (.slice (some ⟨g7, 0, none⟩) 1 1)) (first | go_keep | exact (hB5.cell (p := ⟨w2.heap.size, 19, none⟩) (by show w2.heap.size < w4.heap.size; omega)).trans hlk4)
    (first
      | (go_at_call 7; refine (c7 z4 z6 et ev _ (by exact HG4.out)).mono ?_; rintro e w5 ⟨g8, rfl, hg8, hL8, hB5, hG5⟩; have HL8 : Hid (Lie w5 g8 z4 sen) := lie_sen hL8; have HL5 : Hid (Lie w5 g7 z4 sen) := Lie.below (Lie.drew HL4.out) hB5 (by show g7 < w4.heap.size; omega); have HB5 : Hid (Below w.heap.size w w5) := HB4.out.drew.trans (hB5.mono HB4.out.size))
      | (go_at_call 9; refine (c9 g7 g8 1 1 1 sen rfl (by omega) z4 _ HL5.out HL8.out).mono ?_; rintro e w6 ⟨rfl, nq, rfl⟩))
  go_wp2
  go_ret
  exact ⟨rfl, HB5.out.trans ⟨rfl, rfl, rfl, Nat.le_refl _, fun _ _ => rfl⟩⟩
theorem Lie.drewN {w : World} {g : Nat} {z : Option Addr} {l : List (Int × Int)} (n : Nat) (h : Lie w g z l) : Lie (w.drewN n) g z l := h
theorem below_drewN' {B : Nat} {a w : World} (n : Nat) (h : Below B a w) : Below B a (w.drewN n) := ⟨h.os, h.tape, h.output, h.size, h.block⟩
theorem i64_or_nat (a b : Nat) (ha : a < 256) (hb : b < 256) : bits .or .i64 (a : Int) ((b : Int) * 256) = ((a + b * 256 : Nat) : Int) := by
  show IntKind.i64.wrap ((BitVec.ofInt 64 (a : Int) ||| BitVec.ofInt 64 ((b : Int) * 256)).toNat : Int) = _
  have e : ((b : Int) * 256) = ((b * 256 : Nat) : Int) := by omega
  rw [e, BitVec.toNat_or, ofInt_u64 a (by omega), ofInt_u64 (b * 256) (by omega), Nat.or_comm, nat_join 8 _ _ (by omega) (by omega)]
  simp [IntKind.wrap, IntKind.bits, IntKind.signed]
  omega
theorem i64_or (x y : Int) (hx : B8 x) (hy : B8 y) : bits .or .i64 x (y * 256) = p16 x y := by
  rw [p16_sum x y hx hy]
  unfold B8 at hx hy
  obtain ⟨a, rfl⟩ := Int.eq_ofNat_of_zero_le hx.1
  obtain ⟨b, rfl⟩ := Int.eq_ofNat_of_zero_le hy.1
  rw [i64_or_nat a b (by omega) (by omega)]
  omega
set_option maxRecDepth 4000 in
set_option maxHeartbeats 800000 in
theorem rawB (b off len cap n : Nat) (bs : Nat → Int) (z4 z6 : Option Addr) (et : TypeId) (ev : Value) (w : World) (hG : Gl z4 z6 et ev w) (hb : Bytes w (some ⟨b, off, none⟩) len cap bs) (hbw : b < w.heap.size)
    (hcell : ∀ i, i < len → w.cell? ⟨b, off + i, none⟩ = some (.int .u8 (bs i))) (hl : 2 ≤ len) (hl2 : (len : Int) ≤ 131072) (hn : p16 (bs 0) (bs 1) = n) (hn1 : n ≤ 65535) (hsh : len < 2 + 6 * n) :
    Calls Ybad.prog 4 #[.slice (some ⟨b, off, none⟩) len cap] w fun e w' => e = .returned (.bool true) ∧ Below w.heap.size w w' := by
  have hB8 := hb.2.1
  have hor : bits .or .i64 (bs 0) (bs 1 * 256) = n := (i64_or _ _ (hB8 0) (hB8 1)).trans hn
  have HN : Hid (p16 (bs 0) (bs 1) = n) := hn
  have HCE : Hid _ := hcell
  have hB0 : 0 ≤ bs 0 ∧ bs 0 ≤ 255 := hB8 0
  have hB1' : 0 ≤ bs 1 ∧ bs 1 ≤ 255 := hB8 1
  have HB8 : Hid (∀ i, B8 (bs i)) := hB8
  clear hn hcell hB8
  have HG : Hid (Gl z4 z6 et ev w) := hG
  have HBy : Hid (Bytes w (some ⟨b, off, none⟩) len cap bs) := hb
  obtain ⟨C0, hC0, hmk⟩ := make5 len len (Nat.le_refl _) (by omega)
  have HC0 : Hid (C0.size = len) := hC0
  obtain ⟨ZP, hZP⟩ := peer_built
  have HZP : Hid (Ybad.prog.built 118 [] = some ZP) := hZP
  clear hG hb hC0 hZP
  go_enter Ybad.func4, Ybad.ntmps4
  go_wp2_with (refine wpList_copy_splice rfl (.tmp 18) (.tmp 19) 23 23 rfl 5 Ybad.underlying23 size5 (some ⟨w.heap.size, 0, none⟩) (some ⟨b, off, none⟩) len len len cap rfl rfl w.heap.size 0 C0.toList 5 (alloc_heap _ _ _) (bcs bs len) (by rw [bcs_length]; exact (Nat.min_self _).symm) (copy_pos HBy.out _) (by rw [bcs_length]; simp [HC0.out]) (bcs_one _ _) w.heap.size w ((Below.refl _ _).alloc (Nat.le_refl _) _) (Nat.le_refl _) ?_)
  intro w1 hbl1 hB1
  have hs1 : w.heap.size < w1.heap.size := (Array.getElem?_eq_some_iff.1 hbl1.out).1
  rw [splice_all _ _ (by rw [bcs_length]; simp [HC0.out])] at hbl1
  have HB1 : Hid (Below w.heap.size w w1) := hB1
  have HG1 : Hid (Gl z4 z6 et ev w1) := Gl.below HG.out HG.out.1 hB1
  clear hB1 hmk HC0
  go_wp2_with fail
  refine (c7 z4 z6 et ev _ (by exact HG1.out)).mono ?_
  rintro e w2 ⟨g7, rfl, hg7, hL7, hB2, hG2⟩
  have hs2 := hB2.size
  have hg7' : g7 < w2.heap.size := (Array.getElem?_eq_some_iff.1 hL7).1
  have HL7 : Hid (Lie w2 g7 z4 sen) := lie_sen hL7
  have HB2 : Hid (Below w.heap.size w w2) := HB1.out.trans (hB2.mono (by omega))
  have HG2 : Hid (Gl z4 z6 et ev w2) := hG2
  have HBL2 : Hid (∀ i, i < len → w2.cell? ⟨w.heap.size, i, none⟩ = some (.int .u8 (bs i))) := fun i hi => (hB2.cell (p := ⟨w.heap.size, i, none⟩) hs1).trans (cells_of_bcs hbl1.out i hi)
  obtain ⟨L, hLb, hL19⟩ := link_built (some ⟨g7, 0, none⟩) 1 1
  have HLb : Hid (Ybad.prog.built 55 [(11, .slice (some ⟨g7, 0, none⟩) 1 1)] = some L) := hLb
  obtain ⟨M, hMb, hM19⟩ := msg_built (some ⟨w.heap.size, 0, none⟩) len len
  have HMb : Hid (Ybad.prog.built 122 [(4, .slice (some ⟨w.heap.size, 0, none⟩) len len)] = some M) := hMb
  clear hB2 hG2 hL7 hLb hMb hbl1 HB1 HG1
  go_wp2_with (first
    | (refine wpList_build1 rfl 55 11 (.tmp 22) rfl (.slice (some ⟨g7, 0, none⟩) 1 1) (by rfl) L HLb.out ?_)
    | (refine wpList_build0 rfl 118 rfl ZP HZP.out ?_)
    | (refine wpList_build1 rfl 122 4 (.tmp 29) rfl (.slice (some ⟨w.heap.size, 0, none⟩) len len) (by rfl) M HMb.out ?_)
    | fail)
  have HB3 : Hid (Below w.heap.size w ((w2.alloc (.cells L 55)).alloc (.cells ZP 118))) := (HB2.out.alloc HB2.out.size _).alloc (by have := HB2.out.size; simp; omega) _
  have HG3 : Hid (Gl z4 z6 et ev ((w2.alloc (.cells L 55)).alloc (.cells ZP 118))) := (Gl.alloc HG2.out _).alloc _
  have hlk : ((w2.alloc (.cells L 55)).alloc (.cells ZP 118)).cell? ⟨w2.heap.size, 19, none⟩ = some (.slice (some ⟨g7, 0, none⟩) 1 1) := by
    rw [World.cell?_alloc_past _ _ _ (by simp), World.cell?_alloc_at _ _ _ _ rfl]; exact hL19
  have HL3 : Hid (Lie ((w2.alloc (.cells L 55)).alloc (.cells ZP 118)) g7 z4 sen) := Lie.below (HL7.out) (((Below.refl _ _).alloc (Nat.le_refl _) _).alloc (by simp) _) hg7'
  refine (c8err _ _ w.heap.size len len M z4 z6 et ev _ (by exact HG3.out) hM19 (fun wx hbx hgx => c10short2 w.heap.size len len n bs z4 z6 et ev wx hgx hl (by have := hbx.size; simp at this; omega)
    ((hbx.cell (p := ⟨w.heap.size, 0, none⟩) (by simp; omega)).trans ((World.cell?_alloc_past _ _ _ (by simp; omega)).trans ((World.cell?_alloc_past _ _ _ (by omega)).trans (HBL2.out 0 (by omega)))))
    ((hbx.cell (p := ⟨w.heap.size, 0 + 1, none⟩) (by simp; omega)).trans ((World.cell?_alloc_past _ _ _ (by simp; omega)).trans ((World.cell?_alloc_past _ _ _ (by omega)).trans (HBL2.out 1 (by omega)))))
    (HB8.out 0) (HB8.out 1) HN.out hn1 hsh)).mono ?_
  rintro e w4 ⟨rfl, hB4, hG4⟩
  have hs4 : w2.heap.size + 2 ≤ w4.heap.size := by have := hB4.size; simpa using this
  have hlk4 : w4.cell? ⟨w2.heap.size, 19, none⟩ = some (.slice (some ⟨g7, 0, none⟩) 1 1) := (hB4.cell (p := ⟨w2.heap.size, 19, none⟩) (by simp; omega)).trans hlk
  have HL4 : Hid (Lie w4 g7 z4 sen) := Lie.below HL3.out hB4 (by simp; omega)
  have HB4 : Hid (Below w.heap.size w w4) := HB3.out.trans (hB4.mono HB3.out.size)
  have HG4 : Hid (Gl z4 z6 et ev w4) := hG4
  have q0 : w4.cell? ⟨b, off, none⟩ = some (.int .u8 (bs 0)) := (HB4.out.cell (p := ⟨b, off, none⟩) hbw).trans (HCE.out 0 (by omega))
  have q1 : w4.cell? ⟨b, off + 1, none⟩ = some (.int .u8 (bs 1)) := (HB4.out.cell (p := ⟨b, off + 1, none⟩) hbw).trans (HCE.out 1 (by omega))
  clear hB4 hG4 HG3 HB3 hlk HL3 HL7 HG2 HLb HMb HZP hM19 hL19
  have r0 : (0 : Int) < len := by omega
  have r1 : (1 : Int) < len := by omega
  go_wp2
  go_quiet (fail)
  go_wp2
  go_region_held3 (fun w' => w'.cell? ⟨w2.heap.size, 19, none⟩ = some (.slice (some ⟨g7, 0, none⟩) 1 1)) (first | go_keep | exact (hB5.cell (p := ⟨w2.heap.size, 19, none⟩) (by show w2.heap.size < w4.heap.size; omega)).trans hlk4)
    (first
      | (go_at_call 7; refine (c7 z4 z6 et ev _ (by exact HG4.out)).mono ?_; rintro e w5 ⟨g8, rfl, hg8, hL8, hB5, hG5⟩; have HL8 : Hid (Lie w5 g8 z4 sen) := lie_sen hL8; have HL5 : Hid (Lie w5 g7 z4 sen) := Lie.below (Lie.drew (Lie.drewN _ HL4.out)) hB5 (by show g7 < w4.heap.size; omega); have HB5 : Hid (Below w.heap.size w w5) := (below_drewN' _ HB4.out).drew.trans (hB5.mono HB4.out.size))
      | (go_at_call 9; refine (c9 g7 g8 1 1 1 sen rfl (by omega) z4 _ HL5.out HL8.out).mono ?_; rintro e w6 ⟨rfl, nq', rfl⟩))
  go_wp2
  go_ret
  exact ⟨rfl, HB5.out.trans ⟨rfl, rfl, rfl, Nat.le_refl _, fun _ _ => rfl⟩⟩
theorem cell?_setCell_same' {w : World} {b o : Nat} {u v : Value} (h : w.cell? ⟨b, o, none⟩ = some u) : (w.setCell ⟨b, o, none⟩ v).cell? ⟨b, o, none⟩ = some v := by
  unfold World.cell? at h
  split at h
  · rename_i c t fr hb
    have ho : o < c.size := by
      simp only [Option.isSome_none, Bool.false_eq_true, if_false] at h
      exact (Array.getElem?_eq_some_iff.1 h).1
    have hb' : w.heap[b]? = some (.cells c t fr) := hb
    simp [World.cell?, heap_setCell_at hb' o v, ho]
  · cases h
end Go.Proofs.YbulkdeumDoor
