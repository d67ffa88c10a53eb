/- (Service).String at protocol 0 and at a protocol that has no name. -/
import Derived.Test.YbulkdewqFmtBuild
import Derived.Test.YbulkdewqFmtShelf
import Derived.Lib.ItoaLen
import Derived.Lib.ItoaMem
namespace Go.Proofs.YbulkdewqFmt
open Go.RowKit
theorem gTab : Ybaf.prog.globalNamed "internal/strconv.uint64pow10" = some 4 := by kernel_rfl
/-- What the package-level variables on the road hold. -/
def GV (m : Nat) (o : Obj) (w : World) : Prop := 4 < w.heap.size ∧ m < w.heap.size ∧ w.cell? ⟨0, 0, none⟩ = some (.map (some m)) ∧ w.heap[m]? = some o ∧ Lib.TabIs Ybaf.prog w "internal/strconv.uint64pow10" .u64 Lib.pow10Tab
theorem GV.below {m : Nat} {o : Obj} {w w' : World} {B : Nat} (h : GV m o w) (hB : w.heap.size ≤ B) (l : Below B w w') : GV m o w' := by
  obtain ⟨h0, h1, h2, h3, h4⟩ := h
  exact ⟨Nat.lt_of_lt_of_le h0 l.size, Nat.lt_of_lt_of_le h1 l.size, (l.cell (p := ⟨0, 0, none⟩) (by show 0 < B; omega)).trans h2, (l.block m (by omega)).trans h3, var?_below l gTab (by omega) h4⟩
/-- The map of the named protocols has no empty name. -/
def NoName (m : Nat) (o : Obj) : Prop := ∀ w : World, w.heap[m]? = some o → (Instr.lookup 143 (.map (some m)) (.string ⟨#[]⟩) true).run Ybaf.prog w = .ok (.tuple #[.int .u8 0, .bool false]) w
theorem unnamed_parts {p : Int} (h : named p = false) : (p == 1) = false ∧ (p == 2) = false ∧ (p == 6) = false ∧ (p == 17) = false ∧ (p == 33) = false ∧ (p == 47) = false ∧ (p == 50) = false ∧ (p == 51) = false ∧ (p == 132) = false ∧ (p == 136) = false := by
  simpa [named, Bool.or_eq_false_iff, and_assoc] using h
set_option maxRecDepth 4000 in
theorem c28 (p : Int) (w : World) (h : named p = false) : Calls Ybaf.prog 28 #[.int .u8 p] w fun e w' => e = .returned (.string ⟨#[]⟩) ∧ w = w' := by
  obtain ⟨h1, h2, h3, h4, h5, h6, h7, h8, h9, h10⟩ := unnamed_parts h
  go_enter Ybaf.func28, Ybaf.ntmps28
  go_wp2_with fail
  go_ret
  exact ⟨rfl, rfl⟩
set_option maxRecDepth 4000 in
theorem c31 (p : Int) (w : World) (h : named p = false) : Calls Ybaf.prog 31 #[.int .u8 p] w fun e w' => e = .returned (.bool false) ∧ w = w' := by
  obtain ⟨h1, h2, h3, h4, h5, h6, h7, h8, h9, h10⟩ := unnamed_parts h
  go_enter Ybaf.func31, Ybaf.ntmps31
  go_wp2_with fail
  go_ret
  exact ⟨rfl, rfl⟩
set_option maxRecDepth 4000 in
theorem c29 (b : Nat) (s : ByteArray) (w : World) (h0 : w.cell? ⟨b, 0, none⟩ = some (.string ⟨#[]⟩)) (h1 : w.cell? ⟨b, 1, none⟩ = some (.string s)) (hs : s.toList ≠ []) :
    Calls Ybaf.prog 29 #[.slice (some ⟨b, 0, none⟩) 2 2] w fun e w' => e = .returned (.string s) ∧ w = w' := by
  have hb : b < w.heap.size := World.block_lt_of_cell? w _ h0
  have q : (s.toList == []) = false := by simpa using hs
  go_enter Ybaf.func29, Ybaf.ntmps29
  go_wp2_with fail
  go_loopw [8] (fun i wr => (i = .int .i64 0 ∨ i = .int .i64 1) ∧ wr = w) (fun i _ => 2 - (intOf i).toNat)
  case atStart => exact ⟨Or.inl rfl, rfl⟩
  case round =>
    obtain ⟨rfl | rfl, rfl⟩ := hrel
    · go_wp2_with fail
      go_roundw
      case rel => exact ⟨Or.inr rfl, by trivial⟩
      case measure => simp [intOf]
    · go_wp2_with fail
      go_ret
      exact ⟨rfl, rfl⟩
theorem c15 (p : Nat) (hp : p ≤ 255) (w : World) (hT : Lib.TabIs Ybaf.prog w "internal/strconv.uint64pow10" .u64 Lib.pow10Tab) :
    Calls Ybaf.prog 15 #[.int .i64 p] w fun e w' => e = .returned (.string ⟨(Lib.itoa p).toArray⟩) ∧ Below w.heap.size w w' := by
  refine (Ybaf.strconv_Itoa (p : Int) (by omega) (by omega) w hT).mono ?_
  rintro e w' ⟨rfl, k, os, rfl⟩
  exact ⟨rfl, rfl, rfl, rfl, by show w.heap.size ≤ (w.heap ++ os).size; rw [Array.size_append]; omega, fun j hj => by show (w.heap ++ os)[j]? = w.heap[j]?; rw [Array.getElem?_append_left hj]⟩
theorem itoa_facts (p : Nat) (hp : p ≤ 255) : (⟨(Lib.itoa p).toArray⟩ : ByteArray).toList ≠ [] ∧ (Lib.itoa p).length ≤ 21 := by
  refine ⟨?_, Lib.itoa_length_le _ (by omega) (by omega)⟩
  intro h
  rw [ByteArray.toList_eq] at h
  have h2 : (Lib.itoa p).length = 0 := by simpa using congrArg List.length h
  rw [Lib.itoa_nonneg, Lib.decDigits_length] at h2
  unfold Lib.nDigits at h2
  split at h2 <;> omega
theorem alloc_keeps {W : World} {a : Addr} {v : Value} (o : Obj) (h : W.cell? a = some v) : (W.alloc o).cell? a = some v := by
  have hb := World.block_lt_of_cell? W _ h
  rw [← h]
  exact ((Below.refl W.heap.size W).alloc (Nat.le_refl _) o).cell hb
/-- A service as a value. -/
def svc (e : Nat → Int) (p : Int) (j : Nat) : Value := .agg #[.int .u8 p, .int .u16 (e (j + 1)), .int .u16 (e (j + 2)), .int .u16 (e (j + 3)), .int .u16 (e (j + 4)), .int .u16 (e (j + 5)), .int .u16 (e (j + 6)), .int .u16 (e (j + 7)), .int .u16 (e (j + 8))]
set_option maxRecDepth 4000 in
theorem str_any (x1 x2 x3 x4 x5 x6 x7 x8 : Int) (w : World) :
    Calls Ybaf.prog 14 #[.agg #[.int .u8 0, .int .u16 x1, .int .u16 x2, .int .u16 x3, .int .u16 x4, .int .u16 x5, .int .u16 x6, .int .u16 x7, .int .u16 x8]] w fun r w' => r = .returned (.string ⟨#[97, 110, 121]⟩) ∧ Below w.heap.size w w' := by
  go_enter Ybaf.func14, Ybaf.ntmps14
  go_wp2_with fail
  go_ret
  exact ⟨rfl, (Below.refl _ _).alloc (Nat.le_refl _) _⟩
set_option maxRecDepth 4000 in
set_option maxHeartbeats 1000000 in
theorem str_num (m : Nat) (o : Obj) (hN : NoName m o) (p : Nat) (hp0 : 0 < p) (hp : p ≤ 255) (hu : named p = false) (x1 x2 x3 x4 x5 x6 x7 x8 : Int) (w : World) (hG : GV m o w) :
    Calls Ybaf.prog 14 #[.agg #[.int .u8 p, .int .u16 x1, .int .u16 x2, .int .u16 x3, .int .u16 x4, .int .u16 x5, .int .u16 x6, .int .u16 x7, .int .u16 x8]] w fun r w' => r = .returned (.string ⟨([112, 114, 111, 116, 111, 32] ++ Lib.itoa p).toArray⟩) ∧ Below w.heap.size w w' := by
  have HG : Hid (GV m o w) := hG
  have HN : Hid (NoName m o) := hN
  have HU : Hid (named p = false) := hu
  have k0 : ((p : Int) == 0) = false := by simp; omega
  have k1 : ((p : Int) == 1) = false := (unnamed_parts hu).1
  have q1 : (p : Int) ≤ 255 := by omega
  clear hG hN hu
  have g0 := HG.out.2.2.1
  have hl : ∀ o1 o2, (Instr.lookup 143 (.map (some m)) (.string ⟨#[]⟩) true).run Ybaf.prog ((w.alloc o1).alloc o2) = .ok (.tuple #[.int .u8 0, .bool false]) ((w.alloc o1).alloc o2) := fun o1 o2 =>
    HN.out _ ((((Below.refl w.heap.size w).alloc (Nat.le_refl _) o1).alloc (by simp) o2).block m HG.out.2.1 |>.trans HG.out.2.2.2.1)
  have g00 : 0 < w.heap.size := by have := HG.out.1; omega
  go_enter Ybaf.func14, Ybaf.ntmps14
  go_wp2_with (go_at_call 28; refine (c28 _ _ HU.out).mono ?_; rintro e w5 ⟨rfl, rfl⟩)
  have hB0 : ∀ o1 o2, Below w.heap.size w ((w.alloc o1).alloc o2) := fun o1 o2 => ((Below.refl w.heap.size w).alloc (Nat.le_refl _) o1).alloc (by simp) o2
  refine (c15 p hp _ (GV.below HG.out (Nat.le_refl _) (hB0 _ _)).2.2.2.2).mono ?_
  rintro e w1 ⟨rfl, hB1⟩
  have hs1 : w.heap.size + 2 ≤ w1.heap.size := by simpa using hB1.size
  have b0 : w1.cell? ⟨w.heap.size, 0, none⟩ = some (.int .u8 p) := by
    rw [hB1.cell (p := ⟨w.heap.size, 0, none⟩) (by simp; omega)]
    exact alloc_keeps _ (by rw [World.cell?_alloc_at _ _ _ _ rfl]; rfl)
  have HB1 : Hid (Below w.heap.size w w1) := (hB0 _ _).trans (hB1.mono (by simp; omega))
  obtain ⟨s, hs⟩ : ∃ s, s = (⟨(Lib.itoa p).toArray⟩ : ByteArray) := ⟨_, rfl⟩
  rw [← hs]
  have HS : Hid (s = (⟨(Lib.itoa p).toArray⟩ : ByteArray)) := hs
  have HNE : Hid (s.toList ≠ []) := by rw [hs]; exact (itoa_facts p hp).1
  have hz : w.heap.size < w1.heap.size := by omega
  clear hB1 hB0 hl hs g0
  go_wp2_with (first
    | (go_at_call 29; refine (c29 w1.heap.size s _ (by rw [World.cell?_alloc_at _ _ _ _ rfl]; rfl) (by rw [World.cell?_alloc_at _ _ _ _ rfl]; rfl) HNE.out).mono ?_; rintro e w5 ⟨rfl, rfl⟩)
    | (go_at_call 31; refine (c31 _ _ HU.out).mono ?_; rintro e w5 ⟨rfl, rfl⟩))
  have hlen : (Lib.itoa p).length ≤ 21 := (itoa_facts p hp).2
  have hj : Lib.join ([(⟨#[112, 114, 111, 116, 111]⟩ : ByteArray), s].map (·.data.toList)) (⟨#[32]⟩ : ByteArray).data.toList = [112, 114, 111, 116, 111, 32] ++ Lib.itoa p := by
    rw [HS.out]
    simp [Lib.join, List.intercalate]
  refine (Ybaf.strings_Join (w1.heap.size + 1) 0 2 [⟨#[112, 114, 111, 116, 111]⟩, s] ⟨#[32]⟩ _ ?_ (by simp) (by simp) (by simp) (by rw [hj]; simp; omega)).mono ?_
  · intro j x hx
    have h2 : j = 0 ∨ j = 1 := by
      have := (List.getElem?_eq_some_iff.1 hx).1
      simp at this
      omega
    rcases h2 with rfl | rfl
    · simp at hx
      subst hx
      rw [World.cell?_alloc_at _ _ _ _ (by simp)]
      rfl
    · simp at hx
      subst hx
      rw [World.cell?_alloc_at _ _ _ _ (by simp)]
      rfl
  · rintro e w2 ⟨rfl, hB2⟩
    rw [hj]
    have HB2 : Hid (Below w.heap.size w w2) := ((HB1.out.alloc (by omega) _).alloc (by simp; omega) _).trans (hB2.mono (by simp; omega))
    clear hB2 hj
    go_wp2_with fail
    go_ret
    exact ⟨rfl, HB2.out⟩
end Go.Proofs.YbulkdewqFmt
