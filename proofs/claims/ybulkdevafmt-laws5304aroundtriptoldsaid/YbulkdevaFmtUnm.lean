/- (*Perm).UnmarshalText, where it accepts. -/
import Derived.Test.YbulkdevaFmtProg
import Derived.KernelRfl
import Derived.WalkKit
import Derived.WalkSpells
import Derived.WalkLawsBesides
import Derived.BigQuiet
import Derived.Deep.QuietTactic
import Derived.Deep.RegionHeld3
import Derived.OpenShut
namespace Go.Proofs.YbulkdevaFmt
open Go.RowKit
/-- What permLetters holds. -/
def PL (w : World) : Prop := 1 < w.heap.size ∧ w.cell? ⟨1, 0, none⟩ = some (.int .u8 114) ∧ w.cell? ⟨1, 1, none⟩ = some (.int .u64 1) ∧ w.cell? ⟨1, 2, none⟩ = some (.int .u8 119) ∧ w.cell? ⟨1, 3, none⟩ = some (.int .u64 2) ∧ w.cell? ⟨1, 4, none⟩ = some (.int .u8 120) ∧ w.cell? ⟨1, 5, none⟩ = some (.int .u64 4)
theorem PL.below {B : Nat} {w w' : World} (h : PL w) (hB : 1 < B) (b : Below B w w') : PL w' := by
  obtain ⟨h0, h1, h2, h3, h4, h5, h6⟩ := h
  exact ⟨Nat.lt_of_lt_of_le h0 b.size, (b.cell (p := ⟨1, 0, none⟩) hB).trans h1, (b.cell (p := ⟨1, 1, none⟩) hB).trans h2, (b.cell (p := ⟨1, 2, none⟩) hB).trans h3, (b.cell (p := ⟨1, 3, none⟩) hB).trans h4, (b.cell (p := ⟨1, 4, none⟩) hB).trans h5, (b.cell (p := ⟨1, 5, none⟩) hB).trans h6⟩
def lett (k : Nat) : Int := [114, 119, 120].getD k 0
def prm (k : Nat) : Int := [1, 2, 4].getD k 0
/-- One letter of the text: taken if it stands next. -/
def stp (bs : Nat → Int) (n : Nat) (k : Nat) (s : Int × Nat) : Int × Nat := if s.2 < n ∧ bs s.2 = lett k then (bits .or .u64 s.1 (prm k), s.2 + 1) else s
/-- The set read so far and the letters consumed, after k letters have been tried. -/
def st (bs : Nat → Int) (n : Nat) : Nat → Int × Nat
  | 0 => (0, 0)
  | k + 1 => stp bs n k (st bs n k)
theorem st_le (bs : Nat → Int) (n : Nat) : ∀ k, (st bs n k).2 ≤ n
  | 0 => Nat.zero_le _
  | k + 1 => by
    have ih := st_le bs n k
    simp only [st, stp]
    split
    · rename_i h; exact h.1
    · exact ih
/-- A text that is handed in. -/
def Txt (w : World) (a : Option Addr) (n : Nat) (bs : Nat → Int) : Prop := 0 < n → ∃ b off, a = some ⟨b, off, none⟩ ∧ b < w.heap.size ∧ ∀ i, i < n → w.cell? ⟨b, off + i, none⟩ = some (.int .u8 (bs i))
theorem Txt.below {w w' : World} {a : Option Addr} {n : Nat} {bs : Nat → Int} (h : Txt w a n bs) (b : Below w.heap.size w w') : Txt w' a n bs := by
  intro hn
  obtain ⟨b0, off, ha, hlt, hc⟩ := h hn
  exact ⟨b0, off, ha, Nat.lt_of_lt_of_le hlt b.size, fun i hi => (b.cell (p := ⟨b0, off + i, none⟩) hlt).trans (hc i hi)⟩
/-- What is left of the text. -/
def Rest (a a' : Option Addr) (d n : Nat) : Prop := d < n → ∀ b off, a = some ⟨b, off, none⟩ → a' = some ⟨b, off + d, none⟩
theorem Ybaf.idx0 : ∀ w, (Instr.index 49 (.agg #[.int .u8 114, .int .u64 1, .int .u8 119, .int .u64 2, .int .u8 120, .int .u64 4]) (.int .i64 0)).run Ybaf.prog w = .ok (.agg #[.int .u8 114, .int .u64 1]) w := fun _ => by kernel_rfl
theorem Ybaf.idx1 : ∀ w, (Instr.index 49 (.agg #[.int .u8 114, .int .u64 1, .int .u8 119, .int .u64 2, .int .u8 120, .int .u64 4]) (.int .i64 1)).run Ybaf.prog w = .ok (.agg #[.int .u8 119, .int .u64 2]) w := fun _ => by kernel_rfl
theorem Ybaf.idx2 : ∀ w, (Instr.index 49 (.agg #[.int .u8 114, .int .u64 1, .int .u8 119, .int .u64 2, .int .u8 120, .int .u64 4]) (.int .i64 2)).run Ybaf.prog w = .ok (.agg #[.int .u8 120, .int .u64 4]) w := fun _ => by kernel_rfl
theorem slice_eq {a : Option Addr} {l c l' c' : Nat} (h1 : l = l') (h2 : c = c') : Value.slice a l c = .slice a l' c' := by rw [h1, h2]
theorem stp_hit {bs : Nat → Int} {n k d : Nat} {v : Int} (hd : d < n) (hl : bs d = lett k) : stp bs n k (v, d) = (bits .or .u64 v (prm k), d + 1) := by simp [stp, hd, hl]
theorem stp_miss {bs : Nat → Int} {n k d : Nat} {v : Int} (hl : ¬ bs d = lett k) : stp bs n k (v, d) = (v, d) := by simp [stp, hl]
theorem stp_out {bs : Nat → Int} {n k d : Nat} {v : Int} (hd : ¬ d < n) : stp bs n k (v, d) = (v, d) := by simp [stp, hd]
theorem below_drewN' {B : Nat} {a w : World} (n : Nat) (h : Below B a w) : Below B a (w.drewN n) := ⟨h.os, h.tape, h.output, h.size, h.block⟩
set_option maxRecDepth 4000 in
set_option maxHeartbeats 1000000 in
theorem unm_ok (bp : Nat) (a : Option Addr) (n cap : Nat) (bs : Nat → Int) (tv : Value) (w : World) (hP : PL w) (hT : Txt w a n bs) (_hb8 : ∀ i, 0 ≤ bs i ∧ bs i ≤ 255) (hnc : n ≤ cap) (hm : (cap : Int) ≤ 9223372036854775807)
    (hbp : bp < w.heap.size) (hpc : w.cell? ⟨bp, 0, none⟩ = some tv) (hpf : w.frozen? ⟨bp, 0, none⟩ = false) (hok : (st bs n 3).2 = n) :
    Calls Ybaf.prog 13 #[.pointer (some ⟨bp, 0, none⟩), .slice a n cap] w fun e w' => e = .returned .nilIface ∧ ∃ wm, w' = wm.setCell ⟨bp, 0, none⟩ (.int .u64 (st bs n 3).1) ∧ Below w.heap.size w wm := by
  have i0 := Ybaf.idx0
  have i1 := Ybaf.idx1
  have i2 := Ybaf.idx2
  have HP : Hid (PL w) := hP
  have HT : Hid (Txt w a n bs) := hT
  have HOK : Hid _ := hok
  obtain ⟨g0, g1, g2, g3, g4, g5, g6⟩ := hP
  clear hT hok
  go_enter Ybaf.func13, Ybaf.ntmps13
  go_wp2
  clear g0 g1 g2 g3 g4 g5 g6
  go_loopw [5, 6, 11] (fun v r i wr => ∃ k : Nat, k ≤ 3 ∧ i = .int .i64 k ∧ v = .int .u64 (st bs n k).1 ∧ (∃ a', r = .slice a' (n - (st bs n k).2) (cap - (st bs n k).2) ∧ Rest a a' (st bs n k).2 n) ∧ Below w.heap.size w wr) (fun _ _ i _ => 3 - (intOf i).toNat)
  case atStart => exact ⟨0, by omega, rfl, rfl, ⟨a, rfl, fun _ b off h => h⟩, Below.refl _ _⟩
  case round =>
    obtain ⟨k, hk, rfl, rfl, ⟨a', rfl, hR⟩, hB⟩ := hrel
    have hle := st_le bs n k
    by_cases hk3 : k < 3
    · have hst : st bs n (k + 1) = stp bs n k (st bs n k) := rfl
      obtain ⟨v, d, hvd⟩ : ∃ v d, st bs n k = (v, d) := ⟨_, _, rfl⟩
      rw [hvd] at hst hR hle
      rw [hvd]
      simp only at hR hle ⊢
      have HS : Hid (st bs n (k + 1) = stp bs n k (v, d)) := hst
      have HB : Hid (Below w.heap.size w wr) := hB
      have HR : Hid (Rest a a' d n) := hR
      clear hst hvd hB hR
      have h012 : k = 0 ∨ k = 1 ∨ k = 2 := by omega
      by_cases hd : d < n
      · obtain ⟨b, off, rfl, hlt, hc⟩ := HT.out (by omega)
        obtain rfl := HR.out hd b off rfl
        have hcd : wr.cell? ⟨b, off + d, none⟩ = some (.int .u8 (bs d)) := (HB.out.cell (p := ⟨b, off + d, none⟩) hlt).trans (hc d hd)
        have hbr : b < wr.heap.size := by have := HB.out.size; omega
        clear hc
        obtain ⟨m, hmd⟩ : ∃ m, m = n - d := ⟨_, rfl⟩
        obtain ⟨c, hcd2⟩ : ∃ c, c = cap - d := ⟨_, rfl⟩
        rw [← hmd, ← hcd2]
        have HM : Hid (m = n - d ∧ c = cap - d) := ⟨hmd, hcd2⟩
        have q1 : (0 : Int) < (m : Int) := by omega
        have q1' : 0 < m := by omega
        have q2 : (1 : Int) ≤ (m : Int) := by omega
        have q3 : (m : Int) ≤ (c : Int) := by omega
        have q4 : (c : Int) ≤ 9223372036854775807 := by omega
        clear hmd hcd2
        rcases h012 with rfl | rfl | rfl
        · by_cases hl : (bs d == 114) = true
          · have hS : Hid (st bs n (0 + 1) = (bits .or .u64 v 1, d + 1)) := HS.out.trans (stp_hit hd (by simpa [lett] using hl))
            by_cases hc1 : c = 1
            all_goals
              go_wp2
              go_quiet (fail)
              go_wp2
              go_roundw
              case rel => exact ⟨0 + 1, by omega, rfl, by rw [hS.out], ⟨_, by rw [hS.out]; exact slice_eq (by have := HM.out; omega) (by have := HM.out; omega), by rw [hS.out]; intro h1 b2 off2 e2; first | (exfalso; have := HM.out; omega) | (cases e2; rfl)⟩, below_drewN' _ (HB.out.alloc HB.out.size _)⟩
              case measure => simp [intOf]
          · have hl' : (bs d == 114) = false := by simpa using hl
            have hS : Hid (st bs n (0 + 1) = (v, d)) := HS.out.trans (stp_miss (by simpa [lett] using hl))
            go_wp2
            go_quiet (fail)
            go_wp2
            go_roundw
            case rel => exact ⟨0 + 1, by omega, rfl, by rw [hS.out], ⟨_, by rw [hS.out]; exact slice_eq HM.out.1 HM.out.2, by rw [hS.out]; exact HR.out⟩, below_drewN' _ (HB.out.alloc HB.out.size _)⟩
            case measure => simp [intOf]
        · by_cases hl : (bs d == 119) = true
          · have hS : Hid (st bs n (1 + 1) = (bits .or .u64 v 2, d + 1)) := HS.out.trans (stp_hit hd (by simpa [lett] using hl))
            by_cases hc1 : c = 1
            all_goals
              go_wp2
              go_quiet (fail)
              go_wp2
              go_roundw
              case rel => exact ⟨1 + 1, by omega, rfl, by rw [hS.out], ⟨_, by rw [hS.out]; exact slice_eq (by have := HM.out; omega) (by have := HM.out; omega), by rw [hS.out]; intro h1 b2 off2 e2; first | (exfalso; have := HM.out; omega) | (cases e2; rfl)⟩, below_drewN' _ (HB.out.alloc HB.out.size _)⟩
              case measure => simp [intOf]
          · have hl' : (bs d == 119) = false := by simpa using hl
            have hS : Hid (st bs n (1 + 1) = (v, d)) := HS.out.trans (stp_miss (by simpa [lett] using hl))
            go_wp2
            go_quiet (fail)
            go_wp2
            go_roundw
            case rel => exact ⟨1 + 1, by omega, rfl, by rw [hS.out], ⟨_, by rw [hS.out]; exact slice_eq HM.out.1 HM.out.2, by rw [hS.out]; exact HR.out⟩, below_drewN' _ (HB.out.alloc HB.out.size _)⟩
            case measure => simp [intOf]
        · by_cases hl : (bs d == 120) = true
          · have hS : Hid (st bs n (2 + 1) = (bits .or .u64 v 4, d + 1)) := HS.out.trans (stp_hit hd (by simpa [lett] using hl))
            by_cases hc1 : c = 1
            all_goals
              go_wp2
              go_quiet (fail)
              go_wp2
              go_roundw
              case rel => exact ⟨2 + 1, by omega, rfl, by rw [hS.out], ⟨_, by rw [hS.out]; exact slice_eq (by have := HM.out; omega) (by have := HM.out; omega), by rw [hS.out]; intro h1 b2 off2 e2; first | (exfalso; have := HM.out; omega) | (cases e2; rfl)⟩, below_drewN' _ (HB.out.alloc HB.out.size _)⟩
              case measure => simp [intOf]
          · have hl' : (bs d == 120) = false := by simpa using hl
            have hS : Hid (st bs n (2 + 1) = (v, d)) := HS.out.trans (stp_miss (by simpa [lett] using hl))
            go_wp2
            go_quiet (fail)
            go_wp2
            go_roundw
            case rel => exact ⟨2 + 1, by omega, rfl, by rw [hS.out], ⟨_, by rw [hS.out]; exact slice_eq HM.out.1 HM.out.2, by rw [hS.out]; exact HR.out⟩, below_drewN' _ (HB.out.alloc HB.out.size _)⟩
            case measure => simp [intOf]
      · obtain ⟨c, hcd2⟩ : ∃ c, c = cap - d := ⟨_, rfl⟩
        have hz : n - d = 0 := by omega
        rw [hz, ← hcd2]
        have HM : Hid (0 = n - d ∧ c = cap - d) := ⟨hz.symm, hcd2⟩
        clear hz hcd2
        rcases h012 with rfl | rfl | rfl
        · have hS : Hid (st bs n (0 + 1) = (v, d)) := HS.out.trans (stp_out hd)
          go_wp2
          go_quiet (fail)
          go_wp2
          go_roundw
          case rel => exact ⟨0 + 1, by omega, rfl, by rw [hS.out], ⟨_, by rw [hS.out]; exact slice_eq HM.out.1 HM.out.2, by rw [hS.out]; exact HR.out⟩, below_drewN' _ (HB.out.alloc HB.out.size _)⟩
          case measure => simp [intOf]
        · have hS : Hid (st bs n (1 + 1) = (v, d)) := HS.out.trans (stp_out hd)
          go_wp2
          go_quiet (fail)
          go_wp2
          go_roundw
          case rel => exact ⟨1 + 1, by omega, rfl, by rw [hS.out], ⟨_, by rw [hS.out]; exact slice_eq HM.out.1 HM.out.2, by rw [hS.out]; exact HR.out⟩, below_drewN' _ (HB.out.alloc HB.out.size _)⟩
          case measure => simp [intOf]
        · have hS : Hid (st bs n (2 + 1) = (v, d)) := HS.out.trans (stp_out hd)
          go_wp2
          go_quiet (fail)
          go_wp2
          go_roundw
          case rel => exact ⟨2 + 1, by omega, rfl, by rw [hS.out], ⟨_, by rw [hS.out]; exact slice_eq HM.out.1 HM.out.2, by rw [hS.out]; exact HR.out⟩, below_drewN' _ (HB.out.alloc HB.out.size _)⟩
          case measure => simp [intOf]
    · have : k = 3 := by omega
      subst this
      have HB : Hid (Below w.heap.size w wr) := hB
      have hz : n - (st bs n 3).2 = 0 := by have := HOK.out; omega
      have hbr : bp < wr.heap.size := by have := hB.size; omega
      have hpc' : wr.cell? ⟨bp, 0, none⟩ = some tv := (hB.cell (p := ⟨bp, 0, none⟩) hbp).trans hpc
      have hpf' : wr.frozen? ⟨bp, 0, none⟩ = false := (hB.frozen (p := ⟨bp, 0, none⟩) hbp).trans hpf
      rw [hz]
      obtain ⟨c, hcd2⟩ : ∃ c, c = cap - (st bs n 3).2 := ⟨_, rfl⟩
      rw [← hcd2]
      clear hB hR hle hz hcd2
      go_wp2
      go_ret
      exact ⟨rfl, _, rfl, HB.out⟩
end Go.Proofs.YbulkdevaFmt
