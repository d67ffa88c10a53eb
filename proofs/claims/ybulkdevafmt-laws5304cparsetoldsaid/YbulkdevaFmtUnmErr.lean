/- (*Perm).UnmarshalText, where it refuses. -/
import Derived.Test.YbulkdevaFmtErr
namespace Go.Proofs.YbulkdevaFmt
open Go.RowKit Go.Extern.Stop Go.Stop Go.Extern
def xsOf (bs : Nat → Int) (n : Nat) : List Int := (List.range n).map bs
theorem xs_len (bs : Nat → Int) (n : Nat) : (xsOf bs n).length = n := by simp [xsOf]
theorem xs_at (bs : Nat → Int) (n j : Nat) (v : Value) (h : ((xsOf bs n).map (Value.int .u8))[j]? = some v) : j < n ∧ v = .int .u8 (bs j) := by
  have hj : j < n := by
    have := (List.getElem?_eq_some_iff.1 h).1
    simpa [xsOf] using this
  refine ⟨hj, ?_⟩
  simp [xsOf, hj] at h
  exact h.symm
theorem addr_add (b off i : Nat) : (⟨b, off, none⟩ : Addr).add i = ⟨b, off + i, none⟩ := by
  unfold Addr.add; split <;> simp_all
set_option maxRecDepth 4000 in
set_option maxHeartbeats 1000000 in
theorem unm_err (F : Interp) (bp : Nat) (a : Option Addr) (n cap : Nat) (bs : Nat → Int) (w : World) (hF : F.answers w.tape) (hP : PL w) (hT : Txt w a n bs) (hnc : n ≤ cap) (hm : (cap : Int) ≤ 9223372036854775807)
    (hbad : (st bs n 3).2 < n) :
    Calls Ybaf.prog 13 #[.pointer (some ⟨bp, 0, none⟩), .slice a n cap] w fun e w' => (∃ et ev, e = .returned (.iface et ev)) ∧ Below w.heap.size w w' := by
  have i0 := Ybaf.idx0
  have i1 := Ybaf.idx1
  have i2 := Ybaf.idx2
  have HP : Hid (PL w) := hP
  have HT : Hid (Txt w a n bs) := hT
  have HOK : Hid _ := hbad
  obtain ⟨g0, g1, g2, g3, g4, g5, g6⟩ := hP
  clear hT hbad
  go_enter Ybaf.func13, Ybaf.ntmps13
  go_wp2
  clear g0 g1 g2 g3 g4 g5 g6
  go_loopw [5, 6, 11] (fun v r i wr => ∃ k : Nat, k ≤ 3 ∧ i = .int .i64 k ∧ v = .int .u64 (st bs n k).1 ∧ (∃ a', r = .slice a' (n - (st bs n k).2) (cap - (st bs n k).2) ∧ Rest a a' (st bs n k).2 n) ∧ Below w.heap.size w wr) (fun _ _ i _ => 3 - (intOf i).toNat)
  case atStart => exact ⟨0, by omega, rfl, rfl, ⟨a, rfl, fun _ b off h => h⟩, Below.refl _ _⟩
  case round =>
    obtain ⟨k, hk, rfl, rfl, ⟨a', rfl, hR⟩, hB⟩ := hrel
    have hle := st_le bs n k
    by_cases hk3 : k < 3
    · have hst : st bs n (k + 1) = stp bs n k (st bs n k) := rfl
      obtain ⟨v, d, hvd⟩ : ∃ v d, st bs n k = (v, d) := ⟨_, _, rfl⟩
      rw [hvd] at hst hR hle
      rw [hvd]
      simp only at hR hle ⊢
      have HS : Hid (st bs n (k + 1) = stp bs n k (v, d)) := hst
      have HB : Hid (Below w.heap.size w wr) := hB
      have HR : Hid (Rest a a' d n) := hR
      clear hst hvd hB hR
      have h012 : k = 0 ∨ k = 1 ∨ k = 2 := by omega
      by_cases hd : d < n
      · obtain ⟨b, off, rfl, hlt, hc⟩ := HT.out (by omega)
        obtain rfl := HR.out hd b off rfl
        have hcd : wr.cell? ⟨b, off + d, none⟩ = some (.int .u8 (bs d)) := (HB.out.cell (p := ⟨b, off + d, none⟩) hlt).trans (hc d hd)
        have hbr : b < wr.heap.size := by have := HB.out.size; omega
        clear hc
        obtain ⟨m, hmd⟩ : ∃ m, m = n - d := ⟨_, rfl⟩
        obtain ⟨c, hcd2⟩ : ∃ c, c = cap - d := ⟨_, rfl⟩
        rw [← hmd, ← hcd2]
        have HM : Hid (m = n - d ∧ c = cap - d) := ⟨hmd, hcd2⟩
        have q1 : (0 : Int) < (m : Int) := by omega
        have q1' : 0 < m := by omega
        have q2 : (1 : Int) ≤ (m : Int) := by omega
        have q3 : (m : Int) ≤ (c : Int) := by omega
        have q4 : (c : Int) ≤ 9223372036854775807 := by omega
        clear hmd hcd2
        rcases h012 with rfl | rfl | rfl
        · by_cases hl : (bs d == 114) = true
          · have hS : Hid (st bs n (0 + 1) = (bits .or .u64 v 1, d + 1)) := HS.out.trans (stp_hit hd (by simpa [lett] using hl))
            by_cases hc1 : c = 1
            all_goals
              go_wp2
              go_quiet (fail)
              go_wp2
              go_roundw
              case rel => exact ⟨0 + 1, by omega, rfl, by rw [hS.out], ⟨_, by rw [hS.out]; exact slice_eq (by have := HM.out; omega) (by have := HM.out; omega), by rw [hS.out]; intro h1 b2 off2 e2; first | (exfalso; have := HM.out; omega) | (cases e2; rfl)⟩, below_drewN' _ (HB.out.alloc HB.out.size _)⟩
              case measure => simp [intOf]
          · have hl' : (bs d == 114) = false := by simpa using hl
            have hS : Hid (st bs n (0 + 1) = (v, d)) := HS.out.trans (stp_miss (by simpa [lett] using hl))
            go_wp2
            go_quiet (fail)
            go_wp2
            go_roundw
            case rel => exact ⟨0 + 1, by omega, rfl, by rw [hS.out], ⟨_, by rw [hS.out]; exact slice_eq HM.out.1 HM.out.2, by rw [hS.out]; exact HR.out⟩, below_drewN' _ (HB.out.alloc HB.out.size _)⟩
            case measure => simp [intOf]
        · by_cases hl : (bs d == 119) = true
          · have hS : Hid (st bs n (1 + 1) = (bits .or .u64 v 2, d + 1)) := HS.out.trans (stp_hit hd (by simpa [lett] using hl))
            by_cases hc1 : c = 1
            all_goals
              go_wp2
              go_quiet (fail)
              go_wp2
              go_roundw
              case rel => exact ⟨1 + 1, by omega, rfl, by rw [hS.out], ⟨_, by rw [hS.out]; exact slice_eq (by have := HM.out; omega) (by have := HM.out; omega), by rw [hS.out]; intro h1 b2 off2 e2; first | (exfalso; have := HM.out; omega) | (cases e2; rfl)⟩, below_drewN' _ (HB.out.alloc HB.out.size _)⟩
              case measure => simp [intOf]
          · have hl' : (bs d == 119) = false := by simpa using hl
            have hS : Hid (st bs n (1 + 1) = (v, d)) := HS.out.trans (stp_miss (by simpa [lett] using hl))
            go_wp2
            go_quiet (fail)
            go_wp2
            go_roundw
            case rel => exact ⟨1 + 1, by omega, rfl, by rw [hS.out], ⟨_, by rw [hS.out]; exact slice_eq HM.out.1 HM.out.2, by rw [hS.out]; exact HR.out⟩, below_drewN' _ (HB.out.alloc HB.out.size _)⟩
            case measure => simp [intOf]
        · by_cases hl : (bs d == 120) = true
          · have hS : Hid (st bs n (2 + 1) = (bits .or .u64 v 4, d + 1)) := HS.out.trans (stp_hit hd (by simpa [lett] using hl))
            by_cases hc1 : c = 1
            all_goals
              go_wp2
              go_quiet (fail)
              go_wp2
              go_roundw
              case rel => exact ⟨2 + 1, by omega, rfl, by rw [hS.out], ⟨_, by rw [hS.out]; exact slice_eq (by have := HM.out; omega) (by have := HM.out; omega), by rw [hS.out]; intro h1 b2 off2 e2; first | (exfalso; have := HM.out; omega) | (cases e2; rfl)⟩, below_drewN' _ (HB.out.alloc HB.out.size _)⟩
              case measure => simp [intOf]
          · have hl' : (bs d == 120) = false := by simpa using hl
            have hS : Hid (st bs n (2 + 1) = (v, d)) := HS.out.trans (stp_miss (by simpa [lett] using hl))
            go_wp2
            go_quiet (fail)
            go_wp2
            go_roundw
            case rel => exact ⟨2 + 1, by omega, rfl, by rw [hS.out], ⟨_, by rw [hS.out]; exact slice_eq HM.out.1 HM.out.2, by rw [hS.out]; exact HR.out⟩, below_drewN' _ (HB.out.alloc HB.out.size _)⟩
            case measure => simp [intOf]
      · obtain ⟨c, hcd2⟩ : ∃ c, c = cap - d := ⟨_, rfl⟩
        have hz : n - d = 0 := by omega
        rw [hz, ← hcd2]
        have HM : Hid (0 = n - d ∧ c = cap - d) := ⟨hz.symm, hcd2⟩
        clear hz hcd2
        rcases h012 with rfl | rfl | rfl
        · have hS : Hid (st bs n (0 + 1) = (v, d)) := HS.out.trans (stp_out hd)
          go_wp2
          go_quiet (fail)
          go_wp2
          go_roundw
          case rel => exact ⟨0 + 1, by omega, rfl, by rw [hS.out], ⟨_, by rw [hS.out]; exact slice_eq HM.out.1 HM.out.2, by rw [hS.out]; exact HR.out⟩, below_drewN' _ (HB.out.alloc HB.out.size _)⟩
          case measure => simp [intOf]
        · have hS : Hid (st bs n (1 + 1) = (v, d)) := HS.out.trans (stp_out hd)
          go_wp2
          go_quiet (fail)
          go_wp2
          go_roundw
          case rel => exact ⟨1 + 1, by omega, rfl, by rw [hS.out], ⟨_, by rw [hS.out]; exact slice_eq HM.out.1 HM.out.2, by rw [hS.out]; exact HR.out⟩, below_drewN' _ (HB.out.alloc HB.out.size _)⟩
          case measure => simp [intOf]
        · have hS : Hid (st bs n (2 + 1) = (v, d)) := HS.out.trans (stp_out hd)
          go_wp2
          go_quiet (fail)
          go_wp2
          go_roundw
          case rel => exact ⟨2 + 1, by omega, rfl, by rw [hS.out], ⟨_, by rw [hS.out]; exact slice_eq HM.out.1 HM.out.2, by rw [hS.out]; exact HR.out⟩, below_drewN' _ (HB.out.alloc HB.out.size _)⟩
          case measure => simp [intOf]
    · have : k = 3 := by omega
      subst this
      have HB : Hid (Below w.heap.size w wr) := hB
      have hd : (st bs n 3).2 < n := HOK.out
      obtain ⟨b, off, rfl, hlt, hc⟩ := HT.out (by omega)
      obtain ⟨m, hmd⟩ : ∃ m, m = n - (st bs n 3).2 := ⟨_, rfl⟩
      obtain ⟨c, hcd2⟩ : ∃ c, c = cap - (st bs n 3).2 := ⟨_, rfl⟩
      rw [← hmd, ← hcd2]
      have q1 : (0 : Int) < (m : Int) := by omega
      have hFr : F.answers wr.tape := by rw [hB.tape]; exact hF
      have HFr : Hid (F.answers wr.tape) := hFr
      have HX : Hid (∀ (o : Obj) j v, ((xsOf bs n).map (Value.int .u8))[j]? = some v → (wr.alloc o).cell? ((⟨b, off, none⟩ : Addr).add j) = some v) := by
        intro o j v hj
        obtain ⟨hjn, rfl⟩ := xs_at bs n j v hj
        rw [addr_add, World.cell?_alloc_past _ _ _ (by have := hB.size; omega)]
        exact (hB.cell (p := ⟨b, off + j, none⟩) hlt).trans (hc j hjn)
      clear hB hR hle hmd hcd2 hc hd hFr hF
      go_wp2_with fail
      have hn : (xsOf bs n).length = n := xs_len bs n
      rw [← hn]
      refine (errf F ⟨b, off, none⟩ cap wr.heap.size (xsOf bs n) _ (by exact HFr.out) (World.cell?_alloc_at _ _ _ _ rfl) (HX.out _)).mono ?_
      rintro e w3 ⟨⟨et, ev, rfl⟩, hB3⟩
      have HB3 : Hid (Below w.heap.size w w3) := (HB.out.alloc HB.out.size _).trans (hB3.mono (by have := HB.out.size; simp; omega))
      clear hB3
      go_wp2
      go_ret
      exact ⟨⟨_, _, rfl⟩, HB3.out⟩
end Go.Proofs.YbulkdevaFmt
