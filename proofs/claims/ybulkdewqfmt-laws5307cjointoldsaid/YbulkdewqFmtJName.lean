/- OfficialName, ProtocolName and HasPorts at the named protocols. -/
import Derived.Test.YbulkdewqFmtStr
import Derived.Test.YbulkdewqFmtJFmt
namespace Go.Proofs.YbulkdewqFmt
open Go.RowKit
/-- What packet.protocolNames holds. -/
def PN (b off c : Nat) (w : World) : Prop := b < w.heap.size ∧ 3 < w.heap.size ∧ w.cell? ⟨3, 0, none⟩ = some (.slice (some ⟨b, off, none⟩) 56 c) ∧ ∀ k, k < 56 → w.cell? ⟨b, off + k * 2, none⟩ = some (.string (nm k)) ∧ w.cell? ⟨b, off + k * 2 + 1, none⟩ = some (.int .u8 (nu k))
theorem PN.below {b off c B : Nat} {w w' : World} (h : PN b off c w) (hB : w.heap.size ≤ B) (l : Below B w w') : PN b off c w' := by
  obtain ⟨h0, h1, h2, h3⟩ := h
  refine ⟨Nat.lt_of_lt_of_le h0 l.size, Nat.lt_of_lt_of_le h1 l.size, (l.cell (p := ⟨3, 0, none⟩) (Nat.lt_of_lt_of_le h1 hB)).trans h2, fun k hk => ?_⟩
  exact ⟨(l.cell (p := ⟨b, off + k * 2, none⟩) (Nat.lt_of_lt_of_le h0 hB)).trans (h3 k hk).1, (l.cell (p := ⟨b, off + k * 2 + 1, none⟩) (Nat.lt_of_lt_of_le h0 hB)).trans (h3 k hk).2⟩
set_option maxRecDepth 4000 in
theorem c69 (s : ByteArray) (z p : Int) (B : Nat) (w : World) (hc : w.cell? ⟨B, 0, none⟩ = some (.int .u8 p)) :
    Calls Ybaf.prog 69 #[.agg #[.string s, .int .u8 z], .pointer (some ⟨B, 0, none⟩)] w fun e w' => e = .returned (.bool (z == p)) ∧ Below w.heap.size w w' := by
  have hB : B < w.heap.size := World.block_lt_of_cell? w _ hc
  go_enter Ybaf.func69, Ybaf.ntmps69
  go_wp2_with fail
  go_ret
  exact ⟨rfl, (Below.refl _ _).alloc (Nat.le_refl _) _⟩
set_option maxRecDepth 4000 in
theorem c68 (b off c B k : Nat) (p : Int) (w : World) (hP : PN b off c w) (hc : w.cell? ⟨B, 0, none⟩ = some (.int .u8 p)) (hk : k < 56) (he : nu k = p) (hn : ∀ j, j < k → nu j ≠ p) :
    Calls Ybaf.prog 68 #[.slice (some ⟨b, off, none⟩) 56 c, .func (.func 69) #[] #[.pointer (some ⟨B, 0, none⟩)]] w fun e w' => e = .returned (.int .i64 k) ∧ Below w.heap.size w w' := by
  have HP : Hid (PN b off c w) := hP
  have hB : B < w.heap.size := World.block_lt_of_cell? w _ hc
  clear hP
  go_enter Ybaf.func68, Ybaf.ntmps68
  go_wp2_with fail
  go_loopw [8] (fun i wr => ∃ j : Nat, j ≤ k ∧ i = .int .i64 j ∧ Below w.heap.size w wr) (fun i _ => 56 - (intOf i).toNat)
  case atStart => exact ⟨0, by omega, rfl, Below.refl _ _⟩
  case round =>
    obtain ⟨j, hj, rfl, hBr⟩ := hrel
    have HB : Hid (Below w.heap.size w wr) := hBr
    have hPr := PN.below HP.out (Nat.le_refl _) hBr
    obtain ⟨g0, g1⟩ := hPr.2.2.2 j (by omega)
    have hb := hPr.1
    have hcr : wr.cell? ⟨B, 0, none⟩ = some (.int .u8 p) := (hBr.cell (p := ⟨B, 0, none⟩) hB).trans hc
    clear hPr hBr
    have q : (j : Int) < 56 := by omega
    go_wp2_with (go_at_call 69; refine (c69 _ _ p B _ hcr).mono ?_; rintro e w5 ⟨rfl, hB5⟩; have HB5 : Hid (Below wr.heap.size wr w5) := hB5; clear hB5)
    · have hq : (nu j == p) = true := by assumption
      have hjk : j = k := by
        rcases Nat.lt_or_ge j k with h | h
        · exact absurd (by simpa using hq) (hn j h)
        · omega
      subst hjk
      go_ret
      exact ⟨rfl, HB.out.trans (HB5.out.mono HB.out.size)⟩
    · have hq : (nu j == p) = false := by assumption
      have hjk : j ≠ k := by
        rintro rfl
        simp [he] at hq
      go_roundw
      case rel => exact ⟨j + 1, by omega, by go_num, HB.out.trans (HB5.out.mono HB.out.size)⟩
      case measure => simp [intOf]; omega
set_option maxRecDepth 4000 in
theorem c49 (b off c : Nat) (p : Int) (w : World) (hP : PN b off c w) (hp : named p = true) :
    Calls Ybaf.prog 49 #[.int .u8 p] w fun e w' => e = .returned (.string (nm (ix p))) ∧ Below w.heap.size w w' := by
  obtain ⟨hk, he, hn, _, _⟩ := ix_named hp
  have HP : Hid (PN b off c w) := hP
  have HN : Hid (∀ j, j < ix p → nu j ≠ p) := hn
  have g3 := hP.2.2.1
  have h3 := hP.2.1
  obtain ⟨k, hkk⟩ : ∃ k, k = ix p := ⟨_, rfl⟩
  rw [← hkk] at hk he ⊢
  have HK : Hid (k = ix p) := hkk
  clear hP hn hkk hp
  have q : (k : Int) < 56 := by omega
  have hBa : ∀ o, Below w.heap.size w (w.alloc o) := fun o => (Below.refl _ _).alloc (Nat.le_refl _) o
  go_enter Ybaf.func49, Ybaf.ntmps49
  go_wp2_with fail
  refine (c68 b off c w.heap.size k p _ (PN.below HP.out (Nat.le_refl _) (hBa _)) (by rw [World.cell?_alloc_at _ _ _ _ rfl]; rfl) hk he (by rw [HK.out]; exact HN.out)).mono ?_
  rintro e w1 ⟨rfl, hB1⟩
  have HB1 : Hid (Below w.heap.size w w1) := (hBa _).trans (hB1.mono (by simp))
  have hP1 := PN.below HP.out (Nat.le_refl _) HB1.out
  have f3 := hP1.2.2.1
  have f0 := (hP1.2.2.2 k hk).1
  have hb1 := hP1.1
  have h31 := hP1.2.1
  clear hP1 hB1 hBa g3 h3
  go_wp2_with fail
  go_ret
  exact ⟨rfl, HB1.out⟩
set_option maxRecDepth 4000 in
theorem c28n (b off c : Nat) (p : Int) (w : World) (hP : PN b off c w) (hp : named p = true) :
    Calls Ybaf.prog 28 #[.int .u8 p] w fun e w' => e = .returned (.string (nm (ix p))) ∧ Below w.heap.size w w' := by
  have HP : Hid (PN b off c w) := hP
  have HN : Hid (named p = true) := hp
  have HC := c49 b off c p w HP.out HN.out
  rcases named_ten hp with rfl | rfl | rfl | rfl | rfl | rfl | rfl | rfl | rfl | rfl
  all_goals
    clear hP hp
    go_enter Ybaf.func28, Ybaf.ntmps28
    go_wp2_with fail
    refine HC.mono ?_
    rintro e w1 ⟨rfl, hB1⟩
    go_wp2_with fail
    go_ret
    exact ⟨rfl, hB1⟩
set_option maxRecDepth 4000 in
theorem c31n (p : Int) (w : World) (h : named p = true) : Calls Ybaf.prog 31 #[.int .u8 p] w fun e w' => e = .returned (.bool (hp p)) ∧ w = w' := by
  rcases named_ten h with rfl | rfl | rfl | rfl | rfl | rfl | rfl | rfl | rfl | rfl
  all_goals
    go_enter Ybaf.func31, Ybaf.ntmps31
    go_wp2_with fail
    go_ret
    exact ⟨rfl, rfl⟩
end Go.Proofs.YbulkdewqFmt
