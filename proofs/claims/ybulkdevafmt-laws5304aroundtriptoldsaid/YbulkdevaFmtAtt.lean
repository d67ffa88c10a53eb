/- attestationTexts; slices.Index over it; String, MarshalText and UnmarshalText of the three kinds. -/
import Derived.Test.YbulkdevaFmtRtWalk
import Derived.Laws.BytesArg
namespace Go.Proofs.YbulkdevaFmt
open Go.RowKit
/-- The three texts. -/
def nm : Nat → ByteArray
  | 0 => ⟨#[110, 111, 110, 101]⟩
  | 1 => ⟨#[101, 112, 105, 100]⟩
  | _ => ⟨#[100, 99, 97, 112]⟩
/-- What attestationTexts holds. -/
def AT (b off : Nat) (w : World) : Prop := 0 < w.heap.size ∧ b < w.heap.size ∧ w.cell? ⟨0, 0, none⟩ = some (.slice (some ⟨b, off, none⟩) 3 3) ∧ ∀ i, i < 3 → w.cell? ⟨b, off + i, none⟩ = some (.string (nm i))
theorem AT.below {b off B : Nat} {w w' : World} (h : AT b off w) (hB : w.heap.size ≤ B) (l : Below B w w') : AT b off w' := by
  obtain ⟨h0, h1, h2, h3⟩ := h
  exact ⟨Nat.lt_of_lt_of_le h0 l.size, Nat.lt_of_lt_of_le h1 l.size, (l.cell (p := ⟨0, 0, none⟩) (Nat.lt_of_lt_of_le h0 hB)).trans h2, fun i hi => (l.cell (p := ⟨b, off + i, none⟩) (Nat.lt_of_lt_of_le h1 hB)).trans (h3 i hi)⟩
theorem nm_inj {i j : Nat} (hi : i < 3) (hj : j < 3) : ((nm i).toList == (nm j).toList) = decide (i = j) := by
  have h : i = 0 ∨ i = 1 ∨ i = 2 := by omega
  have h' : j = 0 ∨ j = 1 ∨ j = 2 := by omega
  rcases h with rfl | rfl | rfl <;> rcases h' with rfl | rfl | rfl <;> decide +kernel
set_option maxRecDepth 4000 in
set_option maxHeartbeats 1000000 in
theorem idx_ok (k b off : Nat) (hk : k < 3) (w : World) (hA : AT b off w) :
    Calls Ybaf.prog 16 #[.slice (some ⟨b, off, none⟩) 3 3, .string (nm k)] w fun e w' => e = .returned (.int .i64 k) ∧ w = w' := by
  obtain ⟨g0, g1, g2, g3⟩ := hA
  have G3 : Hid _ := g3
  clear g2 g3
  go_enter Ybaf.func16, Ybaf.ntmps16
  go_wp2
  go_loopw [8] (fun i wr => ∃ j : Nat, j ≤ k ∧ i = .int .i64 j ∧ wr = w) (fun i _ => 3 - (intOf i).toNat)
  case atStart => exact ⟨0, by omega, rfl, rfl⟩
  case round =>
    obtain ⟨j, hj, rfl, rfl⟩ := hrel
    have hc := G3.out j (by omega)
    have hn := nm_inj (i := k) (j := j) hk (by omega)
    have q1 : (j : Int) < 3 := by omega
    by_cases e : k = j
    · subst e
      simp only [decide_true] at hn
      go_wp2
      go_ret
      exact ⟨rfl, rfl⟩
    · simp only [e, decide_false] at hn
      go_wp2
      go_roundw
      case rel => exact ⟨j + 1, by omega, by simp, by trivial⟩
      case measure => simp [intOf]; omega
set_option maxRecDepth 4000 in
set_option maxHeartbeats 1000000 in
/-- String. -/
theorem att_str (k b off : Nat) (hk : k < 3) (w : World) (hA : AT b off w) :
    Calls Ybaf.prog 11 #[.int .i64 k] w fun e w' => e = .returned (.string (nm k)) ∧ w = w' := by
  obtain ⟨g0, g1, g2, g3⟩ := hA
  have hc := g3 k hk
  clear g3
  have q1 : (k : Int) < 3 := by omega
  have q2 : ¬ (k : Int) < 0 := by omega
  go_enter Ybaf.func11, Ybaf.ntmps11
  go_wp2
  go_ret
  exact ⟨rfl, rfl⟩
set_option maxRecDepth 4000 in
set_option maxHeartbeats 1000000 in
/-- MarshalText. -/
theorem att_mar (k b off : Nat) (hk : k < 3) (w : World) (hA : AT b off w) :
    Calls Ybaf.prog 10 #[.int .i64 k] w fun e w' => ∃ cap, e = .returned (.tuple #[.slice (some ⟨w.heap.size, 0, none⟩) 4 cap, .nilIface]) ∧ 4 ≤ cap ∧ (cap : Int) ≤ 9223372036854775807 ∧ Below w.heap.size w w' ∧ w.heap.size < w'.heap.size ∧
      ∀ i, i < 4 → w'.cell? ⟨w.heap.size, i, none⟩ = some (.int .u8 ((((nm k).data.toList.map (fun b => (b.toNat : Int))).getD i 0))) := by
  obtain ⟨g0, g1, g2, g3⟩ := hA
  have hc := g3 k hk
  clear g3
  have q1 : (k : Int) < 3 := by omega
  have q2 : ¬ (k : Int) < 0 := by omega
  obtain ⟨s, hs⟩ : ∃ s, s = nm k := ⟨_, rfl⟩
  rw [← hs] at hc ⊢
  have hcv := Lib.run_convert_string_bytes (P := Ybaf.prog) w 9 22 5 s Ybaf.underlying9 Ybaf.underlying22 Ybaf.underlying5
  have h4 : s.size = 4 := by
    have h : k = 0 ∨ k = 1 ∨ k = 2 := by omega
    subst hs
    rcases h with rfl | rfl | rfl <;> rfl
  rw [h4] at hcv
  have H4 : Hid (s.size = 4) := h4
  clear hs h4
  go_enter Ybaf.func10, Ybaf.ntmps10
  go_wp2_with fail
  go_ret2
  have hcap := grownCap_ge w 4 0 5
  have hcap2 := grownCap_le_maxLen w 4 0 5 (by unfold maxLen; omega)
  refine ⟨_, rfl, hcap, by unfold maxLen at hcap2; omega, bytesWorld_below _ _ (Below.refl _ _) (Nat.le_refl _), by rw [Lib.bytesWorld_size]; omega, fun i hi => ?_⟩
  rw [Lib.bytesWorld_cell _ _ _ i (by rw [H4.out]; exact hi)]
  rw [List.getD_eq_getElem?_getD]
  simp only [Array.getElem?_toList]
  cases s.data[i]? <;> rfl
set_option maxRecDepth 4000 in
set_option maxHeartbeats 1000000 in
/-- UnmarshalText of one of the three texts. -/
theorem att_unm (k b off bp bb cap : Nat) (tv : Value) (hk : k < 3) (w : World) (hA : AT b off w) (_hbp : bp < w.heap.size) (hpc : w.cell? ⟨bp, 0, none⟩ = some tv) (hpf : w.frozen? ⟨bp, 0, none⟩ = false)
    (hcv : ∀ dst, Ybaf.prog.underlying dst = some .string → (convert 22 dst (.slice (some ⟨bb, 0, none⟩) 4 cap)).run Ybaf.prog w = .ok (.string (nm k)) w) :
    Calls Ybaf.prog 8 #[.pointer (some ⟨bp, 0, none⟩), .slice (some ⟨bb, 0, none⟩) 4 cap] w fun e w' => e = .returned .nilIface ∧ w' = w.setCell ⟨bp, 0, none⟩ (.int .i64 k) := by
  have hcv' := hcv 9 Ybaf.underlying9
  clear hcv
  have HA : Hid (AT b off w) := hA
  obtain ⟨g0, g1, g2, g3⟩ := hA
  clear g3
  have q2 : ¬ (k : Int) < 0 := by omega
  go_enter Ybaf.func8, Ybaf.ntmps8
  go_wp2_with fail
  refine (idx_ok k b off hk _ HA.out).mono ?_
  rintro e w1 ⟨rfl, rfl⟩
  go_wp2
  go_ret
  exact ⟨rfl, rfl⟩
/-- zzs5304aname. -/
theorem att_nm (k : Nat) (hk : k < 3) (w : World) :
    Calls Ybaf.prog 7 #[.int .i64 k] w fun e w' => e = .returned (.string (nm k)) ∧ w = w' := by
  have h : k = 0 ∨ k = 1 ∨ k = 2 := by omega
  rcases h with rfl | rfl | rfl
  all_goals
    go_enter Ybaf.func7, Ybaf.ntmps7
    go_wp2
    go_ret
    exact ⟨rfl, rfl⟩
/-- The bytes of one text, as numbers. -/
def nb (k : Nat) : List Int := (nm k).data.toList.map (fun b => (b.toNat : Int))
theorem nb_str {k : Nat} (hk : k < 3) : strOfNums (nb k) = nm k ∧ (nb k).length = 4 := by
  have h : k = 0 ∨ k = 1 ∨ k = 2 := by omega
  rcases h with rfl | rfl | rfl <;> exact ⟨by decide +kernel, by decide +kernel⟩
theorem back_str {k : Nat} (hk : k < 3) (bb cap : Nat) (w : World) (hc : ∀ i, i < 4 → w.cell? ⟨bb, i, none⟩ = some (.int .u8 ((nb k).getD i 0))) :
    ∀ dst, Ybaf.prog.underlying dst = some .string → (convert 22 dst (.slice (some ⟨bb, 0, none⟩) 4 cap)).run Ybaf.prog w = .ok (.string (nm k)) w := by
  have h := run_convert_bytes_arg (P := Ybaf.prog) w 22 5 Ybaf.underlying22 Ybaf.underlying5 bb 0 4 cap (nb k) (nb_str hk).2 (fun i hi => by rw [Nat.zero_add]; exact hc i hi)
  rw [(nb_str hk).1] at h
  exact h
set_option maxRecDepth 4000 in
set_option maxHeartbeats 1000000 in
theorem art_walk (x r0 : Int) (hx : 0 ≤ x ∧ x ≤ 255) (b off : Nat) (w : World) (hA : AT b off w) :
    Calls Ybaf.prog 4 #[.int .u8 x, .int .i64 r0] w fun e w' => e = .returned (.bool true) ∧ Below w.heap.size w w' := by
  obtain ⟨X, rfl⟩ := Int.eq_ofNat_of_zero_le hx.1
  obtain ⟨k, hk⟩ : ∃ k, k = X % 3 := ⟨_, rfl⟩
  have hk3 : k < 3 := by omega
  have hm : (X : Int).tmod 3 = (k : Int) := by rw [hk]; rfl
  have HA : Hid (AT b off w) := hA
  clear hA hk
  go_enter Ybaf.func4, Ybaf.ntmps4
  go_wp2_with fail
  clear hm
  refine (att_mar k b off hk3 _ HA.out).mono ?_
  rintro e w1 ⟨cap, rfl, hcap, hcm, hB1, hs1, hc1⟩
  have HC1 : Hid (∀ i, i < 4 → w1.cell? ⟨w.heap.size, i, none⟩ = some (.int .u8 ((nb k).getD i 0))) := hc1
  have HB1 : Hid (Below w.heap.size w w1) := hB1
  have HA1 : Hid (AT b off w1) := AT.below HA.out (Nat.le_refl _) hB1
  clear hB1 hc1 HA
  go_wp2_with fail
  have hB2 : Below w1.heap.size w1 (w1.alloc (.cells #[.int .i64 r0] 24)) := (Below.refl _ _).alloc (Nat.le_refl _) _
  have hA2 := AT.below HA1.out (Nat.le_refl _) hB2
  have hcell : (w1.alloc (.cells #[.int .i64 r0] 24)).cell? ⟨w1.heap.size, 0, none⟩ = some (.int .i64 r0) := by rw [World.cell?_alloc_at _ _ _ _ rfl]; rfl
  refine (att_unm k b off w1.heap.size w.heap.size cap (.int .i64 r0) hk3 _ hA2 (by simp) hcell (by rw [World.frozen?_alloc_at _ _ _ _ rfl])
    (back_str hk3 _ _ _ (fun i hi => (hB2.cell (p := ⟨w.heap.size, i, none⟩) hs1).trans (HC1.out i hi)))).mono ?_
  rintro e w3 ⟨rfl, hw3⟩
  have hr : w3.cell? ⟨w1.heap.size, 0, none⟩ = some (.int .i64 k) := by rw [hw3]; exact cell?_setCell_same' hcell
  have hB3 : Below w1.heap.size w1 w3 := by rw [hw3]; exact hB2.setCell (Nat.le_refl _) _
  have HB3 : Hid (Below w.heap.size w w3) := HB1.out.trans (hB3.mono (Nat.le_of_lt hs1))
  have HA3 : Hid (AT b off w3) := AT.below HA1.out (Nat.le_refl _) hB3
  have HC3 : Hid (∀ i, i < 4 → w3.cell? ⟨w.heap.size, i, none⟩ = some (.int .u8 ((nb k).getD i 0))) := fun i hi => (hB3.cell (p := ⟨w.heap.size, i, none⟩) hs1).trans (HC1.out i hi)
  have HCV : Hid (∀ w', (∀ i, i < 4 → w'.cell? ⟨w.heap.size, i, none⟩ = some (.int .u8 ((nb k).getD i 0))) → (convert 22 9 (.slice (some ⟨w.heap.size, 0, none⟩) 4 cap)).run Ybaf.prog w' = .ok (.string (nm k)) w') := fun w' h => back_str hk3 _ _ w' h 9 Ybaf.underlying9
  have HR : Hid _ := hr
  clear hw3 hcell hA2 hB2 hB3 HA1 HC1 HB1 hs1 hr
  go_wp2_with fail
  go_region_held3 (fun w' => w'.cell? ⟨w1.heap.size, 0, none⟩ = some (.int .i64 k) ∧ (convert 22 9 (.slice (some ⟨w.heap.size, 0, none⟩) 4 cap)).run Ybaf.prog w' = .ok (.string (nm k)) w')
    (first | exact ⟨HR.out, HCV.out _ HC3.out⟩ | go_keep)
    (first
      | (go_at_call 11; refine (att_str k b off hk3 _ (by exact HA3.out)).mono ?_; rintro e w5 ⟨rfl, rfl⟩)
      | (go_at_call 7; refine (att_nm k hk3 _).mono ?_; rintro e w5 ⟨rfl, rfl⟩))
  all_goals
    go_wp2
    go_ret
    exact ⟨rfl, HB3.out.drew⟩
end Go.Proofs.YbulkdevaFmt
