/- The law-file helpers: the table of texts, the table of sets. -/
import Derived.Test.YbulkdevaFmtParsePlain
namespace Go.Proofs.YbulkdevaFmt
open Go.RowKit
set_option maxRecDepth 4000 in
set_option maxHeartbeats 1000000 in
theorem model_any (s : ByteArray) (w : World) :
    Calls Ybaf.prog 12 #[.string s] w fun e w' => ((∃ j : Nat, j < 8 ∧ e = .returned (.int .i64 j) ∧ s.toList = tabU j) ∨ (e = .returned (.int .i64 (-1)) ∧ ∀ j, j < 8 → s.toList ≠ tabU j)) ∧ Below w.heap.size w w' := by
  go_enter Ybaf.func12, Ybaf.ntmps12
  go_wp2
  go_loop [4] (fun i => ∃ k : Nat, k ≤ 8 ∧ i = .int .i64 k ∧ ∀ j, j < k → s.toList ≠ tabU j) (fun i => 8 - (intOf i).toNat)
  case atStart => exact ⟨0, by omega, rfl, fun j hj => by omega⟩
  case round =>
    obtain ⟨k, hk, rfl, hne⟩ := hrel
    have HNE : Hid (∀ j, j < k → s.toList ≠ tabU j) := hne
    clear hne
    by_cases hk8 : k < 8
    · have hcs : k = 0 ∨ k = 1 ∨ k = 2 ∨ k = 3 ∨ k = 4 ∨ k = 5 ∨ k = 6 ∨ k = 7 := by omega
      rcases hcs with rfl | rfl | rfl | rfl | rfl | rfl | rfl | rfl
      · by_cases hl : s.toList = tabU 0
        · have HL : Hid (s.toList = tabU 0) := hl
          have hb : (s.toList == ([] : List UInt8)) = true := by rw [hl]; rfl
          have hb2 : s.toList.isEmpty = true := by rw [hl]; rfl
          clear hl
          go_wp2
          go_ret
          exact ⟨.inl ⟨0, by omega, rfl, by first | exact HL.out | rfl⟩, (Below.refl _ _).alloc (Nat.le_refl _) _⟩
        · have HL : Hid (s.toList ≠ tabU 0) := hl
          have hb : (s.toList == ([] : List UInt8)) = false := by simpa [tabU] using hl
          have hb2 : s.toList.isEmpty = false := by simpa [tabU] using hl
          clear hl
          go_wp2
          go_round
          case rel => exact ⟨0 + 1, by omega, rfl, fun j hj => by by_cases e : j = 0; (subst e; exact HL.out); exact HNE.out j (by omega)⟩
          case measure => simp [intOf]
      · by_cases hl : s.toList = tabU 1
        · have HL : Hid (s.toList = tabU 1) := hl
          have hb : (s.toList == ([114] : List UInt8)) = true := by rw [hl]; rfl
          have hb2 : s.toList = ([114] : List UInt8) := hl
          clear hl
          go_wp2
          go_ret
          exact ⟨.inl ⟨1, by omega, rfl, by first | exact HL.out | rfl⟩, (Below.refl _ _).alloc (Nat.le_refl _) _⟩
        · have HL : Hid (s.toList ≠ tabU 1) := hl
          have hb : (s.toList == ([114] : List UInt8)) = false := by simpa [tabU] using hl
          have hb2 : ¬ s.toList = ([114] : List UInt8) := hl
          clear hl
          go_wp2
          go_round
          case rel => exact ⟨1 + 1, by omega, rfl, fun j hj => by by_cases e : j = 1; (subst e; exact HL.out); exact HNE.out j (by omega)⟩
          case measure => simp [intOf]
      · by_cases hl : s.toList = tabU 2
        · have HL : Hid (s.toList = tabU 2) := hl
          have hb : (s.toList == ([119] : List UInt8)) = true := by rw [hl]; rfl
          have hb2 : s.toList = ([119] : List UInt8) := hl
          clear hl
          go_wp2
          go_ret
          exact ⟨.inl ⟨2, by omega, rfl, by first | exact HL.out | rfl⟩, (Below.refl _ _).alloc (Nat.le_refl _) _⟩
        · have HL : Hid (s.toList ≠ tabU 2) := hl
          have hb : (s.toList == ([119] : List UInt8)) = false := by simpa [tabU] using hl
          have hb2 : ¬ s.toList = ([119] : List UInt8) := hl
          clear hl
          go_wp2
          go_round
          case rel => exact ⟨2 + 1, by omega, rfl, fun j hj => by by_cases e : j = 2; (subst e; exact HL.out); exact HNE.out j (by omega)⟩
          case measure => simp [intOf]
      · by_cases hl : s.toList = tabU 3
        · have HL : Hid (s.toList = tabU 3) := hl
          have hb : (s.toList == ([120] : List UInt8)) = true := by rw [hl]; rfl
          have hb2 : s.toList = ([120] : List UInt8) := hl
          clear hl
          go_wp2
          go_ret
          exact ⟨.inl ⟨3, by omega, rfl, by first | exact HL.out | rfl⟩, (Below.refl _ _).alloc (Nat.le_refl _) _⟩
        · have HL : Hid (s.toList ≠ tabU 3) := hl
          have hb : (s.toList == ([120] : List UInt8)) = false := by simpa [tabU] using hl
          have hb2 : ¬ s.toList = ([120] : List UInt8) := hl
          clear hl
          go_wp2
          go_round
          case rel => exact ⟨3 + 1, by omega, rfl, fun j hj => by by_cases e : j = 3; (subst e; exact HL.out); exact HNE.out j (by omega)⟩
          case measure => simp [intOf]
      · by_cases hl : s.toList = tabU 4
        · have HL : Hid (s.toList = tabU 4) := hl
          have hb : (s.toList == ([114, 119] : List UInt8)) = true := by rw [hl]; rfl
          have hb2 : s.toList = ([114, 119] : List UInt8) := hl
          clear hl
          go_wp2
          go_ret
          exact ⟨.inl ⟨4, by omega, rfl, by first | exact HL.out | rfl⟩, (Below.refl _ _).alloc (Nat.le_refl _) _⟩
        · have HL : Hid (s.toList ≠ tabU 4) := hl
          have hb : (s.toList == ([114, 119] : List UInt8)) = false := by simpa [tabU] using hl
          have hb2 : ¬ s.toList = ([114, 119] : List UInt8) := hl
          clear hl
          go_wp2
          go_round
          case rel => exact ⟨4 + 1, by omega, rfl, fun j hj => by by_cases e : j = 4; (subst e; exact HL.out); exact HNE.out j (by omega)⟩
          case measure => simp [intOf]
      · by_cases hl : s.toList = tabU 5
        · have HL : Hid (s.toList = tabU 5) := hl
          have hb : (s.toList == ([114, 120] : List UInt8)) = true := by rw [hl]; rfl
          have hb2 : s.toList = ([114, 120] : List UInt8) := hl
          clear hl
          go_wp2
          go_ret
          exact ⟨.inl ⟨5, by omega, rfl, by first | exact HL.out | rfl⟩, (Below.refl _ _).alloc (Nat.le_refl _) _⟩
        · have HL : Hid (s.toList ≠ tabU 5) := hl
          have hb : (s.toList == ([114, 120] : List UInt8)) = false := by simpa [tabU] using hl
          have hb2 : ¬ s.toList = ([114, 120] : List UInt8) := hl
          clear hl
          go_wp2
          go_round
          case rel => exact ⟨5 + 1, by omega, rfl, fun j hj => by by_cases e : j = 5; (subst e; exact HL.out); exact HNE.out j (by omega)⟩
          case measure => simp [intOf]
      · by_cases hl : s.toList = tabU 6
        · have HL : Hid (s.toList = tabU 6) := hl
          have hb : (s.toList == ([119, 120] : List UInt8)) = true := by rw [hl]; rfl
          have hb2 : s.toList = ([119, 120] : List UInt8) := hl
          clear hl
          go_wp2
          go_ret
          exact ⟨.inl ⟨6, by omega, rfl, by first | exact HL.out | rfl⟩, (Below.refl _ _).alloc (Nat.le_refl _) _⟩
        · have HL : Hid (s.toList ≠ tabU 6) := hl
          have hb : (s.toList == ([119, 120] : List UInt8)) = false := by simpa [tabU] using hl
          have hb2 : ¬ s.toList = ([119, 120] : List UInt8) := hl
          clear hl
          go_wp2
          go_round
          case rel => exact ⟨6 + 1, by omega, rfl, fun j hj => by by_cases e : j = 6; (subst e; exact HL.out); exact HNE.out j (by omega)⟩
          case measure => simp [intOf]
      · by_cases hl : s.toList = tabU 7
        · have HL : Hid (s.toList = tabU 7) := hl
          have hb : (s.toList == ([114, 119, 120] : List UInt8)) = true := by rw [hl]; rfl
          have hb2 : s.toList = ([114, 119, 120] : List UInt8) := hl
          clear hl
          go_wp2
          go_ret
          exact ⟨.inl ⟨7, by omega, rfl, by first | exact HL.out | rfl⟩, (Below.refl _ _).alloc (Nat.le_refl _) _⟩
        · have HL : Hid (s.toList ≠ tabU 7) := hl
          have hb : (s.toList == ([114, 119, 120] : List UInt8)) = false := by simpa [tabU] using hl
          have hb2 : ¬ s.toList = ([114, 119, 120] : List UInt8) := hl
          clear hl
          go_wp2
          go_round
          case rel => exact ⟨7 + 1, by omega, rfl, fun j hj => by by_cases e : j = 7; (subst e; exact HL.out); exact HNE.out j (by omega)⟩
          case measure => simp [intOf]
    · have : k = 8 := by omega
      subst this
      go_wp2
      go_ret
      exact ⟨.inr ⟨rfl, HNE.out⟩, (Below.refl _ _).alloc (Nat.le_refl _) _⟩
set_option maxHeartbeats 400000 in
theorem perm_any (k : Nat) (hk : k < 8) (w : World) :
    Calls Ybaf.prog 14 #[.int .i64 k] w fun e w' => e = .returned (.int .u64 (permT k)) ∧ Below w.heap.size w w' := by
  have hcs : k = 0 ∨ k = 1 ∨ k = 2 ∨ k = 3 ∨ k = 4 ∨ k = 5 ∨ k = 6 ∨ k = 7 := by omega
  rcases hcs with rfl | rfl | rfl | rfl | rfl | rfl | rfl | rfl
  all_goals
    go_enter Ybaf.func14, Ybaf.ntmps14
    go_wp2
    go_ret
    exact ⟨rfl, (Below.refl _ _).alloc (Nat.le_refl _) _⟩
end Go.Proofs.YbulkdevaFmt
