/- Contracts of the law-file helper that compares two lists. -/
import Derived.Test.YbulkdeumDoorRead
namespace Go.Proofs.YbulkdeumDoor
open Go.RowKit
set_option maxHeartbeats 400000 in
theorem c9nil (w : World) : Calls Ybad.prog 9 #[.slice none 0 0, .slice none 0 0] w fun e w' => e = .returned (.bool true) ∧ w = w' := by
  have q25 : ∀ (w : World) (a : Option Addr) (n c n' c' : Nat), (binOp .eql 25 (.slice a n c) (.slice none n' c')).run Ybad.prog w = .ok (.bool a.isNone) w := fun w a n c n' c' => Lib.run_eql_slice_nil w _ _ a n c n' c' Ybad.underlying25
  go_enter Ybad.func9, Ybad.ntmps9
  go_wp2
  go_loop [5] (fun i => i = .int .i64 0) (fun _ => 0)
  case atStart => rfl
  case round =>
    subst hrel
    go_wp2
    go_ret
    exact ⟨rfl, rfl⟩
set_option maxHeartbeats 400000 in
theorem c9 (g h cap cap' n : Nat) (l : List (Int × Int)) (hn : l.length = n) (hm : (n : Int) ≤ 1000000) (z : Option Addr) (w : World) (h1 : Lie w g z l) (h2 : Lie w h z l) :
    Calls Ybad.prog 9 #[.slice (some ⟨g, 0, none⟩) n cap, .slice (some ⟨h, 0, none⟩) n cap'] w fun e w' => e = .returned (.bool true) ∧ ∃ n, w' = w.drewN n := by
  have q25 : ∀ (w : World) (a : Option Addr) (n c n' c' : Nat), (binOp .eql 25 (.slice a n c) (.slice none n' c')).run Ybad.prog w = .ok (.bool a.isNone) w := fun w a n c n' c' => Lib.run_eql_slice_nil w _ _ a n c n' c' Ybad.underlying25
  have he := eqp z
  go_enter Ybad.func9, Ybad.ntmps9
  go_wp2
  go_loopw [5] (fun i wr => ∃ k q : Nat, k ≤ n ∧ i = .int .i64 k ∧ wr = w.drewN q) (fun i _ => n - (intOf i).toNat)
  case atStart => exact ⟨0, 0, by omega, rfl, rfl⟩
  case round =>
    obtain ⟨k, q, hk, rfl, rfl⟩ := hrel
    by_cases hlt : k < n
    · obtain ⟨a0, a1, a2, a3⟩ := h1 k (by omega)
      obtain ⟨e0, e1, e2, e3⟩ := h2 k (by omega)
      clear h1 h2 hn
      obtain ⟨⟨x, y⟩, hxy⟩ : ∃ p, p = l.getD k (0, 0) := ⟨_, rfl⟩
      rw [← hxy] at a1 a3 e1 e3
      clear hxy
      have hkn : (k : Int) < n := by omega
      have hk0 : (0 : Int) ≤ k := by omega
      go_wp2
      go_quiet (fail)
      go_wp2
      go_roundw
      case rel => exact ⟨k + 1, _, by omega, by go_num, rfl⟩
      case measure => simp [intOf]; omega
    · go_wp2
      go_ret
      exact ⟨rfl, _, rfl⟩
end Go.Proofs.YbulkdeumDoor
