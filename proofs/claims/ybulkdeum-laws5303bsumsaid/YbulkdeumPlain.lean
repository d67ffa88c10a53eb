/- The plain side of 'LawS5303BSum': wrapping sums; the block that holds the simulator's cells. -/
import Derived.Test.YbulkdeumProg
import Derived.KernelRfl
import Derived.WalkKit
import Derived.WalkSpells
import Derived.WalkLawsBesides
namespace Go.Proofs.Ybulkdeum
open Go.RowKit

/-- Go's wrapping sum of the first n values of f. -/
def sumTo (f : Nat → Int) : Nat → Int
  | 0 => 0
  | n + 1 => wrap64 (sumTo f n + f n)

theorem sumTo_wrap (f : Nat → Int) (n : Nat) : wrap64 (sumTo f n) = sumTo f n := by
  cases n with
  | zero => simp only [sumTo]; unfold wrap64; omega
  | succ n => simp only [sumTo]; unfold wrap64; omega

theorem sumTo_congr {f g : Nat → Int} : ∀ n : Nat, (∀ j, j < n → f j = g j) → sumTo f n = sumTo g n
  | 0, _ => rfl
  | n + 1, h => by
    simp only [sumTo]
    rw [sumTo_congr n (fun j hj => h j (by omega)), h n (by omega)]

/-- Values beyond k are zero: the sum stops there. -/
theorem sumTo_cut (f : Nat → Int) (k : Nat) : ∀ n : Nat, k ≤ n → sumTo (fun j => if j < k then f j else 0) n = sumTo f k
  | 0, h => by have : k = 0 := by omega
               subst this; rfl
  | n + 1, h => by
    by_cases e : k = n + 1
    · subst e
      exact sumTo_congr _ (fun j hj => by simp [hj])
    · have ih := sumTo_cut f k n (by omega)
      simp only [sumTo]
      rw [ih, if_neg (by omega), Int.add_zero, sumTo_wrap]

theorem wrap_add_wrap (a b : Int) : wrap64 (wrap64 a + b) = wrap64 (a + b) := by
  unfold wrap64; omega
theorem wrap_add_wrap' (a b : Int) : wrap64 (a + wrap64 b) = wrap64 (a + b) := by
  unfold wrap64; omega

/-- One value raised by one: the sum is raised by one. -/
theorem sumTo_bump (f : Nat → Int) (k : Nat) : ∀ n : Nat, k < n → sumTo (fun j => if j = k then wrap64 (f k + 1) else f j) n = wrap64 (sumTo f n + 1)
  | 0, h => by omega
  | n + 1, h => by
    by_cases e : k = n
    · subst e
      simp only [sumTo, if_true]
      rw [sumTo_congr (g := f) k (fun j hj => by rw [if_neg (by omega)])]
      unfold wrap64; omega
    · have ih := sumTo_bump f k n (by omega)
      simp only [sumTo]
      rw [ih, if_neg (by omega)]
      unfold wrap64; omega

/-! The simulator's block -/
def isZero : Option Value → Bool
  | some (.int .i64 n) => n == 0
  | _ => false
theorem isZero_eq {o : Option Value} (h : isZero o = true) : o = some (.int .i64 0) := by
  unfold isZero at h
  split at h
  · simp at h; subst h; rfl
  · cases h
def zCheck : Option (Array Value) → Bool
  | some Z => Z.size == 5652 && (List.range 64).all fun j => isZero Z[103 + j * 85 + 4]?
  | none => false
set_option maxRecDepth 100000 in
theorem zChecked : zCheck (Yba.prog.built 121 []) = true := by kernel_rfl
theorem zero_sim : ∃ Z : Array Value, Yba.prog.built 121 [] = some Z ∧ Z.size = 5652 ∧ ∀ j, j < 64 → Z[103 + j * 85 + 4]? = some (.int .i64 0) := by
  have h := zChecked
  cases hb : Yba.prog.built 121 [] with
  | none => rw [hb] at h; cases h
  | some Z =>
    rw [hb] at h
    simp only [zCheck, Bool.and_eq_true, beq_iff_eq, List.all_eq_true, List.mem_range] at h
    exact ⟨Z, rfl, h.1, fun j hj => isZero_eq (h.2 j hj)⟩

/-- 'The simulator lies in block w.heap.size of wr, its handlers' flying counts are f; nothing that was there before has turned.' -/
def Inv (w wr : World) (f : Nat → Int) : Prop :=
  Below w.heap.size w wr ∧ ∃ C : Array Value, wr.heap[w.heap.size]? = some (.cells C 121 (0, 0)) ∧ C.size = 5652 ∧ ∀ j, j < 64 → C[103 + j * 85 + 4]? = some (.int .i64 (f j))

theorem Inv.cell {w wr : World} {f : Nat → Int} (h : Inv w wr f) {j : Nat} (hj : j < 64) : wr.cell? ⟨w.heap.size, 103 + j * 85 + 4, none⟩ = some (.int .i64 (f j)) := by
  obtain ⟨_, C, hC, _, hf⟩ := h
  simp [World.cell?, hC, hf j hj]
theorem Inv.frozen {w wr : World} {f : Nat → Int} (h : Inv w wr f) (o : Nat) : wr.frozen? ⟨w.heap.size, o, none⟩ = false := by
  obtain ⟨_, C, hC, _, hf⟩ := h
  simp [World.frozen?, hC]
theorem Inv.has {w wr : World} {f : Nat → Int} (h : Inv w wr f) {o : Nat} (ho : o < 5652) : ∃ v, wr.cell? ⟨w.heap.size, o, none⟩ = some v := by
  obtain ⟨_, C, hC, hs, hf⟩ := h
  exact ⟨C[o], by simp [World.cell?, hC, hs, ho]⟩
theorem Inv.drew {w wr : World} {f : Nat → Int} (h : Inv w wr f) : Inv w wr.drew f := ⟨h.1.drew, h.2⟩
theorem Inv.start {w : World} {Z : Array Value} (hs : Z.size = 5652) (hz : ∀ j, j < 64 → Z[103 + j * 85 + 4]? = some (.int .i64 0)) : Inv w (w.alloc (.cells Z 121)) (fun _ => 0) :=
  ⟨(Below.refl _ _).alloc (Nat.le_refl _) _, Z, by show (w.heap.push _)[w.heap.size]? = _; simp, hs, hz⟩
theorem heap_setCell_at {wr : World} {b : Nat} {C : Array Value} {t : TypeId} {fr : Nat × Nat} (hC : wr.heap[b]? = some (.cells C t fr)) (o : Nat) (v : Value) :
    (wr.setCell ⟨b, o, none⟩ v).heap[b]? = some (.cells (C.setIfInBounds o v) t fr) := by
  simp [World.setCell, Array.getElem?_modify, hC]
theorem Inv.put {w wr : World} {f : Nat → Int} (h : Inv w wr f) (o : Nat) (v : Value) {g : Nat → Int}
    (hg : ∀ j, j < 64 → (103 + j * 85 + 4 = o → v = .int .i64 (g j)) ∧ (103 + j * 85 + 4 ≠ o → g j = f j)) (_ho : o < 5652) : Inv w (wr.setCell ⟨w.heap.size, o, none⟩ v) g := by
  obtain ⟨hb, C, hC, hs, hf⟩ := h
  refine ⟨hb.setCell (Nat.le_refl _) v, _, heap_setCell_at hC o v, by simpa using hs, fun j hj => ?_⟩
  by_cases e : 103 + j * 85 + 4 = o
  · rw [e, Array.getElem?_setIfInBounds_self_of_lt (by omega), (hg j hj).1 e]
  · rw [Array.getElem?_setIfInBounds_ne (Ne.symm e), hf j hj, (hg j hj).2 e]
theorem Inv.fly {w wr : World} {f : Nat → Int} (h : Inv w wr f) {k : Nat} (hk : k < 64) (n : Int) : Inv w (wr.setCell ⟨w.heap.size, 103 + k * 85 + 4, none⟩ (.int .i64 n)) (fun j => if j = k then n else f j) :=
  h.put _ _ (fun j _ => ⟨fun e => by have : j = k := by omega
                                     simp [this], fun e => by rw [if_neg (by omega)]⟩) (by omega)
theorem Inv.other {w wr : World} {f : Nat → Int} (h : Inv w wr f) {k : Nat} (hk : k < 64) (d : Nat) (hd : 0 < d ∧ d < 81) (v : Value) : Inv w (wr.setCell ⟨w.heap.size, 103 + k * 85 + 4 + d, none⟩ v) f :=
  h.put _ _ (fun j _ => ⟨fun e => by omega, fun _ => rfl⟩) (by omega)
theorem Inv.congr {w wr : World} {f g : Nat → Int} (h : Inv w wr f) (e : ∀ j, j < 64 → f j = g j) : Inv w wr g := by
  obtain ⟨hb, C, hC, hs, hf⟩ := h
  exact ⟨hb, C, hC, hs, fun j hj => by rw [hf j hj, e j hj]⟩

set_option maxHeartbeats 400000 in
theorem inFlight_any (w : World) (b : Nat) (f : Nat → Int) (hc : ∀ j, j < 64 → w.cell? ⟨b, 103 + j * 85 + 4, none⟩ = some (.int .i64 (f j))) :
    Calls Yba.prog 5 #[.pointer (some ⟨b, 0, none⟩)] w fun e w' => e = .returned (.int .i64 (sumTo f 64)) ∧ w = w' := by
  go_enter Yba.func5, Yba.ntmps5
  go_wp2
  go_loop [3, 5] (fun n i => ∃ k : Nat, k ≤ 64 ∧ i = .int .i64 k ∧ n = .int .i64 (sumTo f k)) (fun _ i => 64 - (intOf i).toNat)
  case atStart => exact ⟨0, Nat.zero_le _, rfl, rfl⟩
  case round =>
    obtain ⟨k, hk, rfl, rfl⟩ := hrel
    by_cases hlt : k < 64
    · have h1 := hc k hlt
      clear hc
      go_wp2
      go_round
      case rel => exact ⟨k + 1, by omega, by go_num, rfl⟩
      case measure => simp [intOf]; omega
    · go_wp2
      go_ret
      have : k = 64 := by omega
      subst this
      exact ⟨rfl, rfl⟩

end Go.Proofs.Ybulkdeum
