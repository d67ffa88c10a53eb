/- The plain side: addresses as numbers, the kept list, a list of AddrPorts that the call owns. -/
import Derived.Test.YbulkdeumDoorParse
import Derived.Deep.AppendLies
namespace Go.Proofs.YbulkdeumDoor
open Go.RowKit
/-! ### Plain: the numbers -/
theorem lo4_sum (a b c d : Int) (ha : B8 a) (hb : B8 b) (hc : B8 c) (hd : B8 d) : lo4 a b c d = 281470681743360 + a * 16777216 + b * 65536 + c * 256 + d := by
  unfold B8 at *
  obtain ⟨a, rfl⟩ := Int.eq_ofNat_of_zero_le ha.1
  obtain ⟨b, rfl⟩ := Int.eq_ofNat_of_zero_le hb.1
  obtain ⟨c, rfl⟩ := Int.eq_ofNat_of_zero_le hc.1
  obtain ⟨d, rfl⟩ := Int.eq_ofNat_of_zero_le hd.1
  unfold lo4
  have e1 : bits .or .u64 281470681743360 ((a : Int) * 16777216) = ((281470681743360 + a * 16777216 : Nat) : Int) := by
    rw [u64_or _ _ (by omega) (by omega) (by omega) (by omega), show (281470681743360 : Int).toNat = 281470681743360 from rfl, show ((a : Int) * 16777216).toNat = a * 16777216 by omega, nat_join 32 _ _ (by decide) (by omega)]
  rw [e1]
  have e2 : bits .or .u64 ((281470681743360 + a * 16777216 : Nat) : Int) ((b : Int) * 65536) = ((281470681743360 + a * 16777216 + b * 65536 : Nat) : Int) := by
    rw [u64_or _ _ (by omega) (by omega) (by omega) (by omega), Int.toNat_natCast, show ((b : Int) * 65536).toNat = b * 65536 by omega, nat_join 24 _ _ (by omega) (by omega)]
  rw [e2]
  have e3 : bits .or .u64 ((281470681743360 + a * 16777216 + b * 65536 : Nat) : Int) ((c : Int) * 256) = ((281470681743360 + a * 16777216 + b * 65536 + c * 256 : Nat) : Int) := by
    rw [u64_or _ _ (by omega) (by omega) (by omega) (by omega), Int.toNat_natCast, show ((c : Int) * 256).toNat = c * 256 by omega, nat_join 16 _ _ (by omega) (by omega)]
  rw [e3]
  rw [u64_or _ _ (by omega) (by omega) (by omega) (by omega), Int.toNat_natCast, Int.toNat_natCast, nat_join 8 _ _ (by omega) (by omega)]
  omega
theorem p16_sum (a b : Int) (ha : B8 a) (hb : B8 b) : p16 a b = a + b * 256 := by
  unfold B8 at *
  obtain ⟨a, rfl⟩ := Int.eq_ofNat_of_zero_le ha.1
  obtain ⟨b, rfl⟩ := Int.eq_ofNat_of_zero_le hb.1
  unfold p16
  rw [u16_or _ _ (by omega) (by omega) (by omega) (by omega), Int.toNat_natCast, show ((b : Int) * 256).toNat = b * 256 by omega, Nat.or_comm, nat_join 8 _ _ (by omega) (by omega)]
  omega
theorem ent_ne0 (bs : Nat → Int) (hb : ∀ i, B8 (bs i)) (i : Nat) : ((ent bs i).1 == 0) = false := by
  unfold ent
  rw [lo4_sum _ _ _ _ (hb _) (hb _) (hb _) (hb _)]
  have h1 := (hb (2 + 6 * i)).1; have h2 := (hb (2 + 6 * i + 1)).1; have h3 := (hb (2 + 6 * i + 2)).1; have h4 := (hb (2 + 6 * i + 3)).1
  simp only [beq_eq_false_iff_ne, ne_eq]
  omega

/-! ### Plain: the kept list -/
def good (e : Int × Int) : Bool := !(e.1 == lo4 0 0 0 0) && !(e.2 == 0)
def K (l : List (Int × Int)) : List (Int × Int) := (l.filter good).take 256
theorem K_le (l : List (Int × Int)) : (K l).length ≤ 256 := by unfold K; exact List.length_take_le _ _
theorem K_good {l : List (Int × Int)} {e : Int × Int} (h : (K l).length < 256) (g : good e = true) : K (l ++ [e]) = K l ++ [e] := by
  unfold K at *
  have h2 : (l.filter good).length < 256 := by rw [List.length_take] at h; omega
  rw [List.filter_append, List.take_append]
  simp [g, List.take_of_length_le (show (l.filter good).length ≤ 256 by omega)]
  rw [List.take_of_length_le]
  simp; omega
theorem K_bad {l : List (Int × Int)} {e : Int × Int} (g : good e = false) : K (l ++ [e]) = K l := by
  unfold K
  rw [List.filter_append]
  simp [g]
theorem K_full {l : List (Int × Int)} {e : Int × Int} (h : (K l).length = 256) : K (l ++ [e]) = K l := by
  unfold K at *
  rw [List.filter_append, List.take_append]
  have h2 : 256 ≤ (l.filter good).length := by rw [List.length_take] at h; omega
  rw [show 256 - (l.filter good).length = 0 by omega]
  simp
theorem K_full_ents (bs : Nat → Int) {k : Nat} (h : (K (ents bs k)).length = 256) : ∀ n, k ≤ n → K (ents bs n) = K (ents bs k)
  | 0, hn => by have : k = 0 := by omega
                subst this; rfl
  | n + 1, hn => by
    by_cases e : k = n + 1
    · rw [e]
    · have ih := K_full_ents bs h n (by omega)
      rw [ents_succ, K_full (by rw [ih]; exact h), ih]

/-! ### A list of AddrPorts of the call's own -/
def apc (z : Option Addr) (e : Int × Int) : List Value := [.int .u64 0, .int .u64 e.1, .pointer z, .int .u16 e.2]
def apcs (z : Option Addr) (l : List (Int × Int)) : List Value := l.flatMap (apc z)
theorem apcs_snoc (z : Option Addr) (l : List (Int × Int)) (e : Int × Int) : apcs z (l ++ [e]) = apcs z l ++ apc z e := by simp [apcs]
theorem apcs_at (z : Option Addr) : ∀ (l : List (Int × Int)) (i : Nat), i < l.length → (apcs z l)[i * 4]? = some (.int .u64 0) ∧ (apcs z l)[i * 4 + 1]? = some (.int .u64 (l.getD i (0, 0)).1) ∧ (apcs z l)[i * 4 + 2]? = some (.pointer z) ∧ (apcs z l)[i * 4 + 3]? = some (.int .u16 (l.getD i (0, 0)).2)
  | [], i, h => by simp at h
  | e :: l, 0, _ => by simp [apcs, apc]
  | e :: l, i + 1, h => by
    have ih := apcs_at z l i (by simpa using h)
    have e1 : ∀ j, (apcs z (e :: l))[(i + 1) * 4 + j]? = (apcs z l)[i * 4 + j]? := fun j => by
      show (apc z e ++ apcs z l)[(i + 1) * 4 + j]? = _
      rw [List.getElem?_append_right (by simp [apc]; omega)]
      congr 1
      simp [apc]; omega
    refine ⟨by rw [show (i + 1) * 4 = (i + 1) * 4 + 0 from rfl, e1]; simpa using ih.1, by rw [e1]; simpa using ih.2.1, by rw [e1]; simpa using ih.2.2.1, by rw [e1]; simpa using ih.2.2.2⟩
def Own (w : World) (base : Nat) (v : Value) (z : Option Addr) (l : List (Int × Int)) : Prop :=
  w.ownsRow base 38 4 v l.length (apcs z l) ∧ (l = [] → v = .slice none 0 0)
theorem Own.nil (w : World) (base : Nat) (z : Option Addr) : Own w base (.slice none 0 0) z [] := ⟨World.ownsRow_nil _ _ _ _, fun _ => rfl⟩
theorem ownsRow_below {w w' : World} {base B : Nat} {e : TypeId} {size : Nat} {v : Value} {n : Nat} {xs : List Value} (h : w.ownsRow base e size v n xs) (b : Below B w w') (hB : w.heap.size ≤ B) : w'.ownsRow base e size v n xs := by
  obtain ⟨h1, h2⟩ := h
  refine ⟨h1, ?_⟩
  rcases h2 with h2 | ⟨g, cap, cur, hv, hg, hh, r⟩
  · exact Or.inl h2
  · have hlt : g < w.heap.size := (Array.getElem?_eq_some_iff.1 hh).1
    exact Or.inr ⟨g, cap, cur, hv, hg, by rw [b.block g (by omega)]; exact hh, r⟩
theorem ownsRow_base {w : World} {base base' : Nat} {e : TypeId} {size : Nat} {v : Value} {n : Nat} {xs : List Value} (h : w.ownsRow base e size v n xs) (hb : base' ≤ base) : w.ownsRow base' e size v n xs := by
  obtain ⟨h1, h2⟩ := h
  refine ⟨h1, ?_⟩
  rcases h2 with h2 | ⟨g, cap, cur, hv, hg, r⟩
  · exact Or.inl h2
  · exact Or.inr ⟨g, cap, cur, hv, by omega, r⟩
theorem Own.below {w w' : World} {base B : Nat} {v : Value} {z : Option Addr} {l : List (Int × Int)} (h : Own w base v z l) (b : Below B w w') (hB : w.heap.size ≤ B) : Own w' base v z l := ⟨ownsRow_below h.1 b hB, h.2⟩
theorem Own.form {w : World} {base : Nat} {v : Value} {z : Option Addr} {l : List (Int × Int)} (h : Own w base v z l) : ∃ a cap, v = .slice a l.length cap := by
  rcases h.1.2 with ⟨hv, hl⟩ | ⟨g, cap, _, hv, _⟩
  · exact ⟨none, 0, by rw [hv, hl]⟩
  · exact ⟨_, _, hv⟩
theorem Own.lie {w : World} {base : Nat} {v : Value} {z : Option Addr} {l : List (Int × Int)} (h : Own w base v z l) (hl : l ≠ []) : ∃ g cap, v = .slice (some ⟨g, 0, none⟩) l.length cap ∧ base ≤ g ∧ g < w.heap.size ∧ Lie w g z l := by
  have hpos : 0 < l.length := by cases l with
    | nil => exact absurd rfl hl
    | cons => simp
  obtain ⟨g, cap, hv, hb, hlt⟩ := h.1.form hpos
  refine ⟨g, cap, hv, hb, hlt, fun i hi => ?_⟩
  have ho := h.1
  rw [hv] at ho
  obtain ⟨a, b, c, d⟩ := apcs_at z l i hi
  exact ⟨(ho.cellAt (i * 4) (by omega)).trans a, (ho.cellAt (i * 4 + 1) (by omega)).trans b, (ho.cellAt (i * 4 + 2) (by omega)).trans c, (ho.cellAt (i * 4 + 3) (by omega)).trans d⟩
theorem Own.push {w w' : World} {base g cap : Nat} {v : Value} {z : Option Addr} {l : List (Int × Int)} {e : Int × Int} (_h : Own w base v z l)
    (ho : w'.ownsRow base 38 4 (.slice (some ⟨g, 0, none⟩) (l.length + 1) cap) (l.length + 1) (apcs z l ++ apc z e)) : Own w' base (.slice (some ⟨g, 0, none⟩) (l.length + 1) cap) z (l ++ [e]) :=
  ⟨by rw [apcs_snoc]; simpa using ho, fun h => by simp at h⟩
theorem Below.grownBy {B : Nat} {w w' : World} {row : Option Nat} (hg : w.grownBy w' row) (hB : B ≤ w.heap.size) (hr : ∀ k, row = some k → B ≤ k) : Below B w w' := Below.grown (Below.refl _ _) hg hB hr
end Go.Proofs.YbulkdeumDoor
