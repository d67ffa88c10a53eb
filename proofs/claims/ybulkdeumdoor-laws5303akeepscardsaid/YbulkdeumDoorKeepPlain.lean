/- The law on a well-formed list: the plain side, and the ways out ahead of the work. -/
import Derived.Test.YbulkdeumDoorRawAB
import Derived.OpenShut
namespace Go.Proofs.YbulkdeumDoor
open Go.RowKit
/-- An entry of the list that came in: four bytes and a port. -/
structure En where
  a : Int
  b : Int
  c : Int
  d : Int
  p : Int
def En.ok (e : En) : Prop := B8 e.a ∧ B8 e.b ∧ B8 e.c ∧ B8 e.d ∧ 0 ≤ e.p ∧ e.p ≤ 65535
/-- A slice of entries that came in. -/
def Entries (w : World) (a : Option Addr) (len : Nat) (es : Nat → En) : Prop :=
  (∀ i, (es i).ok) ∧ (0 < len → ∃ b off, a = some ⟨b, off, none⟩ ∧ b < w.heap.size ∧ ∀ i, i < len → w.cell? ⟨b, off + i * 5, none⟩ = some (.int .u8 (es i).a) ∧ w.cell? ⟨b, off + i * 5 + 1, none⟩ = some (.int .u8 (es i).b) ∧
    w.cell? ⟨b, off + i * 5 + 2, none⟩ = some (.int .u8 (es i).c) ∧ w.cell? ⟨b, off + i * 5 + 3, none⟩ = some (.int .u8 (es i).d) ∧ w.cell? ⟨b, off + i * 5 + 4, none⟩ = some (.int .u16 (es i).p))

/-- Byte j of an entry as the list lays it. -/
def fld (e : En) : Nat → Int
  | 0 => e.a
  | 1 => e.b
  | 2 => e.c
  | 3 => e.d
  | 4 => e.p % 256
  | _ => e.p / 256
/-- The body that the law lays: the count, the entries, the tail. -/
def kb (es : Nat → En) (l0 T : Nat) (ts : Nat → Int) (i : Nat) : Int :=
  if i = 0 then (T : Int) % 256 else if i = 1 then (T : Int) / 256 else if i < 2 + 6 * T then fld (es (((i - 2) / 6) % l0)) ((i - 2) % 6) else ts (i - (2 + 6 * T))
theorem kb0 (es : Nat → En) (l0 T : Nat) (ts : Nat → Int) : kb es l0 T ts 0 = (T : Int) % 256 := by simp [kb]
theorem kb1 (es : Nat → En) (l0 T : Nat) (ts : Nat → Int) : kb es l0 T ts 1 = (T : Int) / 256 := by simp [kb]
theorem kbE (es : Nat → En) (l0 T : Nat) (ts : Nat → Int) {k j : Nat} (hk : k < T) (hj : j < 6) : kb es l0 T ts (2 + 6 * k + j) = fld (es (k % l0)) j := by
  unfold kb
  rw [if_neg (by omega), if_neg (by omega), if_pos (by omega), show (2 + 6 * k + j - 2) / 6 = k by omega, show (2 + 6 * k + j - 2) % 6 = j by omega]
theorem kbT (es : Nat → En) (l0 T : Nat) (ts : Nat → Int) (i : Nat) : kb es l0 T ts (2 + 6 * T + i) = ts i := by
  unfold kb
  rw [if_neg (by omega), if_neg (by omega), if_neg (by omega), show 2 + 6 * T + i - (2 + 6 * T) = i by omega]
theorem fld_b8 {e : En} (h : e.ok) (j : Nat) : B8 (fld e j) := by
  obtain ⟨h1, h2, h3, h4, h5, h6⟩ := h
  match j with
  | 0 => exact h1
  | 1 => exact h2
  | 2 => exact h3
  | 3 => exact h4
  | 4 => exact ⟨by show 0 ≤ e.p % 256; omega, by show e.p % 256 ≤ 255; omega⟩
  | _ + 5 => exact ⟨by show 0 ≤ e.p / 256; omega, by show e.p / 256 ≤ 255; omega⟩
theorem kb_b8 {es : Nat → En} {l0 T : Nat} {ts : Nat → Int} (he : ∀ i, (es i).ok) (ht : ∀ i, B8 (ts i)) (hT : T ≤ 4096) (i : Nat) : B8 (kb es l0 T ts i) := by
  unfold kb
  split
  · exact ⟨by omega, by omega⟩
  · split
    · exact ⟨by omega, by omega⟩
    · split
      · exact fld_b8 (he _) _
      · exact ht _
theorem kb_ent (es : Nat → En) (l0 T : Nat) (ts : Nat → Int) {k : Nat} (hk : k < T) (he : (es (k % l0)).ok) :
    ent (kb es l0 T ts) k = (lo4 (es (k % l0)).a (es (k % l0)).b (es (k % l0)).c (es (k % l0)).d, (es (k % l0)).p) := by
  unfold ent
  have h0 : kb es l0 T ts (2 + 6 * k) = _ := kbE es l0 T ts hk (j := 0) (by omega)
  rw [h0, kbE es l0 T ts hk (j := 1) (by omega), kbE es l0 T ts hk (j := 2) (by omega), kbE es l0 T ts hk (j := 3) (by omega), kbE es l0 T ts hk (j := 4) (by omega), kbE es l0 T ts hk (j := 5) (by omega)]
  rw [p16_sum _ _ (fld_b8 he 4) (fld_b8 he 5)]
  show (_, (es (k % l0)).p % 256 + (es (k % l0)).p / 256 * 256) = _
  congr 1
  omega
/-- The body's block: N bytes, the first m of them those of bs. -/
def BodyB (w : World) (g : Nat) (bs : Nat → Int) (m N : Nat) : Prop :=
  ∃ C : Array Value, w.heap[g]? = some (.cells C 5 (0, 0)) ∧ C.size = N ∧ ∀ j, j < m → C[j]? = some (.int .u8 (bs j))
theorem BodyB.has {w : World} {g : Nat} {bs : Nat → Int} {m N : Nat} (h : BodyB w g bs m N) {o : Nat} (ho : o < N) : ∃ v, w.cell? ⟨g, o, none⟩ = some v := by
  obtain ⟨C, hC, hs, _⟩ := h
  exact ⟨C[o], by simp [World.cell?, hC, hs, ho]⟩
theorem BodyB.frozen {w : World} {g : Nat} {bs : Nat → Int} {m N : Nat} (h : BodyB w g bs m N) (o : Nat) : w.frozen? ⟨g, o, none⟩ = false := by
  obtain ⟨C, hC, hs, _⟩ := h
  simp [World.frozen?, hC]
theorem BodyB.lt {w : World} {g : Nat} {bs : Nat → Int} {m N : Nat} (h : BodyB w g bs m N) : g < w.heap.size := by
  obtain ⟨C, hC, _⟩ := h
  exact (Array.getElem?_eq_some_iff.1 hC).1
theorem BodyB.below {w w' : World} {g B : Nat} {bs : Nat → Int} {m N : Nat} (h : BodyB w g bs m N) (b : Below B w w') (hg : g < B) : BodyB w' g bs m N := by
  obtain ⟨C, hC, r⟩ := h
  exact ⟨C, by rw [b.block g hg]; exact hC, r⟩
theorem BodyB.cell {w : World} {g : Nat} {bs : Nat → Int} {m N : Nat} (h : BodyB w g bs m N) {j : Nat} (hj : j < m) : w.cell? ⟨g, j, none⟩ = some (.int .u8 (bs j)) := by
  obtain ⟨C, hC, _, hc⟩ := h
  simp [World.cell?, hC, hc j hj]
theorem BodyB.push {w : World} {g : Nat} {bs : Nat → Int} {m N : Nat} (h : BodyB w g bs m N) (hm : m < N) {v : Int} (hv : bs m = v) : BodyB (w.setCell ⟨g, m, none⟩ (.int .u8 v)) g bs (m + 1) N := by
  obtain ⟨C, hC, hs, hc⟩ := h
  refine ⟨_, heap_setCell_at hC m _, by simpa using hs, fun j hj => ?_⟩
  by_cases e : j = m
  · subst e
    rw [Array.getElem?_setIfInBounds_self_of_lt (by omega), hv]
  · rw [Array.getElem?_setIfInBounds_ne (Ne.symm e)]
    exact hc j (by omega)
set_option maxHeartbeats 400000 in
theorem keepsBig1 (a0 a2 : Option Addr) (l0 c0 l2 c2 : Nat) (r : Int) (w : World) (h : (1024 : Int) < l0) :
    Calls Ybad.prog 3 #[.slice a0 l0 c0, .int .u8 r, .slice a2 l2 c2] w fun e w' => e = .returned (.bool true) ∧ Below w.heap.size w w' := by
  go_enter Ybad.func3, Ybad.ntmps3
  go_wp2
  go_ret
  exact ⟨rfl, Below.refl _ _⟩
set_option maxHeartbeats 400000 in
theorem keepsBig2 (a0 a2 : Option Addr) (l0 c0 l2 c2 : Nat) (r : Int) (w : World) (h0 : ¬ (1024 : Int) < l0) (h : (1024 : Int) < l2) :
    Calls Ybad.prog 3 #[.slice a0 l0 c0, .int .u8 r, .slice a2 l2 c2] w fun e w' => e = .returned (.bool true) ∧ Below w.heap.size w w' := by
  go_enter Ybad.func3, Ybad.ntmps3
  go_wp2
  go_ret
  exact ⟨rfl, Below.refl _ _⟩
set_option maxHeartbeats 400000 in
theorem keepsBig3 (a0 a2 : Option Addr) (l0 c0 l2 c2 R T : Nat) (r : Int) (w : World) (h0 : ¬ (1024 : Int) < l0) (h2 : ¬ (1024 : Int) < l2) (hr : 0 ≤ r ∧ r ≤ 255) (hR : r % 40 + 1 = R) (hT : (l0 : Int) * R = T) (hTb : (T : Int) ≤ 40960) (h : (4096 : Int) < T) :
    Calls Ybad.prog 3 #[.slice a0 l0 c0, .int .u8 r, .slice a2 l2 c2] w fun e w' => e = .returned (.bool true) ∧ Below w.heap.size w w' := by
  go_enter Ybad.func3, Ybad.ntmps3
  go_wp2
  go_ret
  exact ⟨rfl, Below.refl _ _⟩
end Go.Proofs.YbulkdeumDoor
