/- (Service).String at the named protocols. -/
import Derived.Test.YbulkdewqFmtJName
import Derived.Deep.AppendLies
namespace Go.Proofs.YbulkdewqFmt
open Go.RowKit
/-- What the package-level variables on the road hold. -/
def GJ (m : Nat) (o : Obj) (b off c : Nat) (w : World) : Prop := GV m o w ∧ PN b off c w ∧ w.cell? ⟨1, 0, none⟩ = some (.int .u16 0) ∧ w.cell? ⟨1, 1, none⟩ = some (.int .u16 255) ∧ w.cell? ⟨2, 0, none⟩ = some (.int .u16 0) ∧ w.cell? ⟨2, 1, none⟩ = some (.int .u16 65535)
theorem GJ.below {m : Nat} {o : Obj} {b off c B : Nat} {w w' : World} (h : GJ m o b off c w) (hB : w.heap.size ≤ B) (l : Below B w w') : GJ m o b off c w' := by
  obtain ⟨h0, h1, h2, h3, h4, h5⟩ := h
  have hs := h0.1
  exact ⟨h0.below hB l, h1.below hB l, (l.cell (p := ⟨1, 0, none⟩) (show 1 < B by omega)).trans h2, (l.cell (p := ⟨1, 1, none⟩) (show 1 < B by omega)).trans h3, (l.cell (p := ⟨2, 0, none⟩) (show 2 < B by omega)).trans h4, (l.cell (p := ⟨2, 1, none⟩) (show 2 < B by omega)).trans h5⟩
/-- The map of the named protocols, asked for a protocol's name. -/
def Looks (m : Nat) (o : Obj) : Prop := ∀ p, named p = true → ∃ v, ∀ w : World, w.heap[m]? = some o → (Instr.lookup 143 (.map (some m)) (.string (nm (ix p))) true).run Ybaf.prog w = .ok (.tuple #[v, .bool (inm p)]) w
set_option maxRecDepth 4000 in
theorem c29n (b : Nat) (s t : ByteArray) (w : World) (h0 : w.cell? ⟨b, 0, none⟩ = some (.string s)) (h1 : w.cell? ⟨b, 1, none⟩ = some (.string t)) (hs : s.toList ≠ []) :
    Calls Ybaf.prog 29 #[.slice (some ⟨b, 0, none⟩) 2 2] w fun e w' => e = .returned (.string s) ∧ w = w' := by
  have hb : b < w.heap.size := World.block_lt_of_cell? w _ h0
  have q : (s.toList == []) = false := by simpa using hs
  go_enter Ybaf.func29, Ybaf.ntmps29
  go_wp2_with fail
  go_loopw [8] (fun i wr => i = .int .i64 0 ∧ wr = w) (fun i _ => 2 - (intOf i).toNat)
  case atStart => exact ⟨rfl, rfl⟩
  case round =>
    obtain ⟨rfl, rfl⟩ := hrel
    go_wp2_with fail
    go_ret
    exact ⟨rfl, rfl⟩
theorem own_built (w : World) (base n : Nat) (cur : Array Value) (hb : base ≤ w.heap.size) (hs : cur.size = n) (hm : n ≤ maxLen) : (w.alloc (.cells cur 9)).ownsRow base 9 1 (.slice (some ⟨w.heap.size, 0, none⟩) n n) n cur.toList :=
  ⟨by simp [hs], .inr ⟨w.heap.size, n, cur, rfl, hb, heap_alloc_new w _, Nat.le_refl _, hm, by simp [hs], by rw [Nat.mul_one, ← hs]; exact List.take_of_length_le (by simp)⟩⟩
/-- The words as append and Join want them. -/
def Own (w : World) (base : Nat) (v : Value) (xs : List ByteArray) : Prop := w.ownsRow base 9 1 v xs.length (xs.map Value.string)
theorem Own.below {w w' : World} {base : Nat} {v : Value} {xs : List ByteArray} (h : Own w base v xs) (l : Below w.heap.size w w') : Own w' base v xs := by
  refine ⟨h.1, ?_⟩
  rcases h.2 with h0 | ⟨g, cap, cur, hv, hb, hg, r⟩
  · exact Or.inl h0
  · exact Or.inr ⟨g, cap, cur, hv, hb, (l.block g (Array.getElem?_eq_some_iff.1 hg).1).trans hg, r⟩
/-- strings.Join at the words. -/
theorem join_own (w : World) (base : Nat) (v : Value) (xs : List ByteArray) (h : Own w base v xs) (h0 : xs ≠ []) (hs : Short xs) (h6 : xs.length ≤ 6) :
    Calls Ybaf.prog 27 #[v, .string ⟨#[32]⟩] w fun e w' => e = .returned (.string (bs (jn xs))) ∧ Below w.heap.size w w' := by
  have hpos : 0 < xs.length := List.length_pos_iff.2 h0
  obtain ⟨g, cap, rfl, hb, hg⟩ := h.form hpos
  have hc : xs.length ≤ cap := by
    rcases h.2 with ⟨hx, _⟩ | ⟨g', cap', cur, hv, _, _, hcap, _⟩
    · cases hx
    · cases hv; exact hcap
  have hj := jn_le hs h6
  refine (Ybaf.strings_Join g 0 cap xs ⟨#[32]⟩ w (fun j x hx => ?_) hg (by omega) hc (by exact Nat.le_trans hj (by omega))).mono ?_
  · have := h.cells (g := g) rfl j (.string x) (by rw [List.getElem?_map, hx]; rfl)
    rw [Nat.zero_add]
    unfold Addr.add at this
    by_cases hj0 : j = 0
    · subst hj0; simpa using this
    · simpa [hj0] using this
  · rintro e w' ⟨rfl, hB⟩
    exact ⟨rfl, hB⟩
set_option maxRecDepth 4000 in
set_option maxHeartbeats 1000000 in
/-- A named protocol that no activity reads, without ports. -/
theorem str_plain (m : Nat) (o : Obj) (b off c : Nat) (hL : Looks m o) (p : Nat) (hp : p ≤ 255) (hu : named p = true) (hi : inm p = false) (hh : YbulkdewqFmt.hp p = false) (x1 x2 x3 x4 x5 x6 x7 x8 : Int) (w : World) (hG : GJ m o b off c w) :
    Calls Ybaf.prog 14 #[.agg #[.int .u8 p, .int .u16 x1, .int .u16 x2, .int .u16 x3, .int .u16 x4, .int .u16 x5, .int .u16 x6, .int .u16 x7, .int .u16 x8]] w fun r w' => r = .returned (.string (bs (jn (w0 p)))) ∧ Below w.heap.size w w' := by
  obtain ⟨v, hv⟩ := hL p hu
  rw [hi] at hv
  have HG : Hid (GJ m o b off c w) := hG
  have HU : Hid (named p = true) := hu
  have HL : Hid (∀ w : World, w.heap[m]? = some o → (Instr.lookup 143 (.map (some m)) (.string (nm (ix p))) true).run Ybaf.prog w = .ok (.tuple #[v, .bool false]) w) := hv
  have HH : Hid (YbulkdewqFmt.hp p = false) := hh
  have HI : Hid (inm p = false) := hi
  have HNE : Hid ((nm (ix p)).toList ≠ []) := (ix_named hu).2.2.2.1
  have k0 : ((p : Int) == 0) = false := by rcases named_ten hu with h | h | h | h | h | h | h | h | h | h <;> rw [h] <;> decide
  have k1 : ((p : Int) == 1) = false := by rcases named_ten hu with h | h | h | h | h | h | h | h | h | h <;> rw [h] at hi ⊢ <;> revert hi <;> decide
  have q1 : (p : Int) ≤ 255 := by omega
  obtain ⟨s, hs⟩ : ∃ s, s = nm (ix p) := ⟨_, rfl⟩
  rw [← hs] at HNE HL
  have HS : Hid (s = nm (ix p)) := hs
  clear hG hL hv hu hi hh hs
  have hBa : ∀ o1, Below w.heap.size w (w.alloc o1) := fun o1 => (Below.refl w.heap.size w).alloc (Nat.le_refl _) o1
  go_enter Ybaf.func14, Ybaf.ntmps14
  go_wp2_with fail
  refine (c28n b off c _ _ (PN.below HG.out.2.1 (Nat.le_refl _) (hBa _)) HU.out).mono ?_
  rintro e w1 ⟨rfl, hB1⟩
  rw [← HS.out]
  have hs1 : w.heap.size + 1 ≤ w1.heap.size := by simpa using hB1.size
  have b0 : w1.cell? ⟨w.heap.size, 0, none⟩ = some (.int .u8 p) := by
    rw [hB1.cell (p := ⟨w.heap.size, 0, none⟩) (by simp), World.cell?_alloc_at _ _ _ _ rfl]; rfl
  have HB1 : Hid (Below w.heap.size w w1) := (hBa _).trans (hB1.mono (by simp))
  have HG1 : Hid (GJ m o b off c w1) := GJ.below HG.out (Nat.le_refl _) HB1.out
  have g0 := HG1.out.1.2.2.1
  have hl : ∀ o1, (Instr.lookup 143 (.map (some m)) (.string s) true).run Ybaf.prog (w1.alloc o1) = .ok (.tuple #[v, .bool false]) (w1.alloc o1) := fun o1 =>
    HL.out _ ((((Below.refl w1.heap.size w1).alloc (Nat.le_refl _) o1)).block m HG1.out.1.2.1 |>.trans HG1.out.1.2.2.2.1)
  have g00 : 0 < w1.heap.size := by omega
  have g01 : w.heap.size < w1.heap.size := by omega
  clear hB1 hBa
  go_wp2_with fail
  have hBb : ∀ o1, Below w1.heap.size w1 (w1.alloc o1) := fun o1 => (Below.refl w1.heap.size w1).alloc (Nat.le_refl _) o1
  refine (c15 p hp _ (GV.below HG1.out.1 (Nat.le_refl _) (hBb _)).2.2.2.2).mono ?_
  rintro e w2 ⟨rfl, hB2⟩
  have hs2 : w1.heap.size + 1 ≤ w2.heap.size := by simpa using hB2.size
  have HB12 : Hid (Below w1.heap.size w1 w2) := (hBb _).trans (hB2.mono (by simp))
  have HB2 : Hid (Below w.heap.size w w2) := HB1.out.trans (HB12.out.mono (by omega))
  have c0 : w2.cell? ⟨w.heap.size, 0, none⟩ = some (.int .u8 p) := (HB12.out.cell (p := ⟨w.heap.size, 0, none⟩) g01).trans b0
  obtain ⟨t, ht⟩ : ∃ t, t = (⟨(Lib.itoa p).toArray⟩ : ByteArray) := ⟨_, rfl⟩
  rw [← ht]
  have hz : w.heap.size < w2.heap.size := by omega
  clear hB2 hBb hl ht g0 b0 hs1 g00
  go_wp2_with (first
    | (go_at_call 29; refine (c29n w2.heap.size s t _ (by rw [World.cell?_alloc_at _ _ _ _ rfl]; rfl) (by rw [World.cell?_alloc_at _ _ _ _ rfl]; rfl) HNE.out).mono ?_; rintro e w5 ⟨rfl, rfl⟩)
    | (go_at_call 31; refine (c31n _ _ HU.out).mono ?_; rw [HH.out]; rintro e w5 ⟨rfl, rfl⟩))
  have hw0 : w0 p = [⟨#[112, 114, 111, 116, 111]⟩, s] := by rw [HS.out]; unfold w0; rw [HI.out]; rfl
  have hsh := w0_short HU.out
  rw [hw0] at hsh
  have HW0 : Hid (w0 p = [⟨#[112, 114, 111, 116, 111]⟩, s]) := hw0
  refine (join_own _ w.heap.size _ [⟨#[112, 114, 111, 116, 111]⟩, s] ?_ (by simp) hsh.1 (by simp)).mono ?_
  · have h := own_built (w2.alloc (.cells #[.string s, .string t] 9)) w.heap.size 2 #[.string ⟨#[112, 114, 111, 116, 111]⟩, .string s] (by simp; omega) rfl (by unfold maxLen; omega)
    simpa [Own] using h
  · rintro e w3 ⟨rfl, hB3⟩
    have HB3 : Hid (Below w.heap.size w w3) := ((HB2.out.alloc (by omega) _).alloc (by simp; omega) _).trans (hB3.mono (by simp; omega))
    rw [← HW0.out]
    clear hB3 hw0 hsh
    go_wp2_with fail
    go_ret
    exact ⟨rfl, HB3.out⟩
end Go.Proofs.YbulkdewqFmt
