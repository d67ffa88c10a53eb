/- (Perm).String of a set of the three permissions. -/
import Derived.Test.YbulkdevaFmtUnm
import Derived.Deep.AppendLies
namespace Go.Proofs.YbulkdevaFmt
open Go.RowKit
def sl (p : Int) : Nat → List Int
  | 0 => []
  | k + 1 => sl p k ++ if (bits .and .u64 p (prm k) == 0) = true then [] else [lett k]
theorem sl_le (p : Int) : ∀ k, (sl p k).length ≤ k
  | 0 => Nat.le_refl _
  | k + 1 => by have := sl_le p k; simp only [sl]; split <;> simp <;> omega
theorem sl_hit {p : Int} {k : Nat} (h : (bits .and .u64 p (prm k) == 0) = false) : sl p (k + 1) = sl p k ++ [lett k] := by simp [sl, h]
theorem sl_miss {p : Int} {k : Nat} (h : (bits .and .u64 p (prm k) == 0) = true) : sl p (k + 1) = sl p k := by simp only [sl]; rw [if_pos h]; simp
theorem ownsRow_below {w w' : World} {base B : Nat} {e : TypeId} {size : Nat} {v : Value} {n : Nat} {xs : List Value} (h : w.ownsRow base e size v n xs) (b : Below B w w') (hB : w.heap.size ≤ B) : w'.ownsRow base e size v n xs := by
  obtain ⟨h1, h2⟩ := h
  refine ⟨h1, ?_⟩
  rcases h2 with h2 | ⟨g, cap, cur, hv, hg, hh, r⟩
  · exact Or.inl h2
  · have hlt : g < w.heap.size := (Array.getElem?_eq_some_iff.1 hh).1
    exact Or.inr ⟨g, cap, cur, hv, hg, by rw [b.block g (by omega)]; exact hh, r⟩
theorem Ybaf.info5 : (Ybaf.prog.info? 5).map (fun i => (i.zero, i.size, i.bytes)) = some (some (.int .u8 0), 1, 1) := by kernel_rfl
theorem own_form {w : World} {base : Nat} {e : TypeId} {size : Nat} {v : Value} {n : Nat} {xs : List Value} (h : w.ownsRow base e size v n xs) : ∃ a cap, v = .slice a n cap := by
  rcases h.2 with ⟨hv, hn⟩ | ⟨g, cap, _, hv, _⟩
  · exact ⟨none, 0, by rw [hv, hn]⟩
  · exact ⟨_, _, hv⟩
theorem one_cell (c : Int) : ∀ u ∈ [Value.int .u8 c], u.oneCell' = true := by
  intro u hu
  simp only [List.mem_singleton] at hu
  subst hu; rfl
set_option maxRecDepth 4000 in
set_option maxHeartbeats 1000000 in
theorem str_any (p : Int) (w : World) (hP : PL w) (h7 : bits .andNot .u64 p 7 = 0) :
    Calls Ybaf.prog 15 #[.int .u64 p] w fun e w' => e = .returned (.string (strOfNums (sl p 3))) ∧ Below w.heap.size w w' := by
  have i0 := Ybaf.idx0
  have i1 := Ybaf.idx1
  have i2 := Ybaf.idx2
  have HP : Hid (PL w) := hP
  obtain ⟨g0, g1, g2, g3, g4, g5, g6⟩ := hP
  obtain ⟨i5, hi5, hz5, hsz5, hby5⟩ := info_parts Ybaf.info5
  have H5 : Hid (Ybaf.prog.info? 5 = some i5) := hi5
  have Hz5 : Hid (i5.zero = _) := hz5
  have Hsz5 : Hid (i5.size = 1) := hsz5
  have Hby5 : Hid (i5.bytes = 1) := hby5
  clear hi5 hz5 hsz5 hby5
  go_enter Ybaf.func15, Ybaf.ntmps15
  go_wp2
  clear g0 g1 g2 g3 g4 g5 g6
  go_loopw [3, 14] (fun v i wr => ∃ k : Nat, k ≤ 3 ∧ i = .int .i64 k ∧ wr.ownsRow w.heap.size 5 1 v (sl p k).length ((sl p k).map (Value.int .u8)) ∧ Below w.heap.size w wr) (fun _ i _ => 3 - (intOf i).toNat)
  case atStart => exact ⟨0, by omega, rfl, World.ownsRow_nil _ _ _ _, Below.refl _ _⟩
  case round =>
    obtain ⟨k, hk, rfl, hO, hB⟩ := hrel
    have hle := sl_le p k
    by_cases hk3 : k < 3
    · obtain ⟨a, cap, rfl⟩ := own_form hO
      have HO : Hid _ := hO
      have HB : Hid (Below w.heap.size w wr) := hB
      have hsw := hB.size
      clear hO hB
      have h012 : k = 0 ∨ k = 1 ∨ k = 2 := by omega
      rcases h012 with rfl | rfl | rfl
      · by_cases hl : (bits .and .u64 p 1 == 0) = true
        · have hS : Hid (sl p (0 + 1) = sl p 0) := sl_miss hl
          go_wp2
          go_roundw
          case rel => exact ⟨0 + 1, by omega, rfl, by rw [hS.out]; exact ownsRow_below HO.out ((Below.refl _ _).alloc (Nat.le_refl _) _) (Nat.le_refl _), HB.out.alloc hsw _⟩
          case measure => simp [intOf]
        · have hl' : (bits .and .u64 p 1 == 0) = false := by simpa using hl
          have hS : Hid (sl p (0 + 1) = sl p 0 ++ [114]) := sl_hit hl'
          have HO2 : Hid (((wr.alloc (.cells #[.int .u8 114, .int .u64 1] 48)).alloc (.cells #[.int .u8 114] 5)).ownsRow w.heap.size 5 1 (.slice a (sl p 0).length cap) (sl p 0).length ((sl p 0).map (Value.int .u8))) := (ownsRow_below HO.out ((Below.refl _ _).alloc (Nat.le_refl _) _) (Nat.le_refl _)).alloc _
          clear hl
          go_wp2_with (at_builtin; refine wpList_append_lies _ rfl _ _ 22 rfl w.heap.size 5 i5 _ 1 1 Ybaf.underlying22 H5.out Hz5.out Hsz5.out Hby5.out rfl (by omega) (.slice a (sl p 0).length cap) (sl p 0).length ((sl p 0).map (Value.int .u8)) rfl HO2.out ⟨wr.heap.size + 1, 0, none⟩ 1 1 [.int .u8 114] rfl rfl (World.news_of_block (by simpa using heap_alloc_new (wr.alloc (.cells #[.int .u8 114, .int .u64 1] 48)) (.cells #[.int .u8 114] 5))) (one_cell _) (by omega) (by unfold maxLen; omega) (by omega) (by simp; omega) _ rfl ?_)
          intro g2 cap2 w5 hown hgrow _ _
          have HO7 : Hid (w5.ownsRow w.heap.size 5 1 (.slice (some ⟨g2, 0, none⟩) ((sl p 0).length + 1) cap2) (sl p (0 + 1)).length ((sl p (0 + 1)).map (Value.int .u8))) := by rw [hS.out]; simpa [Hid] using hown
          have HB7 : Hid (Below w.heap.size w w5) := ((HB.out.alloc hsw _).alloc (by simp; omega) _).grown hgrow (by simp; omega) (fun q hq => (HO2.out.lt q hq).1)
          clear hown hgrow HO2 HO
          go_wp2
          go_roundw
          case rel => exact ⟨0 + 1, by omega, rfl, HO7.out, HB7.out⟩
          case measure => simp [intOf]
      · by_cases hl : (bits .and .u64 p 2 == 0) = true
        · have hS : Hid (sl p (1 + 1) = sl p 1) := sl_miss hl
          go_wp2
          go_roundw
          case rel => exact ⟨1 + 1, by omega, rfl, by rw [hS.out]; exact ownsRow_below HO.out ((Below.refl _ _).alloc (Nat.le_refl _) _) (Nat.le_refl _), HB.out.alloc hsw _⟩
          case measure => simp [intOf]
        · have hl' : (bits .and .u64 p 2 == 0) = false := by simpa using hl
          have hS : Hid (sl p (1 + 1) = sl p 1 ++ [119]) := sl_hit hl'
          have HO2 : Hid (((wr.alloc (.cells #[.int .u8 119, .int .u64 2] 48)).alloc (.cells #[.int .u8 119] 5)).ownsRow w.heap.size 5 1 (.slice a (sl p 1).length cap) (sl p 1).length ((sl p 1).map (Value.int .u8))) := (ownsRow_below HO.out ((Below.refl _ _).alloc (Nat.le_refl _) _) (Nat.le_refl _)).alloc _
          clear hl
          go_wp2_with (at_builtin; refine wpList_append_lies _ rfl _ _ 22 rfl w.heap.size 5 i5 _ 1 1 Ybaf.underlying22 H5.out Hz5.out Hsz5.out Hby5.out rfl (by omega) (.slice a (sl p 1).length cap) (sl p 1).length ((sl p 1).map (Value.int .u8)) rfl HO2.out ⟨wr.heap.size + 1, 0, none⟩ 1 1 [.int .u8 119] rfl rfl (World.news_of_block (by simpa using heap_alloc_new (wr.alloc (.cells #[.int .u8 119, .int .u64 2] 48)) (.cells #[.int .u8 119] 5))) (one_cell _) (by omega) (by unfold maxLen; omega) (by omega) (by simp; omega) _ rfl ?_)
          intro g2 cap2 w5 hown hgrow _ _
          have HO7 : Hid (w5.ownsRow w.heap.size 5 1 (.slice (some ⟨g2, 0, none⟩) ((sl p 1).length + 1) cap2) (sl p (1 + 1)).length ((sl p (1 + 1)).map (Value.int .u8))) := by rw [hS.out]; simpa [Hid] using hown
          have HB7 : Hid (Below w.heap.size w w5) := ((HB.out.alloc hsw _).alloc (by simp; omega) _).grown hgrow (by simp; omega) (fun q hq => (HO2.out.lt q hq).1)
          clear hown hgrow HO2 HO
          go_wp2
          go_roundw
          case rel => exact ⟨1 + 1, by omega, rfl, HO7.out, HB7.out⟩
          case measure => simp [intOf]
      · by_cases hl : (bits .and .u64 p 4 == 0) = true
        · have hS : Hid (sl p (2 + 1) = sl p 2) := sl_miss hl
          go_wp2
          go_roundw
          case rel => exact ⟨2 + 1, by omega, rfl, by rw [hS.out]; exact ownsRow_below HO.out ((Below.refl _ _).alloc (Nat.le_refl _) _) (Nat.le_refl _), HB.out.alloc hsw _⟩
          case measure => simp [intOf]
        · have hl' : (bits .and .u64 p 4 == 0) = false := by simpa using hl
          have hS : Hid (sl p (2 + 1) = sl p 2 ++ [120]) := sl_hit hl'
          have HO2 : Hid (((wr.alloc (.cells #[.int .u8 120, .int .u64 4] 48)).alloc (.cells #[.int .u8 120] 5)).ownsRow w.heap.size 5 1 (.slice a (sl p 2).length cap) (sl p 2).length ((sl p 2).map (Value.int .u8))) := (ownsRow_below HO.out ((Below.refl _ _).alloc (Nat.le_refl _) _) (Nat.le_refl _)).alloc _
          clear hl
          go_wp2_with (at_builtin; refine wpList_append_lies _ rfl _ _ 22 rfl w.heap.size 5 i5 _ 1 1 Ybaf.underlying22 H5.out Hz5.out Hsz5.out Hby5.out rfl (by omega) (.slice a (sl p 2).length cap) (sl p 2).length ((sl p 2).map (Value.int .u8)) rfl HO2.out ⟨wr.heap.size + 1, 0, none⟩ 1 1 [.int .u8 120] rfl rfl (World.news_of_block (by simpa using heap_alloc_new (wr.alloc (.cells #[.int .u8 120, .int .u64 4] 48)) (.cells #[.int .u8 120] 5))) (one_cell _) (by omega) (by unfold maxLen; omega) (by omega) (by simp; omega) _ rfl ?_)
          intro g2 cap2 w5 hown hgrow _ _
          have HO7 : Hid (w5.ownsRow w.heap.size 5 1 (.slice (some ⟨g2, 0, none⟩) ((sl p 2).length + 1) cap2) (sl p (2 + 1)).length ((sl p (2 + 1)).map (Value.int .u8))) := by rw [hS.out]; simpa [Hid] using hown
          have HB7 : Hid (Below w.heap.size w w5) := ((HB.out.alloc hsw _).alloc (by simp; omega) _).grown hgrow (by simp; omega) (fun q hq => (HO2.out.lt q hq).1)
          clear hown hgrow HO2 HO
          go_wp2
          go_roundw
          case rel => exact ⟨2 + 1, by omega, rfl, HO7.out, HB7.out⟩
          case measure => simp [intOf]
    · have : k = 3 := by omega
      subst this
      have hconv : ∀ v : Value, wr.ownsRow w.heap.size 5 1 v (sl p 3).length ((sl p 3).map (Value.int .u8)) → (convert 22 9 v).run Ybaf.prog wr = .ok (.string (strOfNums (sl p 3))) wr := by
        intro v hO
        rcases hO.2 with ⟨hv, hn⟩ | ⟨g, cap, cur, hv, _, hh, hc1, _, hcs, htk⟩
        · have : sl p 3 = [] := List.eq_nil_of_length_eq_zero hn
          rw [hv, this]
          exact run_convert_bytes_nil wr 22 5 Ybaf.underlying22 Ybaf.underlying5 0 0 9 Ybaf.underlying9
        · have ho := hO
          rw [hv] at ho ⊢
          refine run_convert_bytes_arg wr 22 5 Ybaf.underlying22 Ybaf.underlying5 g 0 _ cap (sl p 3) rfl (fun i hi => ?_) 9 Ybaf.underlying9
          rw [Nat.zero_add, ho.cellAt i (by omega)]
          simp [hi]
      have hcv := hconv _ hO
      obtain ⟨a, cap, rfl⟩ := own_form hO
      have HB : Hid (Below w.heap.size w wr) := hB
      clear hO hB hconv
      go_wp2
      go_ret
      exact ⟨rfl, HB.out⟩
end Go.Proofs.YbulkdevaFmt
