/- The walk of LawS5304CRoundTrip. -/
import Derived.Test.YbulkdevaFmtStr
import Derived.Lib.ConvBytes
namespace Go.Proofs.YbulkdevaFmt
open Go.RowKit
theorem bytesWorld_below {B : Nat} {a w : World} (e : TypeId) (s : ByteArray) (h : Below B a w) (hB : B ≤ w.heap.size) : Below B a (Lib.bytesWorld w e s) :=
  h.trans ⟨rfl, rfl, rfl, by rw [Lib.bytesWorld_size]; omega, fun k hk => Lib.bytesWorld_at_old w e s k (by omega)⟩
/-- Every set of the three permissions is read back from the text that String writes. -/
theorem and7 (x : Int) (hx : 0 ≤ x ∧ x < 18446744073709551616) : ∃ p : Nat, p ≤ 7 ∧ bits .and .u64 x 7 = p := by
  obtain ⟨X, rfl⟩ := Int.eq_ofNat_of_zero_le hx.1
  refine ⟨X &&& 7, ?_, u64_and_nat X 7 (by omega) (by omega)⟩
  rw [nat_mask3]; omega
def sb (p : Int) (i : Nat) : Int := (sl p 3).getD i 0
theorem sl_mem (p : Int) : ∀ k, ∀ c ∈ sl p k, 0 ≤ c ∧ c ≤ 255
  | 0 => by simp [sl]
  | k + 1 => by
    intro c hc
    simp only [sl, List.mem_append] at hc
    rcases hc with hc | hc
    · exact sl_mem p k c hc
    · split at hc
      · simp at hc
      · simp only [List.mem_singleton] at hc
        subst hc
        unfold lett
        match k with
        | 0 => decide
        | 1 => decide
        | 2 => decide
        | _ + 3 => simp
theorem sb_bd (p : Int) (i : Nat) : 0 ≤ sb p i ∧ sb p i ≤ 255 := by
  unfold sb
  by_cases hi : i < (sl p 3).length
  · exact sl_mem p 3 _ (by simp [hi])
  · simp [List.getElem?_eq_none (Nat.le_of_not_lt hi)]
theorem back (p : Nat) (hp : p ≤ 7) : st (sb p) (sl p 3).length 3 = ((p : Int), (sl p 3).length) ∧ bits .andNot .u64 (p : Int) 7 = 0 := by
  have h : p = 0 ∨ p = 1 ∨ p = 2 ∨ p = 3 ∨ p = 4 ∨ p = 5 ∨ p = 6 ∨ p = 7 := by omega
  rcases h with rfl | rfl | rfl | rfl | rfl | rfl | rfl | rfl <;> exact ⟨by decide +kernel, by decide +kernel⟩
theorem cell?_setCell_same' {w : World} {b o : Nat} {u v : Value} (h : w.cell? ⟨b, o, none⟩ = some u) : (w.setCell ⟨b, o, none⟩ v).cell? ⟨b, o, none⟩ = some v := by
  unfold World.cell? at h
  split at h
  · rename_i c t fr hb
    have ho : o < c.size := by
      simp only [Option.isSome_none, Bool.false_eq_true, if_false] at h
      exact (Array.getElem?_eq_some_iff.1 h).1
    have hb' : w.heap[b]? = some (.cells c t fr) := hb
    simp [World.cell?, World.setCell, Array.getElem?_modify, hb', ho]
  · cases h
/-- The bytes of the text, as they lie behind '[]byte(s)'. -/
theorem txt_of (p : Int) (w : World) : Txt (Lib.bytesWorld w 5 (strOfNums (sl p 3))) (some ⟨w.heap.size, 0, none⟩) (strOfNums (sl p 3)).size (sb p) := by
  intro _
  refine ⟨w.heap.size, 0, rfl, by rw [Lib.bytesWorld_size]; omega, fun i hi => ?_⟩
  rw [Nat.zero_add, Lib.bytesWorld_cell _ _ _ i hi]
  rw [strOfNums_size] at hi
  have hb := sb_bd p i
  have e : ((strOfNums (sl p 3)).data.toList.getD i 0) = UInt8.ofNat (sb p i).toNat := by
    rw [strOfNums_data]
    simp [sb, hi]
  rw [e]
  have : (UInt8.ofNat (sb p i).toNat).toNat = (sb p i).toNat := by
    rw [UInt8.toNat_ofNat']; omega
  rw [this]
  congr 2
  omega
set_option maxRecDepth 4000 in
set_option maxHeartbeats 1000000 in
theorem rt_walk (x y : Int) (hx : 0 ≤ x ∧ x < 18446744073709551616) (w : World) (hP : PL w) :
    Calls Ybaf.prog 6 #[.int .u64 x, .int .u64 y] w fun e w' => e = .returned (.bool true) ∧ Below w.heap.size w w' := by
  obtain ⟨p, hp, hxp⟩ := and7 x hx
  obtain ⟨hbk, h7⟩ := back p hp
  have HBK : Hid _ := hbk
  have H7 : Hid _ := h7
  have HP : Hid (PL w) := hP
  clear hbk h7 hP hx
  go_enter Ybaf.func6, Ybaf.ntmps6
  go_wp2_with fail
  refine (str_any p _ HP.out H7.out).mono ?_
  rintro e w1 ⟨rfl, hB1⟩
  have HB1 : Hid (Below w.heap.size w w1) := hB1
  have hs1 := hB1.size
  obtain ⟨s, hs⟩ : ∃ s, s = strOfNums (sl p 3) := ⟨_, rfl⟩
  have hcv := Lib.run_convert_string_bytes (P := Ybaf.prog) (w1.alloc (.cells #[.int .u64 y] 37)) 9 22 5 s Ybaf.underlying9 Ybaf.underlying22 Ybaf.underlying5
  rw [← hs]
  have HS : Hid (s = strOfNums (sl p 3)) := hs
  clear hs hB1
  go_wp2_with fail
  have hW2 : Below w.heap.size w (Lib.bytesWorld (w1.alloc (.cells #[.int .u64 y] 37)) 5 s) := bytesWorld_below _ _ (HB1.out.alloc hs1 _) (by simp; omega)
  have hT : Txt (Lib.bytesWorld (w1.alloc (.cells #[.int .u64 y] 37)) 5 s) (some ⟨w1.heap.size + 1, 0, none⟩) s.size (sb p) := by
    have := txt_of p (w1.alloc (.cells #[.int .u64 y] 37))
    rw [HS.out]
    simpa using this
  have hn : s.size = (sl p 3).length := by rw [HS.out, strOfNums_size]
  have hst : st (sb p) s.size 3 = ((p : Int), s.size) := by rw [hn]; exact HBK.out
  have hcell : (Lib.bytesWorld (w1.alloc (.cells #[.int .u64 y] 37)) 5 s).cell? ⟨w1.heap.size, 0, none⟩ = some (.int .u64 y) := by
    rw [Lib.bytesWorld_old _ _ _ _ (by simp), World.cell?_alloc_at _ _ _ _ rfl]; rfl
  have hfz : (Lib.bytesWorld (w1.alloc (.cells #[.int .u64 y] 37)) 5 s).frozen? ⟨w1.heap.size, 0, none⟩ = false := by
    have e : (Lib.bytesWorld (w1.alloc (.cells #[.int .u64 y] 37)) 5 s).frozen? ⟨w1.heap.size, 0, none⟩ = (w1.alloc (.cells #[.int .u64 y] 37)).frozen? ⟨w1.heap.size, 0, none⟩ := World.frozen?_of_block (Lib.bytesWorld_at_old _ _ _ _ (by simp))
    rw [e, World.frozen?_alloc_at _ _ _ _ rfl]
  have hcap := grownCap_ge (w1.alloc (.cells #[.int .u64 y] 37)) s.size 0 5
  have hcap2 := grownCap_le_maxLen (w1.alloc (.cells #[.int .u64 y] 37)) s.size 0 5 (by rw [hn]; have := sl_le p 3; unfold maxLen; omega)
  have hPL := HP.out.below HP.out.1 hW2
  have hsz : w1.heap.size < (Lib.bytesWorld (w1.alloc (.cells #[.int .u64 y] 37)) 5 s).heap.size := by rw [Lib.bytesWorld_size]; simp; omega
  refine (unm_ok w1.heap.size _ s.size _ (sb p) _ _ hPL hT (sb_bd p) hcap (by unfold maxLen at hcap2; omega) hsz hcell hfz (by rw [hst])).mono ?_
  rintro e w3 ⟨rfl, wm, hw, hBm⟩
  rw [hst] at hw
  have hr : w3.cell? ⟨w1.heap.size, 0, none⟩ = some (.int .u64 p) := by
    rw [hw]; exact cell?_setCell_same' ((hBm.cell (p := ⟨w1.heap.size, 0, none⟩) hsz).trans hcell)
  have HB3 : Hid (Below w.heap.size w w3) := by
    rw [hw]; exact (hW2.trans (hBm.mono hW2.size)).setCell hs1 _
  clear hw hBm hPL hfz hcell hT hW2 hcap hcap2 hsz hcv hst hn
  go_wp2
  go_ret
  exact ⟨rfl, HB3.out⟩
end Go.Proofs.YbulkdevaFmt
