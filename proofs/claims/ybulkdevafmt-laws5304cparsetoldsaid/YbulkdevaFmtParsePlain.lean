/- Which texts UnmarshalText accepts: the plain law. -/
import Derived.Test.YbulkdevaFmtUnmErr
import Derived.Laws.BytesArg
namespace Go.Proofs.YbulkdevaFmt
open Go.RowKit
def tabI (k : Nat) : List Int := [[], [114], [119], [120], [114, 119], [114, 120], [119, 120], [114, 119, 120]].getD k []
def tabU (k : Nat) : List UInt8 := [[], [114], [119], [120], [114, 119], [114, 120], [119, 120], [114, 119, 120]].getD k []
def permT (k : Nat) : Int := [0, 1, 2, 4, 3, 5, 6, 7].getD k 0
theorem u8_eq {a : Int} (ha : 0 ≤ a ∧ a ≤ 255) {k : Nat} (hk : k ≤ 255) (h : UInt8.ofNat a.toNat = UInt8.ofNat k) : a = k := by
  have := congrArg UInt8.toNat h
  rw [UInt8.toNat_ofNat', UInt8.toNat_ofNat'] at this
  omega
/-- The string's bytes. -/
theorem str_list (bs : Nat → Int) (n : Nat) : (strOfNums (xsOf bs n)).toList = (List.range n).map fun i => UInt8.ofNat (bs i).toNat := by
  rw [ByteArray.toList_eq, strOfNums_data]
  simp [xsOf]
theorem at_eq {bs : Nat → Int} {n : Nat} (hb : ∀ i, 0 ≤ bs i ∧ bs i ≤ 255) {l : List UInt8} (h : ((List.range n).map fun i => UInt8.ofNat (bs i).toNat) = l) {i k : Nat} (hk : k ≤ 255) (hl : l[i]? = some (UInt8.ofNat k)) : bs i = k := by
  rw [← h] at hl
  by_cases hi : i < n
  · simp [hi] at hl
    exact u8_eq (hb i) hk hl
  · simp [List.getElem?_eq_none (show ((List.range n).map fun i => UInt8.ofNat (bs i).toNat).length ≤ i by simp; omega)] at hl
theorem bor1 : bits .or .u64 0 1 = 1 := by decide +kernel
theorem bor2 : bits .or .u64 0 2 = 2 := by decide +kernel
theorem bor4 : bits .or .u64 0 4 = 4 := by decide +kernel
theorem bor12 : bits .or .u64 1 2 = 3 := by decide +kernel
theorem bor14 : bits .or .u64 1 4 = 5 := by decide +kernel
theorem bor24 : bits .or .u64 2 4 = 6 := by decide +kernel
theorem bor34 : bits .or .u64 3 4 = 7 := by decide +kernel
/-- A text of the table is accepted, as the set that the table names. -/
theorem plain_hit {bs : Nat → Int} {n : Nat} (hb : ∀ i, 0 ≤ bs i ∧ bs i ≤ 255) {j : Nat} (hj : j < 8) (h : (strOfNums (xsOf bs n)).toList = tabU j) : st bs n 3 = (permT j, n) := by
  rw [str_list] at h
  have hn : n = (tabU j).length := by have := congrArg List.length h; simpa using this
  have hcs : j = 0 ∨ j = 1 ∨ j = 2 ∨ j = 3 ∨ j = 4 ∨ j = 5 ∨ j = 6 ∨ j = 7 := by omega
  rcases hcs with rfl | rfl | rfl | rfl | rfl | rfl | rfl | rfl
  · have hn' : n = 0 := hn
    subst hn'; simp [st, stp, permT]
  · have hn' : n = 1 := hn
    have g0 := at_eq hb h (i := 0) (k := 114) (by omega) rfl
    subst hn'; simp [st, stp, permT, lett, prm, g0, bor1]
  · have hn' : n = 1 := hn
    have g0 := at_eq hb h (i := 0) (k := 119) (by omega) rfl
    subst hn'; simp [st, stp, permT, lett, prm, g0, bor2]
  · have hn' : n = 1 := hn
    have g0 := at_eq hb h (i := 0) (k := 120) (by omega) rfl
    subst hn'; simp [st, stp, permT, lett, prm, g0, bor4]
  · have hn' : n = 2 := hn
    have g0 := at_eq hb h (i := 0) (k := 114) (by omega) rfl
    have g1 := at_eq hb h (i := 1) (k := 119) (by omega) rfl
    subst hn'; simp [st, stp, permT, lett, prm, g0, g1, bor1, bor12]
  · have hn' : n = 2 := hn
    have g0 := at_eq hb h (i := 0) (k := 114) (by omega) rfl
    have g1 := at_eq hb h (i := 1) (k := 120) (by omega) rfl
    subst hn'; simp [st, stp, permT, lett, prm, g0, g1, bor1, bor14]
  · have hn' : n = 2 := hn
    have g0 := at_eq hb h (i := 0) (k := 119) (by omega) rfl
    have g1 := at_eq hb h (i := 1) (k := 120) (by omega) rfl
    subst hn'; simp [st, stp, permT, lett, prm, g0, g1, bor2, bor24]
  · have hn' : n = 3 := hn
    have g0 := at_eq hb h (i := 0) (k := 114) (by omega) rfl
    have g1 := at_eq hb h (i := 1) (k := 119) (by omega) rfl
    have g2 := at_eq hb h (i := 2) (k := 120) (by omega) rfl
    subst hn'; simp [st, stp, permT, lett, prm, g0, g1, g2, bor1, bor12, bor34]
theorem stp_cases (bs : Nat → Int) (n k d : Nat) (v : Int) : (d < n ∧ bs d = lett k ∧ stp bs n k (v, d) = (bits .or .u64 v (prm k), d + 1)) ∨ stp bs n k (v, d) = (v, d) := by
  by_cases h : d < n ∧ bs d = lett k
  · exact .inl ⟨h.1, h.2, stp_hit h.1 h.2⟩
  · refine .inr ?_
    unfold stp
    rw [if_neg h]
theorem lett0 : lett 0 = 114 := rfl
theorem lett1 : lett 1 = 119 := rfl
theorem lett2 : lett 2 = 120 := rfl
/-- A text that is accepted is one of the table's. -/
theorem plain_miss {bs : Nat → Int} {n : Nat} (h : (st bs n 3).2 = n) : ∃ j, j < 8 ∧ (strOfNums (xsOf bs n)).toList = tabU j := by
  rw [str_list]
  have e : st bs n 3 = stp bs n 2 (stp bs n 1 (stp bs n 0 (0, 0))) := rfl
  rw [e] at h
  rcases stp_cases bs n 0 0 0 with ⟨_, a0, e0⟩ | e0 <;> rw [e0] at h
  · rw [lett0] at a0
    rcases stp_cases bs n 1 1 (bits .or .u64 0 (prm 0)) with ⟨_, a1, e1⟩ | e1 <;> rw [e1] at h
    · rw [lett1] at a1
      rcases stp_cases bs n 2 2 (bits .or .u64 (bits .or .u64 0 (prm 0)) (prm 1)) with ⟨_, a2, e2⟩ | e2 <;> rw [e2] at h
      · rw [lett2] at a2
        have hn : n = 3 := h.symm
        subst hn
        exact ⟨7, by omega, by simp [tabU, List.range_succ, a0, a1, a2]⟩
      · have hn : n = 2 := h.symm
        subst hn
        exact ⟨4, by omega, by simp [tabU, List.range_succ, a0, a1]⟩
    · rcases stp_cases bs n 2 1 (bits .or .u64 0 (prm 0)) with ⟨_, a2, e2⟩ | e2 <;> rw [e2] at h
      · rw [lett2] at a2
        have hn : n = 2 := h.symm
        subst hn
        exact ⟨5, by omega, by simp [tabU, List.range_succ, a0, a2]⟩
      · have hn : n = 1 := h.symm
        subst hn
        exact ⟨1, by omega, by simp [tabU, List.range_succ, a0]⟩
  · rcases stp_cases bs n 1 0 0 with ⟨_, a1, e1⟩ | e1 <;> rw [e1] at h
    · rw [lett1] at a1
      rcases stp_cases bs n 2 1 (bits .or .u64 0 (prm 1)) with ⟨_, a2, e2⟩ | e2 <;> rw [e2] at h
      · rw [lett2] at a2
        have hn : n = 2 := h.symm
        subst hn
        exact ⟨6, by omega, by simp [tabU, List.range_succ, a1, a2]⟩
      · have hn : n = 1 := h.symm
        subst hn
        exact ⟨2, by omega, by simp [tabU, List.range_succ, a1]⟩
    · rcases stp_cases bs n 2 0 0 with ⟨_, a2, e2⟩ | e2 <;> rw [e2] at h
      · rw [lett2] at a2
        have hn : n = 1 := h.symm
        subst hn
        exact ⟨3, by omega, by simp [tabU, List.range_succ, a2]⟩
      · have hn : n = 0 := h.symm
        subst hn
        exact ⟨0, by omega, by simp [tabU]⟩
end Go.Proofs.YbulkdevaFmt
