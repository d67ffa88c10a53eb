/- The texts of the services, and their join: no Go. -/
import Derived.Test.YbulkdewqFmtBuild
import Derived.Lib.Join
import Derived.Lib.ItoaLen
namespace Go.Proofs.YbulkdewqFmt
open Go.RowKit
/-- The names of the protocols, as the program lays them. -/
def tab : List (List UInt8 × Int) := [([105, 112], 0), ([104, 111, 112, 111, 112, 116], 0), ([105, 99, 109, 112], 1), ([105, 103, 109, 112], 2), ([103, 103, 112], 3), ([105, 112, 101, 110, 99, 97, 112], 4), ([115, 116], 5), ([116, 99, 112], 6), ([101, 103, 112], 8), ([105, 103, 112], 9), ([112, 117, 112], 12), ([117, 100, 112], 17), ([104, 109, 112], 20), ([120, 110, 115, 45, 105, 100, 112], 22), ([114, 100, 112], 27), ([105, 115, 111, 45, 116, 112, 52], 29), ([100, 99, 99, 112], 33), ([120, 116, 112], 36), ([100, 100, 112], 37), ([105, 100, 112, 114, 45, 99, 109, 116, 112], 38), ([105, 112, 118, 54], 41), ([105, 112, 118, 54, 45, 114, 111, 117, 116, 101], 43), ([105, 112, 118, 54, 45, 102, 114, 97, 103], 44), ([105, 100, 114, 112], 45), ([114, 115, 118, 112], 46), ([103, 114, 101], 47), ([101, 115, 112], 50), ([97, 104], 51), ([115, 107, 105, 112], 57), ([105, 112, 118, 54, 45, 105, 99, 109, 112], 58), ([105, 112, 118, 54, 45, 110, 111, 110, 120, 116], 59), ([105, 112, 118, 54, 45, 111, 112, 116, 115], 60), ([114, 115, 112, 102], 73), ([118, 109, 116, 112], 81), ([101, 105, 103, 114, 112], 88), ([111, 115, 112, 102], 89), ([97, 120, 46, 50, 53], 93), ([105, 112, 105, 112], 94), ([101, 116, 104, 101, 114, 105, 112], 97), ([101, 110, 99, 97, 112], 98), ([112, 105, 109], 103), ([105, 112, 99, 111, 109, 112], 108), ([118, 114, 114, 112], 112), ([108, 50, 116, 112], 115), ([105, 115, 105, 115], 124), ([115, 99, 116, 112], 132), ([102, 99], 133), ([109, 111, 98, 105, 108, 105, 116, 121, 45, 104, 101, 97, 100, 101, 114], 135), ([117, 100, 112, 108, 105, 116, 101], 136), ([109, 112, 108, 115, 45, 105, 110, 45, 105, 112], 137), ([109, 97, 110, 101, 116], 138), ([104, 105, 112], 139), ([115, 104, 105, 109, 54], 140), ([119, 101, 115, 112], 141), ([114, 111, 104, 99], 142), ([101, 116, 104, 101, 114, 110, 101, 116], 143)]
def nm (k : Nat) : ByteArray := ⟨(tab.getD k ([], 0)).1.toArray⟩
def nu (k : Nat) : Int := (tab.getD k ([], 0)).2
/-- Where a protocol's first name stands. -/
def ix (p : Int) : Nat := tab.findIdx fun x => x.2 == p
theorem named_ten {p : Int} (h : named p = true) : p = 1 ∨ p = 2 ∨ p = 6 ∨ p = 17 ∨ p = 33 ∨ p = 47 ∨ p = 50 ∨ p = 51 ∨ p = 132 ∨ p = 136 := by
  simpa [named, Bool.or_eq_true, or_assoc] using h
theorem ix_named {p : Int} (h : named p = true) : ix p < 56 ∧ nu (ix p) = p ∧ (∀ j, j < ix p → nu j ≠ p) ∧ (nm (ix p)).toList ≠ [] ∧ (nm (ix p)).data.toList.length ≤ 7 := by
  rcases named_ten h with rfl | rfl | rfl | rfl | rfl | rfl | rfl | rfl | rfl | rfl <;> refine ⟨by decide, by decide, by decide, ?_, by decide⟩ <;> (rw [ByteArray.toList_eq]; decide)
/-- Is the protocol's name one of those that an activity reads? -/
def inm (p : Int) : Bool := p == 1 || p == 6 || p == 17
/-- Does the protocol carry ports? -/
def hp (p : Int) : Bool := p == 6 || p == 17 || p == 33 || p == 132 || p == 136
def bs (l : List UInt8) : ByteArray := ⟨l.toArray⟩
/-- The words of one port range. -/
def port (word : ByteArray) (f l : Int) : List ByteArray := if f = 0 ∧ l = 65535 then [] else if f = l then [word, bs (Lib.itoa f)] else [word, bs (Lib.itoa f ++ [45] ++ Lib.itoa l)]
/-- The words of one range of ICMP types or codes. -/
def icmp (word : ByteArray) (f l : Int) : List ByteArray := if f = 0 ∧ l = 255 then [] else [word, bs (Lib.itoa f)]
def w0 (p : Int) : List ByteArray := if inm p then [nm (ix p)] else [⟨#[112, 114, 111, 116, 111]⟩, nm (ix p)]
def wsport : ByteArray := ⟨#[115, 112, 111, 114, 116]⟩
def wdport : ByteArray := ⟨#[100, 112, 111, 114, 116]⟩
def wtype : ByteArray := ⟨#[116, 121, 112, 101]⟩
def wcode : ByteArray := ⟨#[99, 111, 100, 101]⟩
/-- The words behind the protocol's. -/
def more (p x1 x2 x3 x4 x5 x6 x7 x8 : Int) : List ByteArray := if p = 1 then icmp wtype x5 x6 ++ icmp wcode x7 x8 else if hp p then port wsport x1 x2 ++ port wdport x3 x4 else []
def jn (l : List ByteArray) : List UInt8 := Lib.join (l.map (·.data.toList)) [32]
/-- The text of a service. -/
def txt (p x1 x2 x3 x4 x5 x6 x7 x8 : Int) : List UInt8 := if p = 0 then [97, 110, 121] else if named p then jn (w0 p ++ more p x1 x2 x3 x4 x5 x6 x7 x8) else [112, 114, 111, 116, 111, 32] ++ Lib.itoa p
/-! ### How long -/
theorem lens_le (L : Nat) : ∀ xs : List (List UInt8), (∀ x ∈ xs, x.length ≤ L) → Lib.lens xs ≤ xs.length * L
  | [], _ => by simp [Lib.lens]
  | x :: r, h => by
    have ih := lens_le L r fun y hy => h y (by simp [hy])
    have hx := h x (by simp)
    simp only [Lib.lens, List.map_cons, List.sum_cons, List.length_cons] at ih ⊢
    rw [Nat.add_mul]
    omega
theorem join_le (L : Nat) (sep : List UInt8) (xs : List (List UInt8)) (h : ∀ x ∈ xs, x.length ≤ L) : (Lib.join xs sep).length ≤ xs.length * (L + sep.length) := by
  cases xs with
  | nil => simp [Lib.join, List.intercalate]
  | cons x r =>
    have hl := lens_le L (x :: r) h
    rw [Lib.join_length, Nat.mul_add, List.length_cons, Nat.mul_comm sep.length r.length]
    simp only [List.length_cons] at hl
    have : r.length * sep.length ≤ (r.length + 1) * sep.length := Nat.mul_le_mul_right _ (Nat.le_succ _)
    omega
/-- A number of sixteen bits. -/
def U16 (x : Int) : Prop := 0 ≤ x ∧ x ≤ 65535
theorem itoa16 {x : Int} (h : U16 x) : (Lib.itoa x).length ≤ 21 := Lib.itoa_length_le _ (by have := h.1; omega) (by have := h.2; omega)
def Short (l : List ByteArray) : Prop := ∀ x ∈ l, x.data.toList.length ≤ 43
theorem Short.app {l l' : List ByteArray} (h : Short l) (h' : Short l') : Short (l ++ l') := by
  intro x hx
  rcases List.mem_append.1 hx with hx | hx
  · exact h x hx
  · exact h' x hx
theorem port_short {word : ByteArray} {f l : Int} (hw : word.data.toList.length ≤ 5) (hf : U16 f) (hl : U16 l) : Short (port word f l) ∧ (port word f l).length ≤ 2 := by
  have h1 := itoa16 hf
  have h2 := itoa16 hl
  unfold port
  split
  · exact ⟨fun x hx => by simp at hx, by simp⟩
  · split <;> refine ⟨fun x hx => ?_, by simp⟩
    · simp only [List.mem_cons, List.not_mem_nil, or_false] at hx
      rcases hx with rfl | rfl
      · omega
      · simp only [bs]; omega
    · simp only [List.mem_cons, List.not_mem_nil, or_false] at hx
      rcases hx with rfl | rfl
      · omega
      · simp only [bs, List.length_append, List.length_cons, List.length_nil]; omega
theorem icmp_short {word : ByteArray} {f l : Int} (hw : word.data.toList.length ≤ 5) (hf : U16 f) : Short (icmp word f l) ∧ (icmp word f l).length ≤ 2 := by
  have h1 := itoa16 hf
  unfold icmp
  split
  · exact ⟨fun x hx => by simp at hx, by simp⟩
  · refine ⟨fun x hx => ?_, by simp⟩
    simp only [List.mem_cons, List.not_mem_nil, or_false] at hx
    rcases hx with rfl | rfl
    · omega
    · simp only [bs]; omega
theorem w0_short {p : Int} (h : named p = true) : Short (w0 p) ∧ (w0 p).length ≤ 2 := by
  have hl := (ix_named h).2.2.2.2
  unfold w0
  split
  · refine ⟨fun x hx => ?_, by simp⟩
    simp only [List.mem_cons, List.not_mem_nil, or_false] at hx
    subst hx
    omega
  · refine ⟨fun x hx => ?_, by simp⟩
    simp only [List.mem_cons, List.not_mem_nil, or_false] at hx
    rcases hx with rfl | rfl
    · simp
    · omega
theorem more_short {p x1 x2 x3 x4 x5 x6 x7 x8 : Int} (h1 : U16 x1) (h2 : U16 x2) (h3 : U16 x3) (h4 : U16 x4) (h5 : U16 x5) (h7 : U16 x7) : Short (more p x1 x2 x3 x4 x5 x6 x7 x8) ∧ (more p x1 x2 x3 x4 x5 x6 x7 x8).length ≤ 4 := by
  unfold more
  split
  · have a := icmp_short (word := wtype) (l := x6) (by decide) h5
    have b := icmp_short (word := wcode) (l := x8) (by decide) h7
    exact ⟨a.1.app b.1, by rw [List.length_append]; omega⟩
  · split
    · have a := port_short (word := wsport) (by decide) h1 h2
      have b := port_short (word := wdport) (by decide) h3 h4
      exact ⟨a.1.app b.1, by rw [List.length_append]; omega⟩
    · exact ⟨fun x hx => by simp at hx, by simp⟩
theorem jn_le {l : List ByteArray} (h : Short l) (h6 : l.length ≤ 6) : (jn l).length ≤ 264 := by
  have hb := join_le 43 [32] (l.map (·.data.toList)) (fun x hx => by
    obtain ⟨y, hy, rfl⟩ := List.mem_map.1 hx
    exact h y hy)
  unfold jn
  simp only [List.length_map, List.length_cons, List.length_nil] at hb
  omega
theorem txt_le {p x1 x2 x3 x4 x5 x6 x7 x8 : Int} (hp : 0 ≤ p ∧ p ≤ 255) (h1 : U16 x1) (h2 : U16 x2) (h3 : U16 x3) (h4 : U16 x4) (h5 : U16 x5) (h7 : U16 x7) : (txt p x1 x2 x3 x4 x5 x6 x7 x8).length ≤ 264 := by
  unfold txt
  split
  · simp
  · split
    · rename_i hn
      have a := w0_short hn
      have b := more_short (p := p) (x6 := x6) (x8 := x8) h1 h2 h3 h4 h5 h7
      exact jn_le (a.1.app b.1) (by rw [List.length_append]; omega)
    · have := itoa16 (x := p) ⟨hp.1, by omega⟩
      simp only [List.length_append, List.length_cons, List.length_nil]
      omega
/-! ### The join -/
/-- The first k texts, parted by ", ". -/
def wantT (t : Nat → List UInt8) : Nat → List UInt8
  | 0 => []
  | k + 1 => (if 0 < k then wantT t k ++ [44, 32] else wantT t k) ++ t k
theorem wantT_join (t : Nat → List UInt8) : ∀ k, Lib.join ((List.range k).map t) [44, 32] = wantT t k
  | 0 => rfl
  | k + 1 => by
    have ih := wantT_join t k
    rw [List.range_succ, List.map_append, List.map_singleton]
    unfold wantT
    by_cases hk : 0 < k
    · rw [if_pos hk]
      obtain ⟨k', rfl⟩ : ∃ k', k = k' + 1 := ⟨k - 1, by omega⟩
      rw [← ih]
      rw [List.range_succ_eq_map, List.map_cons, List.cons_append, Lib.join_cons, Lib.join_cons]
      simp [Lib.joinTail]
    · rw [if_neg hk]
      have : k = 0 := by omega
      subst this
      simp [wantT, Lib.join_one]
theorem wantT_length (t : Nat → List UInt8) : ∀ k, (∀ i, i < k → (t i).length ≤ 264) → (wantT t k).length ≤ 266 * k
  | 0, _ => by simp [wantT]
  | k + 1, h => by
    have ih := wantT_length t k (fun i hi => h i (by omega))
    have ht := h k (by omega)
    unfold wantT
    split <;> simp only [List.length_append, List.length_cons, List.length_nil] <;> omega
end Go.Proofs.YbulkdewqFmt
