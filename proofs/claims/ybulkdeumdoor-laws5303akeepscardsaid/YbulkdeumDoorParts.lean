/- Small facts for the two laws: composite literals, make, copy, the bytes that came in, the sentinel. -/
import Derived.Test.YbulkdeumDoorNeigh
import Derived.Laws.CopyOwn
namespace Go.Proofs.YbulkdeumDoor
open Go.RowKit
theorem wpList_build0 {P : Program} {ops : Array Oper} {rest : List Oper} {o : Oper} {a : Act} {w : World} {Q : Exit → Act → World → Prop} (hgd : o.guard = none) (t : TypeId) (ho : o.op = .build t #[])
    (Z : Array Value) (hZ : P.built t [] = some Z) (h : wpList P ops Q rest (a.put o.dst (.agg Z)) w) : wpList P ops Q (o :: rest) a w :=
  wpList_plain hgd fun _ hK => wp_build t #[] ho (by simp [hZ]) (by simp only [List.map_toArray, List.map_nil, hZ, Option.getD_some]; exact hK _ _ h)
theorem wpList_build1 {P : Program} {ops : Array Oper} {rest : List Oper} {o : Oper} {a : Act} {w : World} {Q : Exit → Act → World → Prop} (hgd : o.guard = none) (t : TypeId) (i : Nat) (x : Operand) (ho : o.op = .build t #[(i, x)])
    (v : Value) (hv : a.eval x = v) (Z : Array Value) (hZ : P.built t [(i, v)] = some Z) (h : wpList P ops Q rest (a.put o.dst (.agg Z)) w) : wpList P ops Q (o :: rest) a w :=
  wpList_plain hgd fun _ hK => wp_build t #[(i, x)] ho (by simp [hv, hZ]) (by simp only [List.map_toArray, List.map_cons, List.map_nil, hv, hZ, Option.getD_some]; exact hK _ _ h)
set_option maxRecDepth 100000 in
theorem link_built0 (a : Option Addr) (n c : Nat) : (Ybad.prog.built 55 [(11, .slice a n c)]).map (fun L => L[19]?) = some (some (.slice a n c)) := by kernel_rfl
set_option maxRecDepth 100000 in
theorem msg_built0 (a : Option Addr) (n c : Nat) : (Ybad.prog.built 122 [(4, .slice a n c)]).map (fun L => L[19]?) = some (some (.slice a n c)) := by kernel_rfl
set_option maxRecDepth 100000 in
theorem peer_built0 : (Ybad.prog.built 118 []).isSome = true := by kernel_rfl
theorem link_built (a : Option Addr) (n c : Nat) : ∃ L, Ybad.prog.built 55 [(11, .slice a n c)] = some L ∧ L[19]? = some (.slice a n c) := by
  have h := link_built0 a n c
  cases hb : Ybad.prog.built 55 [(11, .slice a n c)] with
  | none => rw [hb] at h; cases h
  | some L => rw [hb] at h; exact ⟨L, rfl, by simpa using h⟩
theorem msg_built (a : Option Addr) (n c : Nat) : ∃ L, Ybad.prog.built 122 [(4, .slice a n c)] = some L ∧ L[19]? = some (.slice a n c) := by
  have h := msg_built0 a n c
  cases hb : Ybad.prog.built 122 [(4, .slice a n c)] with
  | none => rw [hb] at h; cases h
  | some L => rw [hb] at h; exact ⟨L, rfl, by simpa using h⟩
theorem peer_built : ∃ L, Ybad.prog.built 118 [] = some L := Option.isSome_iff_exists.1 peer_built0
theorem Ybad.info5 : (Ybad.prog.info? 5).map (fun i => (i.zero, i.size, i.bytes)) = some (some (.int .u8 0), 1, 1) := by kernel_rfl
theorem size5 : (Ybad.prog.info? 5).map (·.size) = some 1 := by kernel_rfl
/-- 'make([]byte, l, c)' -/
theorem make5 (l c : Nat) (hlc : l ≤ c) (hn : c ≤ 1000000) :
    ∃ C : Array Value, C.size = c ∧ ∀ w : World, (Instr.makeSlice 23 (.int .i64 l) (.int .i64 c)).run Ybad.prog w = .ok (.slice (some ⟨w.heap.size, 0, none⟩) l c) (w.alloc (.cells C 5)) := by
  obtain ⟨i, hi, hz, hsz, hby⟩ := info_parts Ybad.info5
  refine ⟨madeCells #[.int .u8 0] c, size_madeCells _ _, fun w => ?_⟩
  have h := run_make (P := Ybad.prog) w 23 5 i _ Ybad.underlying23 hi hz .i64 .i64 l c (by omega) (by omega) (by rw [hby]; omega) (by omega)
  rw [h, hsz]
  simp [Value.cells]
/-- A slice of bytes that came in. -/
def Bytes (w : World) (a : Option Addr) (len cap : Nat) (bs : Nat → Int) : Prop :=
  len ≤ cap ∧ (∀ i, B8 (bs i)) ∧ (0 < len → ∃ b off, a = some ⟨b, off, none⟩ ∧ b < w.heap.size ∧ ∀ i, i < len → w.cell? ⟨b, off + i, none⟩ = some (.int .u8 (bs i)))
def bcs (bs : Nat → Int) (len : Nat) : List Value := (List.range len).map fun i => .int .u8 (bs i)
theorem bcs_length (bs : Nat → Int) (len : Nat) : (bcs bs len).length = len := by simp [bcs]
theorem bcs_at (bs : Nat → Int) (len j : Nat) (v : Value) (h : (bcs bs len)[j]? = some v) : j < len ∧ v = .int .u8 (bs j) := by
  have hj : j < len := by have := (List.getElem?_eq_some_iff.1 h).1; rwa [bcs_length] at this
  refine ⟨hj, ?_⟩
  simp [bcs, hj] at h
  exact h.symm
theorem bcs_one (bs : Nat → Int) (len : Nat) : ∀ v ∈ bcs bs len, v.oneCell' = true := by
  intro v hv
  simp only [bcs, List.mem_map, List.mem_range] at hv
  obtain ⟨i, _, rfl⟩ := hv
  rfl
theorem addr_add (b off i : Nat) : (⟨b, off, none⟩ : Addr).add i = ⟨b, off + i, none⟩ := by
  unfold Addr.add; split <;> simp_all
theorem splice_all {α : Type} (L cs : List α) (h : L.length = cs.length) : splice L 0 cs = cs := by
  simp [splice, ← h]
theorem cells_of_bcs {w : World} {g : Nat} {bs : Nat → Int} {len : Nat} (h : w.heap[g]? = some (.cells (bcs bs len).toArray 5 (0, 0))) : ∀ i, i < len → w.cell? ⟨g, i, none⟩ = some (.int .u8 (bs i)) := by
  intro i hi
  simp [World.cell?, h, bcs, hi]
/-- The sentinel's one element. -/
def sen : List (Int × Int) := [(lo4 9 9 9 9, 9)]
theorem lie_sen {w : World} {g : Nat} {z : Option Addr} (h : w.heap[g]? = some (.cells #[.int .u64 0, .int .u64 (lo4 9 9 9 9), .pointer z, .int .u16 9] 38)) : Lie w g z sen := by
  intro i hi
  have : i = 0 := by simp [sen] at hi; exact hi
  subst this
  simp [World.cell?, h, sen]
theorem Lie.below {w w' : World} {g B : Nat} {z : Option Addr} {l : List (Int × Int)} (h : Lie w g z l) (b : Below B w w') (hg : g < B) : Lie w' g z l := by
  intro i hi
  obtain ⟨a, b', c, d⟩ := h i hi
  exact ⟨(b.cell (p := ⟨g, _, none⟩) hg).trans a, (b.cell (p := ⟨g, _, none⟩) hg).trans b', (b.cell (p := ⟨g, _, none⟩) hg).trans c, (b.cell (p := ⟨g, _, none⟩) hg).trans d⟩
theorem copy_pos {w : World} {a0 : Option Addr} {len cap : Nat} {bs : Nat → Int} (hb : Bytes w a0 len cap bs) (o : Obj) :
    0 < (bcs bs len).length → some (⟨w.heap.size, 0, none⟩ : Addr) = some ⟨w.heap.size, 0, none⟩ ∧ ∃ ad, a0 = some ad ∧ ∀ j v, (bcs bs len)[j]? = some v → (w.alloc o).cell? (ad.add j) = some v := by
  intro hp
  rw [bcs_length] at hp
  obtain ⟨b, off, ha, hlt, hc⟩ := hb.2.2 hp
  refine ⟨rfl, _, ha, fun j v hv => ?_⟩
  obtain ⟨hj, rfl⟩ := bcs_at _ _ _ _ hv
  rw [addr_add, World.cell?_alloc_past _ _ _ hlt]
  exact hc j hj
theorem alloc_heap (w : World) (C : Array Value) (t : TypeId) : (w.alloc (.cells C t)).heap[w.heap.size]? = some (.cells C.toList.toArray t (0, 0)) := by
  show (w.heap.push _)[w.heap.size]? = _
  simp
end Go.Proofs.YbulkdeumDoor
