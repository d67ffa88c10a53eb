/- String at the protocols that carry ports. -/
import Derived.Test.YbulkdewqFmtJPush
namespace Go.Proofs.YbulkdewqFmt
open Go.RowKit
theorem wp_push2 (w : World) {o : Oper} {a : Act} {K : Act → World → Prop} {Q : Exit → Act → World → Prop} (s x : Operand) (ho : o.op = .call { callee := .builtin .append, args := #[s, x], argTypes := #[28, 28] })
    (base : Nat) (v : Value) (xs : List ByteArray) (hs : a.eval s = v) (hown : Own w base v xs) (blk : Nat) (u1 u2 : ByteArray) (hx : a.eval x = .slice (some ⟨blk, 0, none⟩) 2 2) (h0 : w.cell? ⟨blk, 0, none⟩ = some (.string u1)) (h1 : w.cell? ⟨blk, 1, none⟩ = some (.string u2))
    (h6 : xs.length ≤ 6) (hbase : base ≤ w.heap.size) (h : ∀ v' w', Own w' base v' (xs ++ [u1, u2]) → w.grownBy w' v.ownBlock → (v'.ownBlock = v.ownBlock ∨ v'.ownBlock = some w.heap.size) → K (a.put o.dst v') w') : o.wp Ybaf.prog a w K Q := by
  obtain ⟨i, hi, hz, hsz, hby⟩ := info_parts Ybaf.info9'
  refine wp_append_lies w s x 28 ho base 9 i (.string ⟨#[]⟩) 1 16 Ybaf.underlying28 hi hz hsz hby rfl (by decide) v xs.length (xs.map Value.string) hs hown ⟨blk, 0, none⟩ 2 2 [.string u1, .string u2] hx rfl (two_cells h0 h1) one_cells (by omega) (by unfold maxLen; omega) (by omega) hbase _ rfl ?_
  intro g cap w' hown' hg hat _
  refine h _ w' (by simpa [Own] using hown') hg ?_
  rcases hat with hat | hat
  · exact Or.inl hat.symm
  · exact Or.inr (by rw [hat]; rfl)
theorem step_push2 (w : World) {ops : Array Oper} {o : Oper} {a : Act} {K : Act → World → Prop} {Q : Exit → Act → World → Prop} {E : Prop} (hgd : o.guard = none) (s x : Operand) (ho : o.op = .call { callee := .builtin .append, args := #[s, x], argTypes := #[28, 28] })
    (base : Nat) (v : Value) (xs : List ByteArray) (hs : a.eval s = v) (hown : Own w base v xs) (blk : Nat) (u1 u2 : ByteArray) (hx : a.eval x = .slice (some ⟨blk, 0, none⟩) 2 2) (h0 : w.cell? ⟨blk, 0, none⟩ = some (.string u1)) (h1 : w.cell? ⟨blk, 1, none⟩ = some (.string u2))
    (h6 : xs.length ≤ 6) (hbase : base ≤ w.heap.size) (h : ∀ v' w', Own w' base v' (xs ++ [u1, u2]) → w.grownBy w' v.ownBlock → (v'.ownBlock = v.ownBlock ∨ v'.ownBlock = some w.heap.size) → K (a.put o.dst v') w') : if Region.wanted o (yielded ops a.tmps) = true then Oper.wp Ybaf.prog o a w K Q else E := by
  have hw : Region.wanted o (yielded ops a.tmps) = true := by simp [Region.wanted, hgd]
  rw [if_pos hw]
  exact wp_push2 w s x ho base v xs hs hown blk u1 u2 hx h0 h1 h6 hbase h
theorem new_iface (W : World) (v : Value) (t : TypeId) : (W.alloc (.cells #[v] t)).cell? ⟨W.heap.size, 0, none⟩ = some v := by
  rw [World.cell?_alloc_at _ _ _ _ rfl]
  rfl
/-- The text of a port range. -/
def rng (f l : Int) : ByteArray := bs (Lib.itoa f ++ [45] ++ Lib.itoa l)
theorem step_sprintf' (F : Stop.Interp) (w : World) {ops : Array Oper} {o : Oper} {a : Act} {K : Act → World → Prop} {Q : Exit → Act → World → Prop} {E : Prop} (hgd : o.guard = none) (x : Operand) (ho : o.op = .call { callee := .value (.func 32), args := #[.const (.string rangeFmt), x], argTypes := #[9, 152] }) (b : Nat) (hx : a.eval x = .slice (some ⟨b, 0, none⟩) 2 2)
    (n m : Int) (hn : U16 n) (hm : U16 m) (hF : F.told.answers w.tape) (hc : w.cell? ⟨b, 0, none⟩ = some (.iface 110 (.int .u16 n))) (hc' : w.cell? ⟨b, 1, none⟩ = some (.iface 110 (.int .u16 m)))
    (h : K (a.put o.dst (.string (rng n m))) w.drew) : if Region.wanted o (yielded ops a.tmps) = true then Oper.wp Ybaf.prog o a w K Q else E :=
  step_sprintf F w hgd x ho b hx n m hn hm hF hc hc' h
theorem port_all {word : ByteArray} {f l : Int} (h : true = decide (f = 0 ∧ l = 65535)) : port word f l = [] := by
  unfold port
  rw [if_pos (by simpa using h)]
theorem port_one {word : ByteArray} {f : Int} : port word f f = [word, bs (Lib.itoa f)] := by
  unfold port
  rw [if_neg (by rintro ⟨a, b⟩; omega), if_pos rfl]
theorem port_two {word : ByteArray} {f l : Int} (h : false = decide (f = 0 ∧ l = 65535)) (hne : f ≠ l) : port word f l = [word, bs (Lib.itoa f ++ [45] ++ Lib.itoa l)] := by
  unfold port
  rw [if_neg (by intro hc; simp [hc] at h), if_neg hne]
def wdk (k : Nat) : ByteArray := if k = 0 then wsport else wdport
/-- The words when k port ranges have been written. -/
def ws (p x1 x2 x3 x4 : Int) : Nat → List ByteArray
  | 0 => w0 p
  | 1 => w0 p ++ port wsport x1 x2
  | _ => w0 p ++ (port wsport x1 x2 ++ port wdport x3 x4)
theorem ws_next (p x1 x2 x3 x4 : Int) (k : Nat) (hk : k < 2) : ws p x1 x2 x3 x4 (k + 1) = ws p x1 x2 x3 x4 k ++ port (wdk k) (if k = 0 then x1 else x3) (if k = 0 then x2 else x4) := by
  rcases (show k = 0 ∨ k = 1 by omega) with rfl | rfl
  · rfl
  · show w0 p ++ (port wsport x1 x2 ++ port wdport x3 x4) = w0 p ++ port wsport x1 x2 ++ port wdport x3 x4
    rw [List.append_assoc]
theorem ws_short {p x1 x2 x3 x4 : Int} (hn : named p = true) (h1 : U16 x1) (h2 : U16 x2) (h3 : U16 x3) (h4 : U16 x4) : ∀ k, Short (ws p x1 x2 x3 x4 k) ∧ (ws p x1 x2 x3 x4 k).length ≤ 6 ∧ ws p x1 x2 x3 x4 k ≠ [] := by
  have a := w0_short hn
  have b := port_short (word := wsport) (by decide) h1 h2
  have d := port_short (word := wdport) (by decide) h3 h4
  have hne : w0 p ≠ [] := by unfold w0; split <;> simp
  intro k
  match k with
  | 0 => exact ⟨a.1, by show (w0 p).length ≤ 6; omega, hne⟩
  | 1 => exact ⟨a.1.app b.1, by show (w0 p ++ port wsport x1 x2).length ≤ 6; rw [List.length_append]; omega, by show w0 p ++ _ ≠ []; simp [hne]⟩
  | k + 2 => exact ⟨a.1.app (b.1.app d.1), by show (w0 p ++ (port wsport x1 x2 ++ port wdport x3 x4)).length ≤ 6; rw [List.length_append, List.length_append]; omega, by show w0 p ++ _ ≠ []; simp [hne]⟩
/-- The two options in their block. -/
def Opts (X : Nat) (x1 x2 x3 x4 : Int) (w : World) : Prop := X < w.heap.size ∧ ∀ k, k < 2 → w.cell? ⟨X, k * 3, none⟩ = some (.string (wdk k)) ∧ w.cell? ⟨X, k * 3 + 1, none⟩ = some (.int .u16 (if k = 0 then x1 else x3)) ∧ w.cell? ⟨X, k * 3 + 2, none⟩ = some (.int .u16 (if k = 0 then x2 else x4))
theorem Opts.below {X : Nat} {x1 x2 x3 x4 : Int} {w w' : World} (h : Opts X x1 x2 x3 x4 w) (l : Below w.heap.size w w') : Opts X x1 x2 x3 x4 w' :=
  ⟨Nat.lt_of_lt_of_le h.1 l.size, fun k hk => ⟨(l.cell (p := ⟨X, k * 3, none⟩) h.1).trans (h.2 k hk).1, (l.cell (p := ⟨X, k * 3 + 1, none⟩) h.1).trans (h.2 k hk).2.1, (l.cell (p := ⟨X, k * 3 + 2, none⟩) h.1).trans (h.2 k hk).2.2⟩⟩
theorem Opts.grown {X : Nat} {x1 x2 x3 x4 : Int} {w w' : World} {v : Value} (h : Opts X x1 x2 x3 x4 w) (hg : w.grownBy w' v.ownBlock) (hv : v.ownBlock ≠ some X) : Opts X x1 x2 x3 x4 w' :=
  ⟨Nat.lt_of_lt_of_le h.1 hg.size, fun k hk => ⟨hg.cell (h.2 k hk).1 (fun e => hv e.symm), hg.cell (h.2 k hk).2.1 (fun e => hv e.symm), hg.cell (h.2 k hk).2.2 (fun e => hv e.symm)⟩⟩
theorem opts_new (W : World) (x1 x2 x3 x4 : Int) (n : Nat) (hn : n = W.heap.size) : Opts n x1 x2 x3 x4 (W.alloc (.cells #[.string wsport, .int .u16 x1, .int .u16 x2, .string wdport, .int .u16 x3, .int .u16 x4] 146)) := by
  subst hn
  refine ⟨by simp, fun k hk => ?_⟩
  rcases (show k = 0 ∨ k = 1 by omega) with rfl | rfl
  all_goals
    refine ⟨?_, ?_, ?_⟩
    all_goals
      rw [World.cell?_alloc_at _ _ _ _ rfl]
      rfl
theorem new_two0 (W : World) (v u : Value) (t : TypeId) : (W.alloc (.cells #[v, u] t)).cell? ⟨W.heap.size, 0, none⟩ = some v := by
  rw [World.cell?_alloc_at _ _ _ _ rfl]
  rfl
theorem new_two1 (W : World) (v u : Value) (t : TypeId) : (W.alloc (.cells #[v, u] t)).cell? ⟨W.heap.size, 1, none⟩ = some u := by
  rw [World.cell?_alloc_at _ _ _ _ rfl]
  rfl
/-- Two blocks laid on, whatever was drawn. -/
def Nxt (W : World) (o1 o2 : Obj) (W' : World) : Prop := W'.os = W.os ∧ W'.tape = W.tape ∧ W'.output = W.output ∧ W'.heap = ((W.alloc o1).alloc o2).heap
theorem Nxt.below {W W' : World} {o1 o2 : Obj} (h : Nxt W o1 o2 W') : Below W.heap.size W W' := by
  have hb := below2 W o1 o2
  refine ⟨h.1, h.2.1, h.2.2.1, ?_, ?_⟩
  · rw [h.2.2.2]; exact hb.size
  · rw [h.2.2.2]; exact hb.block
theorem Nxt.cell0 {W W' : World} {o1 : Obj} {u1 u2 : Value} (h : Nxt W o1 (.cells #[u1, u2] 9) W') : W'.cell? ⟨W.heap.size + 1, 0, none⟩ = some u1 := by
  have e : W'.cell? ⟨W.heap.size + 1, 0, none⟩ = ((W.alloc o1).alloc (.cells #[u1, u2] 9)).cell? ⟨W.heap.size + 1, 0, none⟩ := World.cell?_of_block (by rw [h.2.2.2])
  rw [e, World.cell?_alloc_at _ _ _ _ (by simp)]
  rfl
theorem Nxt.cell1 {W W' : World} {o1 : Obj} {u1 u2 : Value} (h : Nxt W o1 (.cells #[u1, u2] 9) W') : W'.cell? ⟨W.heap.size + 1, 1, none⟩ = some u2 := by
  have e : W'.cell? ⟨W.heap.size + 1, 1, none⟩ = ((W.alloc o1).alloc (.cells #[u1, u2] 9)).cell? ⟨W.heap.size + 1, 1, none⟩ := World.cell?_of_block (by rw [h.2.2.2])
  rw [e, World.cell?_alloc_at _ _ _ _ (by simp)]
  rfl
/-- What stands behind an append. -/
theorem pushed {w W2 W' w9 : World} {X OB : Nat} {v v9 : Value} {xs : List ByteArray} {x1 x2 x3 x4 : Int} {c0 c1 c2 : Value} (hB : Below w.heap.size w W2) (hO : Own W2 (w.heap.size + 1) v xs) (hX : Opts X x1 x2 x3 x4 W2) (hV : v.ownBlock ≠ some X) (hW : v.ownBlock ≠ some OB)
    (hc : W2.cell? ⟨OB, 0, none⟩ = some c0 ∧ W2.cell? ⟨OB, 1, none⟩ = some c1 ∧ W2.cell? ⟨OB, 2, none⟩ = some c2)
    (hg : W'.grownBy w9 v.ownBlock) (hat : v9.ownBlock = v.ownBlock ∨ v9.ownBlock = some W'.heap.size) (hb2 : Below W2.heap.size W2 W') :
    (Below w.heap.size w w9 ∧ Opts X x1 x2 x3 x4 w9 ∧ v9.ownBlock ≠ some X) ∧ w9.cell? ⟨OB, 0, none⟩ = some c0 ∧ w9.cell? ⟨OB, 1, none⟩ = some c1 ∧ w9.cell? ⟨OB, 2, none⟩ = some c2 := by
  have hob : OB < W2.heap.size := World.block_lt_of_cell? W2 _ hc.1
  have hcell : ∀ j v', W2.cell? ⟨OB, j, none⟩ = some v' → w9.cell? ⟨OB, j, none⟩ = some v' := fun j v' h => hg.cell ((hb2.cell (p := ⟨OB, j, none⟩) hob).trans h) (fun e => hW e.symm)
  refine ⟨⟨below_push (hB.trans (hb2.mono hB.size)) (Nat.le_refl _) hg (fun q hq => Nat.le_of_succ_le (hO.lt q hq)), (hX.below hb2).grown hg hV, ?_⟩, hcell 0 _ hc.1, hcell 1 _ hc.2.1, hcell 2 _ hc.2.2⟩
  rcases hat with hat | hat
  · rw [hat]; exact hV
  · rw [hat]
    intro e
    have h1 : W'.heap.size = X := by simpa using e
    have h2 := hb2.size
    have h3 := hX.1
    omega
set_option maxRecDepth 4000 in
set_option maxHeartbeats 1000000 in
theorem str_port (F : Stop.Interp) (m : Nat) (o : Obj) (b off c : Nat) (hL : Looks m o) (p : Nat) (hp : p ≤ 255) (hu : named p = true) (hi : inm p = true) (hh : YbulkdewqFmt.hp p = true) (x1 x2 x3 x4 x5 x6 x7 x8 : Int) (h1 : U16 x1) (h2 : U16 x2) (h3 : U16 x3) (h4 : U16 x4) (w : World) (hF : F.told.answers w.tape) (hG : GJ m o b off c w) :
    Calls Ybaf.prog 14 #[.agg #[.int .u8 p, .int .u16 x1, .int .u16 x2, .int .u16 x3, .int .u16 x4, .int .u16 x5, .int .u16 x6, .int .u16 x7, .int .u16 x8]] w fun r w' => r = .returned (.string (bs (jn (ws p x1 x2 x3 x4 2)))) ∧ Below w.heap.size w w' := by
  obtain ⟨v, hv⟩ := hL p hu
  rw [hi] at hv
  have HG : Hid (GJ m o b off c w) := hG
  have HU : Hid (named p = true) := hu
  have HL : Hid (∀ w : World, w.heap[m]? = some o → (Instr.lookup 143 (.map (some m)) (.string (nm (ix p))) true).run Ybaf.prog w = .ok (.tuple #[v, .bool true]) w) := hv
  have HH : Hid (YbulkdewqFmt.hp p = true) := hh
  have HI : Hid (inm p = true) := hi
  have HNE : Hid ((nm (ix p)).toList ≠ []) := (ix_named hu).2.2.2.1
  have k0 : ((p : Int) == 0) = false := by rcases named_ten hu with h | h | h | h | h | h | h | h | h | h <;> rw [h] <;> decide
  have k1 : ((p : Int) == 1) = false := by rcases named_ten hu with h | h | h | h | h | h | h | h | h | h <;> rw [h] at hh ⊢ <;> revert hh <;> decide
  have q1 : (p : Int) ≤ 255 := by omega
  obtain ⟨s, hs⟩ : ∃ s, s = nm (ix p) := ⟨_, rfl⟩
  rw [← hs] at HNE HL
  have HS : Hid (s = nm (ix p)) := hs
  have HF : Hid (F.told.answers w.tape) := hF
  clear hG hL hv hu hi hh hs hF
  have hBa : ∀ o1, Below w.heap.size w (w.alloc o1) := fun o1 => (Below.refl w.heap.size w).alloc (Nat.le_refl _) o1
  go_enter Ybaf.func14, Ybaf.ntmps14
  go_wp2_with fail
  refine (c28n b off c _ _ (PN.below HG.out.2.1 (Nat.le_refl _) (hBa _)) HU.out).mono ?_
  rintro e w1 ⟨rfl, hB1⟩
  rw [← HS.out]
  have hs1 : w.heap.size + 1 ≤ w1.heap.size := by simpa using hB1.size
  have bx : ∀ j v, (#[Value.int .u8 p, .int .u16 x1, .int .u16 x2, .int .u16 x3, .int .u16 x4, .int .u16 x5, .int .u16 x6, .int .u16 x7, .int .u16 x8])[j]? = some v → w1.cell? ⟨w.heap.size, j, none⟩ = some v := by
    intro j v hj
    rw [hB1.cell (p := ⟨w.heap.size, j, none⟩) (by simp), World.cell?_alloc_at _ _ _ _ rfl]
    exact hj
  have b0 : w1.cell? ⟨w.heap.size, 0, none⟩ = some (.int .u8 p) := bx 0 _ rfl
  have b1 : w1.cell? ⟨w.heap.size, 1, none⟩ = some (.int .u16 x1) := bx 1 _ rfl
  have b2 : w1.cell? ⟨w.heap.size, 2, none⟩ = some (.int .u16 x2) := bx 2 _ rfl
  have b3 : w1.cell? ⟨w.heap.size, 3, none⟩ = some (.int .u16 x3) := bx 3 _ rfl
  have b4 : w1.cell? ⟨w.heap.size, 4, none⟩ = some (.int .u16 x4) := bx 4 _ rfl
  have HB1 : Hid (Below w.heap.size w w1) := (hBa _).trans (hB1.mono (by simp))
  have HG1 : Hid (GJ m o b off c w1) := GJ.below HG.out (Nat.le_refl _) HB1.out
  have g0 := HG1.out.1.2.2.1
  have hl : ∀ o1, (Instr.lookup 143 (.map (some m)) (.string s) true).run Ybaf.prog (w1.alloc o1) = .ok (.tuple #[v, .bool true]) (w1.alloc o1) := fun o1 =>
    HL.out _ ((((Below.refl w1.heap.size w1).alloc (Nat.le_refl _) o1)).block m HG1.out.1.2.1 |>.trans HG1.out.1.2.2.2.1)
  have g00 : 0 < w1.heap.size := by omega
  have g01 : w.heap.size < w1.heap.size := by omega
  have HO1 : Hid (Own (w1.alloc (.cells #[.string s] 9)) (w.heap.size + 1) (.slice (some ⟨w1.heap.size, 0, none⟩) 1 1) (ws p x1 x2 x3 x4 0)) := by
    have e : ws p x1 x2 x3 x4 0 = [s] := by show w0 p = [s]; unfold w0; rw [HI.out, HS.out]; rfl
    rw [e]
    exact own_built w1 (w.heap.size + 1) 1 #[.string s] (by omega) rfl (by unfold maxLen; omega)
  clear hB1 hBa bx
  go_wp2_with (go_at_call 31; refine (c31n _ _ HU.out).mono ?_; rw [HH.out]; rintro e w5 ⟨rfl, rfl⟩)
  go_loopw [4, 75] (fun v i wr => ∃ k : Nat, k ≤ 2 ∧ i = .int .i64 k ∧ Own wr (w.heap.size + 1) v (ws p x1 x2 x3 x4 k) ∧ Opts (w1.heap.size + 1) x1 x2 x3 x4 wr ∧ v.ownBlock ≠ some (w1.heap.size + 1) ∧ Below w.heap.size w wr) (fun _ i _ => 2 - (intOf i).toNat)
  case atStart => exact ⟨0, by omega, rfl, HO1.out.below ((Below.refl _ _).alloc (Nat.le_refl _) _), opts_new _ _ _ _ _ _ (by simp), by simp [Value.ownBlock], (HB1.out.alloc (by omega) _).alloc (by simp; omega) _⟩
  case round =>
    obtain ⟨k, hk, rfl, hO, hX, hV, hB⟩ := hrel
    have HO : Hid (Own wr (w.heap.size + 1) _ (ws p x1 x2 x3 x4 k)) := hO
    have HX : Hid (Opts (w1.heap.size + 1) x1 x2 x3 x4 wr) := hX
    have HB : Hid (Below w.heap.size w wr) := hB
    clear hO hB
    by_cases hk2 : k < 2
    · have q2 : (k : Int) < 2 := by omega
      obtain ⟨e0, e1, e2⟩ := hX.2 k hk2
      have hX1 := hX.1
      have HN := ws_next p x1 x2 x3 x4 k hk2
      have hl6 := (ws_short HU.out h1 h2 h3 h4 k).2.1
      obtain ⟨wd, hwd⟩ : ∃ wd, wd = wdk k := ⟨_, rfl⟩
      obtain ⟨f, hf⟩ : ∃ f, f = (if k = 0 then x1 else x3) := ⟨_, rfl⟩
      obtain ⟨l, hl⟩ : ∃ l, l = (if k = 0 then x2 else x4) := ⟨_, rfl⟩
      have hf16 : U16 f := by rw [hf]; split <;> assumption
      have hl16 : U16 l := by rw [hl]; split <;> assumption
      rw [← hwd, ← hf, ← hl] at HN
      rw [← hwd] at e0
      rw [← hf] at e1
      rw [← hl] at e2
      have HGr := GJ.below HG.out (Nat.le_refl _) HB.out
      have a0 := HGr.2.2.2.2.1
      have a1 := HGr.2.2.2.2.2
      have ha : 2 < wr.heap.size := by have := HGr.1.1; omega
      have HNN : Hid (ws p x1 x2 x3 x4 (k + 1) = ws p x1 x2 x3 x4 k ++ port wd f l) := HN
      obtain ⟨tb, htb⟩ : ∃ tb, tb = decide (f = 0 ∧ l = 65535) := ⟨_, rfl⟩
      have hT := fun w => eql112 f l 0 65535 w
      rw [← htb] at hT
      clear hX HN HGr hwd hf hl b0 b1 b2 b3 b4 g0 g00
      cases tb
      · by_cases hfl : f = l
        · subst hfl
          have HP : Hid (ws p x1 x2 x3 x4 (k + 1) = ws p x1 x2 x3 x4 k ++ [wd, bs (Lib.itoa f)]) := by have h := HNN.out; rw [port_one] at h; exact h
          clear htb
          go_wp2_with fail
          obtain ⟨W2, hW2⟩ : ∃ W2, W2 = wr.alloc (.cells #[.string wd, .int .u16 f, .int .u16 f] 146) := ⟨_, rfl⟩
          rw [← hW2]
          have hB2 : Below wr.heap.size wr W2 := by rw [hW2]; exact (Below.refl _ _).alloc (Nat.le_refl _) _
          have hs2 : W2.heap.size = wr.heap.size + 1 := by rw [hW2]; simp
          have HS2 : Hid (W2.heap.size = wr.heap.size + 1) := hs2
          have hlt : wr.heap.size < W2.heap.size := by have := HS2.out; omega
          have d0 : W2.cell? ⟨wr.heap.size, 0, none⟩ = some (.string wd) := by rw [hW2, World.cell?_alloc_at _ _ _ _ rfl]; rfl
          have d1 : W2.cell? ⟨wr.heap.size, 1, none⟩ = some (.int .u16 f) := by rw [hW2, World.cell?_alloc_at _ _ _ _ rfl]; rfl
          have d2 : W2.cell? ⟨wr.heap.size, 2, none⟩ = some (.int .u16 f) := by rw [hW2, World.cell?_alloc_at _ _ _ _ rfl]; rfl
          have HO2 : Hid (Own W2 (w.heap.size + 1) u4 (ws p x1 x2 x3 x4 k)) := HO.out.below hB2
          have HX2 : Hid (Opts (w1.heap.size + 1) x1 x2 x3 x4 W2) := HX.out.below hB2
          have HB2 : Hid (Below w.heap.size w W2) := HB.out.trans (hB2.mono HB.out.size)
          have HF2 : Hid (F.told.answers W2.tape) := answers_later HF.out HB2.out.tape
          have HC1 : Hid ((W2.alloc (.cells #[.iface 110 (.int .u16 f)] 20)).cell? ⟨W2.heap.size, 0, none⟩ = some (.iface 110 (.int .u16 f))) := new_iface W2 _ _
          have HN4 : Hid (∀ W', Nxt W2 (.cells #[.iface 110 (.int .u16 f)] 20) (.cells #[.string wd, .string (bs (Lib.itoa f))] 9) W' → Below W2.heap.size W2 W') := fun W' h => h.below
          have HO4 : Hid (∀ W', Nxt W2 (.cells #[.iface 110 (.int .u16 f)] 20) (.cells #[.string wd, .string (bs (Lib.itoa f))] 9) W' → Own W' (w.heap.size + 1) u4 (ws p x1 x2 x3 x4 k)) := fun W' h => HO2.out.below h.below
          have HC4 : Hid (∀ W', Nxt W2 (.cells #[.iface 110 (.int .u16 f)] 20) (.cells #[.string wd, .string (bs (Lib.itoa f))] 9) W' → W'.cell? ⟨W2.heap.size + 1, 0, none⟩ = some (.string wd)) := fun W' h => h.cell0
          have HC5 : Hid (∀ W', Nxt W2 (.cells #[.iface 110 (.int .u16 f)] 20) (.cells #[.string wd, .string (bs (Lib.itoa f))] 9) W' → W'.cell? ⟨W2.heap.size + 1, 1, none⟩ = some (.string (bs (Lib.itoa f)))) := fun W' h => h.cell1
          have HS4 : Hid (∀ W', Nxt W2 (.cells #[.iface 110 (.int .u16 f)] 20) (.cells #[.string wd, .string (bs (Lib.itoa f))] 9) W' → w.heap.size + 1 ≤ W'.heap.size) := fun W' h => by have := h.below.size; omega
          have HDC : Hid (W2.cell? ⟨wr.heap.size, 0, none⟩ = some (.string wd) ∧ W2.cell? ⟨wr.heap.size, 1, none⟩ = some (.int .u16 f) ∧ W2.cell? ⟨wr.heap.size, 2, none⟩ = some (.int .u16 f)) := ⟨d0, d1, d2⟩
          have HVW : Hid (u4.ownBlock ≠ some wr.heap.size) := fun hq => Nat.lt_irrefl _ (World.ownsRow.lt HO.out _ hq).2
          clear hW2 hs2 hB2 e0 e1 e2 a0 a1 hT
          go_region_held3 (fun w' => w'.cell? ⟨wr.heap.size, 0, none⟩ = some (.string wd) ∧ w'.cell? ⟨wr.heap.size, 1, none⟩ = some (.int .u16 f) ∧ w'.cell? ⟨wr.heap.size, 2, none⟩ = some (.int .u16 f))
            (first | exact HC9.out | go_keep)
            (first
              | (refine step_sprint F _ (by rfl) (.tmp 114) (by rfl) W2.heap.size (by rfl) f hf16 HF2.out HC1.out ?_)
              | (refine step_push2 _ (by rfl) (.tmp 107) (.tmp 116) (by rfl) (w.heap.size + 1) u4 (ws p x1 x2 x3 x4 k) (by rfl) (HO4.out _ ⟨rfl, rfl, rfl, rfl⟩) (W2.heap.size + 1) wd (bs (Lib.itoa f)) (by rfl) (HC4.out _ ⟨rfl, rfl, rfl, rfl⟩) (HC5.out _ ⟨rfl, rfl, rfl, rfl⟩) hl6 (HS4.out _ ⟨rfl, rfl, rfl, rfl⟩) ?_; intro v9 w9 hO9 hg9 hat9; have H9 := pushed HB2.out HO2.out HX2.out hV HVW.out HDC.out hg9 hat9 (HN4.out _ ⟨rfl, rfl, rfl, rfl⟩); have HC9 : Hid _ := H9.2; have HR9 : Hid _ := H9.1; have HO9 : Hid _ := hO9; clear hO9 hg9 hat9 H9))
          go_wp2_with fail
          go_roundw
          case rel => exact ⟨k + 1, by omega, by go_num, by rw [HP.out]; exact HO9.out, HR9.out.2.1, HR9.out.2.2, HR9.out.1⟩
          case measure => simp [intOf]; omega
        · have hfb : (f == l) = false := by simpa using hfl
          have HP : Hid (ws p x1 x2 x3 x4 (k + 1) = ws p x1 x2 x3 x4 k ++ [wd, rng f l]) := by have h := HNN.out; rw [port_two htb hfl] at h; exact h
          clear htb
          go_wp2_with fail
          obtain ⟨W2, hW2⟩ : ∃ W2, W2 = wr.alloc (.cells #[.string wd, .int .u16 f, .int .u16 l] 146) := ⟨_, rfl⟩
          rw [← hW2]
          have hB2 : Below wr.heap.size wr W2 := by rw [hW2]; exact (Below.refl _ _).alloc (Nat.le_refl _) _
          have hs2 : W2.heap.size = wr.heap.size + 1 := by rw [hW2]; simp
          have HS2 : Hid (W2.heap.size = wr.heap.size + 1) := hs2
          have hlt : wr.heap.size < W2.heap.size := by have := HS2.out; omega
          have d0 : W2.cell? ⟨wr.heap.size, 0, none⟩ = some (.string wd) := by rw [hW2, World.cell?_alloc_at _ _ _ _ rfl]; rfl
          have d1 : W2.cell? ⟨wr.heap.size, 1, none⟩ = some (.int .u16 f) := by rw [hW2, World.cell?_alloc_at _ _ _ _ rfl]; rfl
          have d2 : W2.cell? ⟨wr.heap.size, 2, none⟩ = some (.int .u16 l) := by rw [hW2, World.cell?_alloc_at _ _ _ _ rfl]; rfl
          have HO2 : Hid (Own W2 (w.heap.size + 1) u4 (ws p x1 x2 x3 x4 k)) := HO.out.below hB2
          have HX2 : Hid (Opts (w1.heap.size + 1) x1 x2 x3 x4 W2) := HX.out.below hB2
          have HB2 : Hid (Below w.heap.size w W2) := HB.out.trans (hB2.mono HB.out.size)
          have HF2 : Hid (F.told.answers W2.tape) := answers_later HF.out HB2.out.tape
          have HC1 : Hid ((W2.alloc (.cells #[.iface 110 (.int .u16 f), .iface 110 (.int .u16 l)] 20)).cell? ⟨W2.heap.size, 0, none⟩ = some (.iface 110 (.int .u16 f))) := new_two0 W2 _ _ _
          have HC2 : Hid ((W2.alloc (.cells #[.iface 110 (.int .u16 f), .iface 110 (.int .u16 l)] 20)).cell? ⟨W2.heap.size, 1, none⟩ = some (.iface 110 (.int .u16 l))) := new_two1 W2 _ _ _
          have HN4 : Hid (∀ W', Nxt W2 (.cells #[.iface 110 (.int .u16 f), .iface 110 (.int .u16 l)] 20) (.cells #[.string wd, .string (rng f l)] 9) W' → Below W2.heap.size W2 W') := fun W' h => h.below
          have HO4 : Hid (∀ W', Nxt W2 (.cells #[.iface 110 (.int .u16 f), .iface 110 (.int .u16 l)] 20) (.cells #[.string wd, .string (rng f l)] 9) W' → Own W' (w.heap.size + 1) u4 (ws p x1 x2 x3 x4 k)) := fun W' h => HO2.out.below h.below
          have HC4 : Hid (∀ W', Nxt W2 (.cells #[.iface 110 (.int .u16 f), .iface 110 (.int .u16 l)] 20) (.cells #[.string wd, .string (rng f l)] 9) W' → W'.cell? ⟨W2.heap.size + 1, 0, none⟩ = some (.string wd)) := fun W' h => h.cell0
          have HC5 : Hid (∀ W', Nxt W2 (.cells #[.iface 110 (.int .u16 f), .iface 110 (.int .u16 l)] 20) (.cells #[.string wd, .string (rng f l)] 9) W' → W'.cell? ⟨W2.heap.size + 1, 1, none⟩ = some (.string (rng f l))) := fun W' h => h.cell1
          have HS4 : Hid (∀ W', Nxt W2 (.cells #[.iface 110 (.int .u16 f), .iface 110 (.int .u16 l)] 20) (.cells #[.string wd, .string (rng f l)] 9) W' → w.heap.size + 1 ≤ W'.heap.size) := fun W' h => by have := h.below.size; omega
          have HDC : Hid (W2.cell? ⟨wr.heap.size, 0, none⟩ = some (.string wd) ∧ W2.cell? ⟨wr.heap.size, 1, none⟩ = some (.int .u16 f) ∧ W2.cell? ⟨wr.heap.size, 2, none⟩ = some (.int .u16 l)) := ⟨d0, d1, d2⟩
          have HVW : Hid (u4.ownBlock ≠ some wr.heap.size) := fun hq => Nat.lt_irrefl _ (World.ownsRow.lt HO.out _ hq).2
          clear hW2 hs2 hB2 e0 e1 e2 a0 a1 hT
          go_region_held3 (fun w' => w'.cell? ⟨wr.heap.size, 0, none⟩ = some (.string wd) ∧ w'.cell? ⟨wr.heap.size, 1, none⟩ = some (.int .u16 f) ∧ w'.cell? ⟨wr.heap.size, 2, none⟩ = some (.int .u16 l))
            (first | exact HC9.out | go_keep)
            (first
              | (refine step_sprintf' F _ (by rfl) (.tmp 90) (by rfl) W2.heap.size (by rfl) f l hf16 hl16 HF2.out HC1.out HC2.out ?_)
              | (refine step_push2 _ (by rfl) (.tmp 79) (.tmp 92) (by rfl) (w.heap.size + 1) u4 (ws p x1 x2 x3 x4 k) (by rfl) (HO4.out _ ⟨rfl, rfl, rfl, rfl⟩) (W2.heap.size + 1) wd (rng f l) (by rfl) (HC4.out _ ⟨rfl, rfl, rfl, rfl⟩) (HC5.out _ ⟨rfl, rfl, rfl, rfl⟩) hl6 (HS4.out _ ⟨rfl, rfl, rfl, rfl⟩) ?_; intro v9 w9 hO9 hg9 hat9; have H9 := pushed HB2.out HO2.out HX2.out hV HVW.out HDC.out hg9 hat9 (HN4.out _ ⟨rfl, rfl, rfl, rfl⟩); have HC9 : Hid _ := H9.2; have HR9 : Hid _ := H9.1; have HO9 : Hid _ := hO9; clear hO9 hg9 hat9 H9))
          go_wp2_with fail
          go_roundw
          case rel => exact ⟨k + 1, by omega, by go_num, by rw [HP.out]; exact HO9.out, HR9.out.2.1, HR9.out.2.2, HR9.out.1⟩
          case measure => simp [intOf]; omega
      · have HP : Hid (ws p x1 x2 x3 x4 (k + 1) = ws p x1 x2 x3 x4 k) := by have h := HNN.out; rw [port_all htb, List.append_nil] at h; exact h
        clear htb
        go_wp2_with fail
        go_roundw
        case rel => exact ⟨k + 1, by omega, by go_num, by rw [HP.out]; exact HO.out.below ((Below.refl _ _).alloc (Nat.le_refl _) _), HX.out.below ((Below.refl _ _).alloc (Nat.le_refl _) _), hV, HB.out.alloc HB.out.size _⟩
        case measure => simp [intOf]; omega
    · have hk2' : k = 2 := by omega
      subst hk2'
      have hsh := ws_short HU.out h1 h2 h3 h4 2
      have HSH : Hid (Short (ws p x1 x2 x3 x4 2) ∧ (ws p x1 x2 x3 x4 2).length ≤ 6 ∧ ws p x1 x2 x3 x4 2 ≠ []) := hsh
      clear hX hsh b0 b1 b2 b3 b4 g0 g00
      go_wp2_with fail
      refine (join_own _ _ _ _ HO.out HSH.out.2.2 HSH.out.1 HSH.out.2.1).mono ?_
      rintro e w4 ⟨rfl, hB4⟩
      have HB4 : Hid (Below w.heap.size w w4) := HB.out.trans (hB4.mono HB.out.size)
      clear hB4
      go_wp2_with fail
      go_ret
      exact ⟨rfl, HB4.out⟩
end Go.Proofs.YbulkdewqFmt
