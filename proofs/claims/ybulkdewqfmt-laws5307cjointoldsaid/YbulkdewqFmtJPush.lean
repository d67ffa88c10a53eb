/- append(words, a, b), and String at ICMP. -/
import Derived.Test.YbulkdewqFmtJStr
namespace Go.Proofs.YbulkdewqFmt
open Go.RowKit
theorem Ybaf.info9' : (Ybaf.prog.info? 9).map (fun i => (i.zero, i.size, i.bytes)) = some (some (.string ⟨#[]⟩), 1, 16) := by kernel_rfl
theorem two_cells {w : World} {blk : Nat} {u1 u2 : ByteArray} (h0 : w.cell? ⟨blk, 0, none⟩ = some (.string u1)) (h1 : w.cell? ⟨blk, 1, none⟩ = some (.string u2)) : ∀ j u, [Value.string u1, .string u2][j]? = some u → w.cell? ((⟨blk, 0, none⟩ : Addr).add j) = some u := by
  intro j u hj
  match j, hj with
  | 0, hj => simp at hj; subst hj; exact h0
  | 1, hj => simp at hj; subst hj; exact h1
theorem one_cells {u1 u2 : ByteArray} : ∀ u ∈ [Value.string u1, .string u2], u.oneCell' = true := by
  intro u hu
  simp only [List.mem_cons, List.not_mem_nil, or_false] at hu
  rcases hu with rfl | rfl <;> rfl
theorem wp_push (w : World) {o : Oper} {a : Act} {K : Act → World → Prop} {Q : Exit → Act → World → Prop} (s x : Operand) (ho : o.op = .call { callee := .builtin .append, args := #[s, x], argTypes := #[28, 28] })
    (base : Nat) (v : Value) (xs : List ByteArray) (hs : a.eval s = v) (hown : Own w base v xs) (blk : Nat) (u1 u2 : ByteArray) (hx : a.eval x = .slice (some ⟨blk, 0, none⟩) 2 2) (h0 : w.cell? ⟨blk, 0, none⟩ = some (.string u1)) (h1 : w.cell? ⟨blk, 1, none⟩ = some (.string u2))
    (h6 : xs.length ≤ 6) (hbase : base ≤ w.heap.size) (h : ∀ v' w', Own w' base v' (xs ++ [u1, u2]) → w.grownBy w' v.ownBlock → K (a.put o.dst v') w') : o.wp Ybaf.prog a w K Q := by
  obtain ⟨i, hi, hz, hsz, hby⟩ := info_parts Ybaf.info9'
  refine wp_append_own w s x 28 ho base 9 i (.string ⟨#[]⟩) 1 16 Ybaf.underlying28 hi hz hsz hby rfl (by decide) v xs.length (xs.map Value.string) hs hown ⟨blk, 0, none⟩ 2 2 [.string u1, .string u2] hx rfl (two_cells h0 h1) one_cells (by unfold maxLen; omega) (by omega) hbase ?_
  intro v' w' hown' hg _
  exact h v' w' (by simpa [Own] using hown') hg
theorem wpList_push (w : World) {ops : Array Oper} {rest : List Oper} {o : Oper} {a : Act} {Q : Exit → Act → World → Prop} (hgd : o.guard = none) (s x : Operand) (ho : o.op = .call { callee := .builtin .append, args := #[s, x], argTypes := #[28, 28] })
    (base : Nat) (v : Value) (xs : List ByteArray) (hs : a.eval s = v) (hown : Own w base v xs) (blk : Nat) (u1 u2 : ByteArray) (hx : a.eval x = .slice (some ⟨blk, 0, none⟩) 2 2) (h0 : w.cell? ⟨blk, 0, none⟩ = some (.string u1)) (h1 : w.cell? ⟨blk, 1, none⟩ = some (.string u2))
    (h6 : xs.length ≤ 6) (hbase : base ≤ w.heap.size) (h : ∀ v' w', Own w' base v' (xs ++ [u1, u2]) → w.grownBy w' v.ownBlock → wpList Ybaf.prog ops Q rest (a.put o.dst v') w') : wpList Ybaf.prog ops Q (o :: rest) a w :=
  wpList_plain hgd fun _ hK => wp_push w s x ho base v xs hs hown blk u1 u2 hx h0 h1 h6 hbase fun v' w' h2 h3 => hK _ _ (h v' w' h2 h3)
theorem step_push (w : World) {ops : Array Oper} {o : Oper} {a : Act} {K : Act → World → Prop} {Q : Exit → Act → World → Prop} {E : Prop} (hgd : o.guard = none) (s x : Operand) (ho : o.op = .call { callee := .builtin .append, args := #[s, x], argTypes := #[28, 28] })
    (base : Nat) (v : Value) (xs : List ByteArray) (hs : a.eval s = v) (hown : Own w base v xs) (blk : Nat) (u1 u2 : ByteArray) (hx : a.eval x = .slice (some ⟨blk, 0, none⟩) 2 2) (h0 : w.cell? ⟨blk, 0, none⟩ = some (.string u1)) (h1 : w.cell? ⟨blk, 1, none⟩ = some (.string u2))
    (h6 : xs.length ≤ 6) (hbase : base ≤ w.heap.size) (h : ∀ v' w', Own w' base v' (xs ++ [u1, u2]) → w.grownBy w' v.ownBlock → K (a.put o.dst v') w') : if Region.wanted o (yielded ops a.tmps) = true then Oper.wp Ybaf.prog o a w K Q else E := by
  have hw : Region.wanted o (yielded ops a.tmps) = true := by simp [Region.wanted, hgd]
  rw [if_pos hw]
  exact wp_push w s x ho base v xs hs hown blk u1 u2 hx h0 h1 h6 hbase h
theorem neq112 (x y u v : Int) (w : World) : (binOp .neq 112 (.agg #[.int .u16 x, .int .u16 y]) (.agg #[.int .u16 u, .int .u16 v])).run Ybaf.prog w = .ok (.bool (!decide (x = u ∧ y = v))) w := by
  by_cases h1 : x = u <;> by_cases h2 : y = v
  all_goals go_simp
theorem eql112 (x y u v : Int) (w : World) : (binOp .eql 112 (.agg #[.int .u16 x, .int .u16 y]) (.agg #[.int .u16 u, .int .u16 v])).run Ybaf.prog w = .ok (.bool (decide (x = u ∧ y = v))) w := by
  by_cases h1 : x = u <;> by_cases h2 : y = v
  all_goals go_simp
theorem icmp_all {word : ByteArray} {f l : Int} (h : false = (!decide (f = 0 ∧ l = 255))) : icmp word f l = [] := by
  unfold icmp
  rw [if_pos (by simpa using h)]
theorem icmp_some {word : ByteArray} {f l : Int} (h : true = (!decide (f = 0 ∧ l = 255))) : icmp word f l = [word, bs (Lib.itoa f)] := by
  unfold icmp
  rw [if_neg (by intro hc; simp [hc] at h)]
theorem new0 (W : World) (u1 u2 : Value) (n : Nat) (hn : n = W.heap.size) : (W.alloc (.cells #[u1, u2] 9)).drew.cell? ⟨n, 0, none⟩ = some u1 := by
  show (W.alloc (.cells #[u1, u2] 9)).cell? ⟨n, 0, none⟩ = some u1
  rw [World.cell?_alloc_at _ _ _ _ hn]
  rfl
theorem new1 (W : World) (u1 u2 : Value) (n : Nat) (hn : n = W.heap.size) : (W.alloc (.cells #[u1, u2] 9)).drew.cell? ⟨n, 1, none⟩ = some u2 := by
  show (W.alloc (.cells #[u1, u2] 9)).cell? ⟨n, 1, none⟩ = some u2
  rw [World.cell?_alloc_at _ _ _ _ hn]
  rfl
theorem below2 (W : World) (o1 o2 : Obj) : Below W.heap.size W ((W.alloc o1).alloc o2).drew := (((Below.refl _ _).alloc (Nat.le_refl _) o1).alloc (by simp) o2).drew
theorem Own.lt {W : World} {base : Nat} {v : Value} {xs : List ByteArray} (h : Own W base v xs) : ∀ q, v.ownBlock = some q → base ≤ q := fun q hq => (World.ownsRow.lt h q hq).1
theorem below_push {B : Nat} {a W w3 : World} {v : Value} (h : Below B a W) (hB : B ≤ a.heap.size) (hg : W.grownBy w3 v.ownBlock) (hv : ∀ q, v.ownBlock = some q → B ≤ q) : Below B a w3 := h.grown hg (Nat.le_trans hB h.size) hv
theorem own_eq {g n c B : Nat} (h : B ≤ g) : ∀ q, (Value.slice (some ⟨g, 0, none⟩) n c).ownBlock = some q → B ≤ q := by
  intro q hq
  have : g = q := by simpa [Value.ownBlock] using hq
  omega
theorem answers_later {F : Stop.Interp} {a d : World} (h : F.answers a.tape) (e : d.tape = a.tape) : F.answers d.tape := by
  rw [e]
  exact h
theorem below3 (W : World) (o0 o1 o2 : Obj) : Below W.heap.size W (((W.alloc o0).alloc o1).alloc o2).drew := ((((Below.refl _ _).alloc (Nat.le_refl _) o0).alloc (by simp) o1).alloc (by simp <;> omega) o2).drew
/-- What the call of fmt.Sprint at one number gives, where the slice of operands was laid last. -/
theorem sprint_new (F : Stop.Interp) (W : World) {x : Int} (hx : U16 x) (hF : F.told.answers W.tape) (n : Nat) (hn : n = W.heap.size) : (callFunc 30 #[.slice (some ⟨n, 0, none⟩) 1 1]).run Ybaf.prog (W.alloc (.cells #[.iface 110 (.int .u16 x)] 20)) = .ok (.value (.string (bs (Lib.itoa x)))) (W.alloc (.cells #[.iface 110 (.int .u16 x)] 20)).drew := by
  subst hn
  exact sprint_run F hx hF (by rw [World.cell?_alloc_at _ _ _ _ rfl]; rfl)
set_option maxRecDepth 4000 in
set_option maxHeartbeats 1000000 in
/-- ICMP. -/
theorem str_icmp (F : Stop.Interp) (m : Nat) (o : Obj) (b off c : Nat) (hL : Looks m o) (x1 x2 x3 x4 x5 x6 x7 x8 : Int) (h5 : U16 x5) (h7 : U16 x7) (w : World) (hF : F.told.answers w.tape) (hG : GJ m o b off c w) :
    Calls Ybaf.prog 14 #[.agg #[.int .u8 1, .int .u16 x1, .int .u16 x2, .int .u16 x3, .int .u16 x4, .int .u16 x5, .int .u16 x6, .int .u16 x7, .int .u16 x8]] w fun r w' => r = .returned (.string (bs (jn (w0 1 ++ (icmp wtype x5 x6 ++ icmp wcode x7 x8))))) ∧ Below w.heap.size w w' := by
  obtain ⟨v, hv⟩ := hL 1 rfl
  have HG : Hid (GJ m o b off c w) := hG
  have HL : Hid (∀ w : World, w.heap[m]? = some o → (Instr.lookup 143 (.map (some m)) (.string (nm (ix 1))) true).run Ybaf.prog w = .ok (.tuple #[v, .bool true]) w) := hv
  obtain ⟨s, hs⟩ : ∃ s, s = nm (ix 1) := ⟨_, rfl⟩
  rw [← hs] at HL
  have HS : Hid (s = nm (ix 1)) := hs
  have HF : Hid (F.told.answers w.tape) := hF
  clear hG hL hv hs hF
  have hBa : ∀ o1, Below w.heap.size w (w.alloc o1) := fun o1 => (Below.refl w.heap.size w).alloc (Nat.le_refl _) o1
  go_enter Ybaf.func14, Ybaf.ntmps14
  go_wp2_with fail
  refine (c28n b off c _ _ (PN.below HG.out.2.1 (Nat.le_refl _) (hBa _)) rfl).mono ?_
  rintro e w1 ⟨rfl, hB1⟩
  rw [← HS.out]
  have hs1 : w.heap.size + 1 ≤ w1.heap.size := by simpa using hB1.size
  have bx : ∀ j v, (#[Value.int .u8 1, .int .u16 x1, .int .u16 x2, .int .u16 x3, .int .u16 x4, .int .u16 x5, .int .u16 x6, .int .u16 x7, .int .u16 x8])[j]? = some v → w1.cell? ⟨w.heap.size, j, none⟩ = some v := by
    intro j v hj
    rw [hB1.cell (p := ⟨w.heap.size, j, none⟩) (by simp), World.cell?_alloc_at _ _ _ _ rfl]
    exact hj
  have b0 := bx 0 _ rfl
  have b5 := bx 5 _ rfl
  have b6 := bx 6 _ rfl
  have b7 := bx 7 _ rfl
  have b8 := bx 8 _ rfl
  have HB1 : Hid (Below w.heap.size w w1) := (hBa _).trans (hB1.mono (by simp))
  have HG1 : Hid (GJ m o b off c w1) := GJ.below HG.out (Nat.le_refl _) HB1.out
  have g0 := HG1.out.1.2.2.1
  have i0 := HG1.out.2.2.1
  have i1 := HG1.out.2.2.2.1
  have hl : ∀ o1, (Instr.lookup 143 (.map (some m)) (.string s) true).run Ybaf.prog (w1.alloc o1) = .ok (.tuple #[v, .bool true]) (w1.alloc o1) := fun o1 =>
    HL.out _ ((((Below.refl w1.heap.size w1).alloc (Nat.le_refl _) o1)).block m HG1.out.1.2.1 |>.trans HG1.out.1.2.2.2.1)
  have g00 : 0 < w1.heap.size := by omega
  have g02 : 1 < w1.heap.size := by have := HG1.out.1.1; omega
  have g01 : w.heap.size < w1.heap.size := by omega
  have HO1 : Hid (Own (w1.alloc (.cells #[.string s] 9)) (w.heap.size + 1) (.slice (some ⟨w1.heap.size, 0, none⟩) 1 1) [s]) := own_built w1 (w.heap.size + 1) 1 #[.string s] (by omega) rfl (by unfold maxLen; omega)
  have HF1 : Hid (F.told.answers (w1.alloc (.cells #[.string s] 9)).tape) := by have e : (w1.alloc (.cells #[.string s] 9)).tape = w.tape := HB1.out.tape; rw [e]; exact HF.out
  have hr5 := sprint_new F (w1.alloc (.cells #[.string s] 9)) h5 HF1.out (w1.heap.size + 1) (by simp)
  have hr7 := sprint_new F (w1.alloc (.cells #[.string s] 9)) h7 HF1.out (w1.heap.size + 1) (by simp)
  obtain ⟨tb, htb⟩ : ∃ tb, tb = (!decide (x5 = 0 ∧ x6 = 255)) := ⟨_, rfl⟩
  obtain ⟨tc, htc⟩ : ∃ tc, tc = (!decide (x7 = 0 ∧ x8 = 255)) := ⟨_, rfl⟩
  have hT := fun w => neq112 x5 x6 0 255 w
  have hC := fun w => neq112 x7 x8 0 255 w
  rw [← htb] at hT
  rw [← htc] at hC
  have HSH : Hid (Short (w0 1 ++ (icmp wtype x5 x6 ++ icmp wcode x7 x8))) := (w0_short rfl).1.app ((icmp_short (by decide) h5).1.app (icmp_short (by decide) h7).1)
  clear hB1 hBa bx
  cases tb
  · cases tc
    · have HW : Hid (w0 1 ++ (icmp wtype x5 x6 ++ icmp wcode x7 x8) = [s]) := by rw [icmp_all htb, icmp_all htc, HS.out]; rfl
      clear htb htc
      go_wp2_with fail
      refine (join_own _ _ _ [s] HO1.out (by simp) (by rw [HS.out]; intro x hx; simp at hx; subst hx; decide) (by simp)).mono ?_
      rw [← HW.out]
      rintro e w3 ⟨rfl, hB3⟩
      have HB3 : Hid (Below w.heap.size w w3) := (HB1.out.alloc (by omega) _).trans (hB3.mono (by simp <;> omega))
      clear hB3
      go_wp2_with fail
      go_ret
      exact ⟨rfl, HB3.out⟩
    · have HW : Hid (w0 1 ++ (icmp wtype x5 x6 ++ icmp wcode x7 x8) = [s, wcode, bs (Lib.itoa x7)]) := by rw [icmp_all htb, icmp_some htc, HS.out]; rfl
      clear htb htc
      have HO2 : Hid (∀ o1 o2, Own (((w1.alloc (.cells #[.string s] 9)).alloc o1).alloc o2).drew (w.heap.size + 1) (.slice (some ⟨w1.heap.size, 0, none⟩) 1 1) [s]) := fun o1 o2 => HO1.out.below (below2 _ o1 o2)
      go_wp2_with (at_builtin; refine wpList_push _ rfl _ _ rfl (w.heap.size + 1) _ [s] rfl (HO2.out _ _) (w1.heap.size + 1 + 1) wcode (bs (Lib.itoa x7)) rfl (new0 _ _ _ _ (by simp)) (new1 _ _ _ _ (by simp)) (by simp) (by simp <;> omega) ?_; intro v3 w3 hO3 hg3; have HO3 : Hid (Own w3 (w.heap.size + 1) v3 [s, wcode, bs (Lib.itoa x7)]) := hO3; have HB3 : Hid (Below w.heap.size w w3) := (((HB1.out.alloc (by omega) _).trans ((below2 _ _ _).mono (by simp <;> omega))).grown hg3 (by simp <;> omega) (fun q hq => by have := HO1.out.lt q hq; omega)); clear hO3 hg3)
      refine (join_own _ _ _ _ HO3.out (by simp) (by rw [← HW.out]; exact HSH.out) (by simp)).mono ?_
      rw [← HW.out]
      rintro e w4 ⟨rfl, hB4⟩
      have HB4 : Hid (Below w.heap.size w w4) := HB3.out.trans (hB4.mono HB3.out.size)
      clear hB4
      go_wp2_with fail
      go_ret
      exact ⟨rfl, HB4.out⟩
  · have HO2 : Hid (∀ o1 o2, Own (((w1.alloc (.cells #[.string s] 9)).alloc o1).alloc o2).drew (w.heap.size + 1) (.slice (some ⟨w1.heap.size, 0, none⟩) 1 1) [s]) := fun o1 o2 => HO1.out.below (below2 _ o1 o2)
    cases tc
    · have HW : Hid (w0 1 ++ (icmp wtype x5 x6 ++ icmp wcode x7 x8) = [s, wtype, bs (Lib.itoa x5)]) := by rw [icmp_some htb, icmp_all htc, HS.out]; rfl
      clear htb htc
      go_wp2_with (at_builtin; refine wpList_push _ rfl _ _ rfl (w.heap.size + 1) _ [s] rfl (HO2.out _ _) (w1.heap.size + 1 + 1) wtype (bs (Lib.itoa x5)) rfl (new0 _ _ _ _ (by simp)) (new1 _ _ _ _ (by simp)) (by simp) (by simp <;> omega) ?_; intro v3 w3 hO3 hg3; have HO3 : Hid (Own w3 (w.heap.size + 1) v3 [s, wtype, bs (Lib.itoa x5)]) := hO3; have HB13 : Hid (Below w1.heap.size w1 w3) := below_push (below3 w1 _ _ _) (Nat.le_refl _) hg3 (own_eq (Nat.le_refl _)); have f0 := (HB13.out.cell (p := ⟨w.heap.size, 0, none⟩) g01).trans b0; have f7 := (HB13.out.cell (p := ⟨w.heap.size, 7, none⟩) g01).trans b7; have f8 := (HB13.out.cell (p := ⟨w.heap.size, 8, none⟩) g01).trans b8; have j0 := (HB13.out.cell (p := ⟨1, 0, none⟩) g02).trans i0; have j1 := (HB13.out.cell (p := ⟨1, 1, none⟩) g02).trans i1; clear hO3 hg3)
      refine (join_own _ _ _ _ HO3.out (by simp) (by rw [← HW.out]; exact HSH.out) (by simp)).mono ?_
      rw [← HW.out]
      rintro e w4 ⟨rfl, hB4⟩
      have HB3 : Hid (Below w.heap.size w w3) := HB1.out.trans (HB13.out.mono (by omega))
      have HB4 : Hid (Below w.heap.size w w4) := HB3.out.trans (hB4.mono HB3.out.size)
      clear hB4
      go_wp2_with fail
      go_ret
      exact ⟨rfl, HB4.out⟩
    · have HW : Hid (w0 1 ++ (icmp wtype x5 x6 ++ icmp wcode x7 x8) = [s, wtype, bs (Lib.itoa x5), wcode, bs (Lib.itoa x7)]) := by rw [icmp_some htb, icmp_some htc, HS.out]; rfl
      clear htb htc hr7
      go_wp2_with (first
        | (at_builtin; refine wpList_push _ rfl _ _ rfl (w.heap.size + 1) _ [s] rfl (HO2.out _ _) (w1.heap.size + 1 + 1) wtype (bs (Lib.itoa x5)) rfl (new0 _ _ _ _ (by simp)) (new1 _ _ _ _ (by simp)) (by simp) (by simp <;> omega) ?_; intro v3 w3 hO3 hg3; have HO3 : Hid (Own w3 (w.heap.size + 1) v3 [s, wtype, bs (Lib.itoa x5)]) := hO3; have HB13 : Hid (Below w1.heap.size w1 w3) := below_push (below3 w1 _ _ _) (Nat.le_refl _) hg3 (own_eq (Nat.le_refl _)); have f0 := (HB13.out.cell (p := ⟨w.heap.size, 0, none⟩) g01).trans b0; have f7 := (HB13.out.cell (p := ⟨w.heap.size, 7, none⟩) g01).trans b7; have f8 := (HB13.out.cell (p := ⟨w.heap.size, 8, none⟩) g01).trans b8; have j0 := (HB13.out.cell (p := ⟨1, 0, none⟩) g02).trans i0; have j1 := (HB13.out.cell (p := ⟨1, 1, none⟩) g02).trans i1; have hs3 : w1.heap.size ≤ w3.heap.size := HB13.out.size; have hr7 := sprint_new F w3 h7 (answers_later HF.out (HB13.out.tape.trans HB1.out.tape)) w3.heap.size rfl; have HO4 : Hid (∀ o1 o2, Own ((w3.alloc o1).alloc o2).drew (w.heap.size + 1) v3 [s, wtype, bs (Lib.itoa x5)]) := fun o1 o2 => HO3.out.below (below2 _ o1 o2); have l0 : w.heap.size < w3.heap.size := (by omega); have l1 : 1 < w3.heap.size := (by omega); clear hO3 hg3)
        | (at_builtin; refine wpList_push _ rfl _ _ rfl (w.heap.size + 1) _ [s, wtype, bs (Lib.itoa x5)] rfl (HO4.out _ _) (w3.heap.size + 1) wcode (bs (Lib.itoa x7)) rfl (new0 _ _ _ _ (by simp)) (new1 _ _ _ _ (by simp)) (by simp) (by simp <;> omega) ?_; intro v5 w5 hO5 hg5; have HO5 : Hid (Own w5 (w.heap.size + 1) v5 [s, wtype, bs (Lib.itoa x5), wcode, bs (Lib.itoa x7)]) := hO5; have HB5 : Hid (Below w.heap.size w w5) := below_push ((HB1.out.trans (HB13.out.mono (by omega))).trans ((below2 w3 _ _).mono (by omega))) (Nat.le_refl _) hg5 (fun q hq => Nat.le_of_succ_le (HO3.out.lt q hq)); clear hO5 hg5))
      refine (join_own _ _ _ _ HO5.out (by simp) (by rw [← HW.out]; exact HSH.out) (by simp)).mono ?_
      rw [← HW.out]
      rintro e w4 ⟨rfl, hB4⟩
      have HB4 : Hid (Below w.heap.size w w4) := HB5.out.trans (hB4.mono HB5.out.size)
      clear hB4
      go_wp2_with fail
      go_ret
      exact ⟨rfl, HB4.out⟩
end Go.Proofs.YbulkdewqFmt
