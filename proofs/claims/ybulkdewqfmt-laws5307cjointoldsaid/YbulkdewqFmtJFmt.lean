/- fmt.Sprint and fmt.Sprintf at this program's operands: the text told. -/
import Derived.Test.YbulkdewqFmtJPlain
import Derived.Stop.CallBack
import Derived.Stop.FmtTextKit
import Derived.Stop.Told
import Derived.Stop.Texts
import GoSem.ClaimData
namespace Go.Proofs.YbulkdewqFmt
open Go.RowKit Go.Kit Go.Extern.Stop Go.Stop Go.Extern
theorem call30 (args : Array Value) (w : World) : (callFunc 30 args).run Ybaf.prog w = ((FmtStop.sprint "fmt.Sprint" #[152] #[9] args).run Ybaf.prog w).andThen fun v w' => .ok (.value v) w' :=
  run_callFunc_extern Ybaf.func30 (by kernel_rfl) (by kernel_rfl) (by kernel_rfl) (by kernel_rfl) args w
theorem call32 (args : Array Value) (w : World) : (callFunc 32 args).run Ybaf.prog w = (FmtCalls.sprintf #[9, 152] #[9] args).run Ybaf.prog w :=
  run_callFunc_next Ybaf.func32 (by kernel_rfl) (by kernel_rfl) (by kernel_rfl) args w
theorem fguard (name : String) (w : World) : (FmtStop.guard name).run Ybaf.prog w = .ok () w := by kernel_rfl
theorem nextTurns : Extern.next FmtCalls.turnsRow = some (FmtCalls.begun #[] #[]) := by kernel_rfl
def rangeFmt : ByteArray := ⟨#[37, 100, 45, 37, 100]⟩
theorem ffmt : FmtStop.printed? rangeFmt 2 = some [(0, 100, false), (1, 100, false)] := by kernel_rfl
theorem fparse : (FmtText.parse [37, 100, 45, 37, 100]).map FmtText.glue = some [.verb {} 100, .lit [45], .verb {} 100] := by rfl
def shape110 : List UInt8 := FmtStop.intCode .u16 :: [6, 0, 0, 0, 0, 0, 0, 0, 117, 105, 110, 116, 49, 54]
theorem op110 (name : String) (x : Int) (w : World) : (FmtStop.operand name false 118 false (.iface 110 (.int .u16 x))).run Ybaf.prog w = .ok (shape110, digits 8 (x % 2 ^ 64).toNat) w := by kernel_rfl
theorem act110 (name : String) (x : Value) (w : World) : (FmtCalls.act name false 100 false (.iface 110 x)).run Ybaf.prog w = .ok (.closed false) w := by kernel_rfl
theorem op110d (name : String) (x : Int) (w : World) : (FmtStop.operand name false 100 false (.iface 110 (.int .u16 x))).run Ybaf.prog w = .ok (shape110, digits 8 (x % 2 ^ 64).toNat) w := by kernel_rfl
theorem u16_wf {x : Int} (h : U16 x) : (Lit.int .u16 x).wf = true := by
  have h1 := h.1
  have h2 := h.2
  have e1 : IntKind.u16.min = 0 := rfl
  have e2 : IntKind.u16.max = 65535 := rfl
  simp [Lit.wf, e1, e2]
  omega
/-! ### The texts -/
theorem text1 {x : Int} (h : U16 x) : FmtText.text "fmt.Sprint" [shape110, digits 8 (x % 18446744073709551616).toNat] = some (Lib.itoa x) := by
  have hi := FmtText.operand_int_at (sh := shape110) (k := .u16) rfl rfl x (u16_wf h)
  rw [FmtText.text_sprint (FmtText.operands_cons hi FmtText.operands_nil)]
  simp [FmtText.doPrint, FmtText.printArg_v _ _ (u16_wf h)]
theorem text2 {x y : Int} (h : U16 x) (h' : U16 y) : FmtText.text "fmt.Sprintf" [[37, 100, 45, 37, 100], shape110, digits 8 (x % 18446744073709551616).toNat, shape110, digits 8 (y % 18446744073709551616).toNat] = some (Lib.itoa x ++ [45] ++ Lib.itoa y) := by
  have hi := FmtText.operand_int_at (sh := shape110) (k := .u16) rfl rfl x (u16_wf h)
  have hj := FmtText.operand_int_at (sh := shape110) (k := .u16) rfl rfl y (u16_wf h')
  rw [FmtText.text_sprintf_glued fparse (FmtText.operands_cons hi (FmtText.operands_cons hj FmtText.operands_nil))]
  simp [FmtText.render, FmtText.printArg_d _ _ (u16_wf h), FmtText.printArg_d _ _ (u16_wf h')]
theorem tx1 (F : Interp) {x : Int} (h : U16 x) : FmtStop.textOf (F.told "fmt.Sprint" [shape110, digits 8 (x % 18446744073709551616).toNat] 0) = bs (Lib.itoa x) := by
  have hl := itoa16 h
  have ht := told_string F (text1 h) (by omega)
  have h2 := (textOf_list F.told "fmt.Sprint" _).trans ht
  exact ByteArray.ext (Array.ext' (by simpa [bs] using h2))
theorem tx2 (F : Interp) {x y : Int} (h : U16 x) (h' : U16 y) : FmtStop.textOf (F.told "fmt.Sprintf" [[37, 100, 45, 37, 100], shape110, digits 8 (x % 18446744073709551616).toNat, shape110, digits 8 (y % 18446744073709551616).toNat] 0) = bs (Lib.itoa x ++ [45] ++ Lib.itoa y) := by
  have hl := itoa16 h
  have hl' := itoa16 h'
  have ht := told_string F (text2 h h') (by simp only [List.length_append, List.length_cons, List.length_nil]; omega)
  have h2 := (textOf_list F.told "fmt.Sprintf" _).trans ht
  exact ByteArray.ext (Array.ext' (by simpa [bs] using h2))
/-! ### The calls -/
theorem loads1 {w : World} {b : Nat} {v : Value} (h : w.cell? ⟨b, 0, none⟩ = some v) : (loadCells ⟨b, 0, none⟩ 1).run Ybaf.prog w = .ok #[v] w :=
  run_loadCells_list (P := Ybaf.prog) w ⟨b, 0, none⟩ [v] (fun j u hj => by
    match j, hj with
    | 0, hj => simp at hj; subst hj; exact h)
theorem loads2 {w : World} {b : Nat} {v u : Value} (h : w.cell? ⟨b, 0, none⟩ = some v) (h' : w.cell? ⟨b, 1, none⟩ = some u) : (loadCells ⟨b, 0, none⟩ 2).run Ybaf.prog w = .ok #[v, u] w :=
  run_loadCells_list (P := Ybaf.prog) w ⟨b, 0, none⟩ [v, u] (fun j x hj => by
    match j, hj with
    | 0, hj => simp at hj; subst hj; exact h
    | 1, hj => simp at hj; subst hj; exact h')
theorem sprint_run (F : Interp) {w : World} {b : Nat} {x : Int} (hx : U16 x) (hF : F.told.answers w.tape) (hc : w.cell? ⟨b, 0, none⟩ = some (.iface 110 (.int .u16 x))) :
    (callFunc 30 #[.slice (some ⟨b, 0, none⟩) 1 1]).run Ybaf.prog w = .ok (.value (.string (bs (Lib.itoa x)))) w.drew := by
  have hF' := answers_open hF
  have hl := loads1 hc
  have ht := tx1 F hx
  have ho := op110 "fmt.Sprint" x w
  have hg := fguard
  rw [call30]
  go_simp
theorem sprintf_rows (F : Interp) {w : World} {b : Nat} {x y : Int} {R : Value → World → Prop} (hx : U16 x) (hy : U16 y) (hF : F.told.answers w.tape) (hc : w.cell? ⟨b, 0, none⟩ = some (.iface 110 (.int .u16 x))) (hc' : w.cell? ⟨b, 1, none⟩ = some (.iface 110 (.int .u16 y)))
    (h : R (.string (bs (Lib.itoa x ++ [45] ++ Lib.itoa y))) w.drew) : Rows Ybaf.prog FmtCalls.turnsRow (FmtCalls.save 0 0 (.slice (some ⟨b, 0, none⟩) 2 2) rangeFmt [] [(0, 100, false), (1, 100, false)]) w R := by
  have hF' := answers_open hF
  have ht := tx2 F hx hy
  refine rows_value nextTurns ?_ h
  have a1 := act110
  have o1 := op110d
  go_simp
  exact ht.trans (by simp)
theorem sprintf_run {w : World} {b : Nat} : (callFunc 32 #[.string rangeFmt, .slice (some ⟨b, 0, none⟩) 2 2]).run Ybaf.prog w = .ok (.row FmtCalls.turnsRow (FmtCalls.save 0 0 (.slice (some ⟨b, 0, none⟩) 2 2) rangeFmt [] [(0, 100, false), (1, 100, false)])) w := by
  rw [call32, FmtCalls.sprintf_lit]
  simp [fguard, FmtDoors.count, ffmt]
/-! ### At an operation -/
theorem eval_func (a : Act) (f : FuncId) : a.eval (.func f) = .func (.func f) #[] #[] := rfl
theorem wp_sprint (F : Interp) (w : World) {o : Oper} {a : Act} {K : Act → World → Prop} {Q : Exit → Act → World → Prop} (x : Operand) (ho : o.op = .call { callee := .value (.func 30), args := #[x], argTypes := #[152] }) (b : Nat) (hx : a.eval x = .slice (some ⟨b, 0, none⟩) 1 1)
    (n : Int) (hn : U16 n) (hF : F.told.answers w.tape) (hc : w.cell? ⟨b, 0, none⟩ = some (.iface 110 (.int .u16 n))) (h : K (a.put o.dst (.string (bs (Lib.itoa n)))) w.drew) : o.wp Ybaf.prog a w K Q := by
  have hr := sprint_run F hn hF hc
  unfold Oper.wp execOp
  simp [ho, resolve, invoke, Deferred.ofValue, eval_func, hx, hr, Oper.upon, h]
theorem wp_sprintf (F : Interp) (w : World) {o : Oper} {a : Act} {K : Act → World → Prop} {Q : Exit → Act → World → Prop} (x : Operand) (ho : o.op = .call { callee := .value (.func 32), args := #[.const (.string rangeFmt), x], argTypes := #[9, 152] }) (b : Nat) (hx : a.eval x = .slice (some ⟨b, 0, none⟩) 2 2)
    (n m : Int) (hn : U16 n) (hm : U16 m) (hF : F.told.answers w.tape) (hc : w.cell? ⟨b, 0, none⟩ = some (.iface 110 (.int .u16 n))) (hc' : w.cell? ⟨b, 1, none⟩ = some (.iface 110 (.int .u16 m)))
    (h : K (a.put o.dst (.string (bs (Lib.itoa n ++ [45] ++ Lib.itoa m)))) w.drew) : o.wp Ybaf.prog a w K Q := by
  have hr := sprintf_run (w := w) (b := b)
  have he : a.eval (.const (.string rangeFmt)) = .string rangeFmt := rfl
  unfold Oper.wp execOp
  simp [ho, resolve, invoke, Deferred.ofValue, eval_func, hx, he, hr, Oper.upon]
  exact sprintf_rows F hn hm hF hc hc' h
theorem wpList_sprint (F : Interp) (w : World) {ops : Array Oper} {rest : List Oper} {o : Oper} {a : Act} {Q : Exit → Act → World → Prop} (hgd : o.guard = none) (x : Operand) (ho : o.op = .call { callee := .value (.func 30), args := #[x], argTypes := #[152] }) (b : Nat) (hx : a.eval x = .slice (some ⟨b, 0, none⟩) 1 1)
    (n : Int) (hn : U16 n) (hF : F.told.answers w.tape) (hc : w.cell? ⟨b, 0, none⟩ = some (.iface 110 (.int .u16 n))) (h : wpList Ybaf.prog ops Q rest (a.put o.dst (.string (bs (Lib.itoa n)))) w.drew) : wpList Ybaf.prog ops Q (o :: rest) a w :=
  wpList_plain hgd fun _ hK => wp_sprint F w x ho b hx n hn hF hc (hK _ _ h)
theorem step_sprint (F : Interp) (w : World) {ops : Array Oper} {o : Oper} {a : Act} {K : Act → World → Prop} {Q : Exit → Act → World → Prop} {E : Prop} (hgd : o.guard = none) (x : Operand) (ho : o.op = .call { callee := .value (.func 30), args := #[x], argTypes := #[152] }) (b : Nat) (hx : a.eval x = .slice (some ⟨b, 0, none⟩) 1 1)
    (n : Int) (hn : U16 n) (hF : F.told.answers w.tape) (hc : w.cell? ⟨b, 0, none⟩ = some (.iface 110 (.int .u16 n))) (h : K (a.put o.dst (.string (bs (Lib.itoa n)))) w.drew) : if Region.wanted o (yielded ops a.tmps) = true then Oper.wp Ybaf.prog o a w K Q else E := by
  have hw : Region.wanted o (yielded ops a.tmps) = true := by simp [Region.wanted, hgd]
  rw [if_pos hw]
  exact wp_sprint F w x ho b hx n hn hF hc h
theorem step_sprintf (F : Interp) (w : World) {ops : Array Oper} {o : Oper} {a : Act} {K : Act → World → Prop} {Q : Exit → Act → World → Prop} {E : Prop} (hgd : o.guard = none) (x : Operand) (ho : o.op = .call { callee := .value (.func 32), args := #[.const (.string rangeFmt), x], argTypes := #[9, 152] }) (b : Nat) (hx : a.eval x = .slice (some ⟨b, 0, none⟩) 2 2)
    (n m : Int) (hn : U16 n) (hm : U16 m) (hF : F.told.answers w.tape) (hc : w.cell? ⟨b, 0, none⟩ = some (.iface 110 (.int .u16 n))) (hc' : w.cell? ⟨b, 1, none⟩ = some (.iface 110 (.int .u16 m)))
    (h : K (a.put o.dst (.string (bs (Lib.itoa n ++ [45] ++ Lib.itoa m)))) w.drew) : if Region.wanted o (yielded ops a.tmps) = true then Oper.wp Ybaf.prog o a w K Q else E := by
  have hw : Region.wanted o (yielded ops a.tmps) = true := by simp [Region.wanted, hgd]
  rw [if_pos hw]
  exact wp_sprintf F w x ho b hx n m hn hm hF hc hc' h
end Go.Proofs.YbulkdewqFmt
