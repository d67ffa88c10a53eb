/- What the listed table gives the walks; the witness. -/
import Derived.Test.YbulkdevaFmtRows
import Derived.Test.YbulkdevaFmtTie
import Derived.Test.YbulkdevaFmtCards
import Derived.Test.YbulkdevaFmtUnm
import Derived.ProofKit
import Derived.LaidMore
import Derived.OpenShut
import Derived.Stop.Joined
import Derived.Stop.JoinedTold
import Derived.ShutString
import Derived.ChangeOld
import Derived.Lay
import Derived.SevenTiedAt
namespace Go.Proofs.YbulkdevaFmt
open Go.ChangeShapes Go.WideShapes Go.ChangeAt Go.RowKit

theorem own : ownKnob Ybaf.prog.godebug = none := by kernel_rfl
theorem laidOut : laidOutB Ybaf.prog = true := by kernel_rfl
theorem gPL : Ybaf.prog.globalNamed "example.com/fair-witness/fair-witness/layout.permLetters" = some 1 := by kernel_rfl
theorem tPL : (Ybaf.prog.globals[1]?).map (·.type) = some 49 := by kernel_rfl
def laidC : List (String × DataW Unit) := [("example.com/fair-witness/fair-witness/layout.permLetters", Rows.laid_example_com_fair_witness_fair_witness_layout_permLetters)]
/-- An input that fits, on a tape that F answers. -/
theorem wit {H : Type} {enc : TypeId × Value → H} {C : Checked} {os : Os} {f : FuncId} {fn : Func} {s : OpenSpec} {conds : List PathCond} {apart : Bool} {laid : List (String × DataW Unit)} (w0 : World) (args : Array Value) (hos : w0.os = os)
    (hsh : (w0.forCall (fun _ _ => 0) ⟨#[], args, []⟩).Shaped C.prog)
    (hok : Input.okWideB C.prog (w0.forCall (fun _ _ => 0) ⟨#[], args, []⟩) f ⟨#[], args, []⟩ = true)
    (hrow : s.preRow enc C.prog fn conds apart laid (w0.forCall (fun _ _ => 0) ⟨#[], args, []⟩).memory args) (F : Stop.Interp) :
    ∃ (w : World) (tape : Tape) (i : Input), w.os = os ∧ (w.forCall tape i).Shaped C.prog ∧ i.vars = [] ∧ Input.okWide C.prog (w.forCall tape i) .any w.heap.size f i ∧
      s.preRow enc C.prog fn conds apart laid (w.forCall tape i).memory i.args ∧ ({} : Assume).holds C.prog (lone (Frame.enter C.prog f i.args .normal) [] (w.forCall tape i)) ∧ F.answers tape :=
  ⟨w0, F.over fun _ _ => 0, ⟨#[], args, []⟩, hos, hsh, (Input.okWide_of_okWideB (base := 0) hok).1, (Input.okWide_of_okWideB hok).2, hrow, by
    simp only [Assume.holds]
    exact ⟨by simp, by simp, fun _ => F.over_modest Modest.zero, by simp, by simp⟩, F.over_answers _⟩
theorem c48 : Ybaf.prog.cellsOf 48 = 2 := by kernel_rfl
theorem c49 : Ybaf.prog.cellsOf 49 = 6 := by kernel_rfl
theorem c5 : Ybaf.prog.cellsOf 5 = 1 := by kernel_rfl
theorem c37 : Ybaf.prog.cellsOf 37 = 1 := by kernel_rfl
theorem pair_cells {W : World} {enc : TypeId × Value → Unit} {sp : Nat → Bool} {held : Bool} {fuel : Nat} {c d : Value} {x : DataW Unit × List MemPlace} {a b : Int} (h : DataW.trod enc Ybaf.prog W 0 sp held fuel 48 [c, d] = some x)
    (hx : x.1 = .agg [.lit (.int .u8 a), .lit (.int .u64 b)]) : c = .int .u8 a ∧ d = .int .u64 b := by
  obtain ⟨y0, y1, n, rfl, _, h0, h1⟩ := trod_struct2 Ybaf.underlying48 h
  have h0' : DataW.trod enc Ybaf.prog W 0 sp held n 5 (([c, d].drop 0).take (Ybaf.prog.cellsOf 5)) = some y0 := h0
  have h1' : DataW.trod enc Ybaf.prog W 0 sp held n 37 (([c, d].drop 1).take (Ybaf.prog.cellsOf 37)) = some y1 := h1
  rw [c5] at h0'
  rw [c37] at h1'
  obtain ⟨k0, e0, rfl, _⟩ := DataW.trod_int Ybaf.underlying5 h0'
  obtain ⟨k1, e1, rfl, _⟩ := DataW.trod_int Ybaf.underlying37 h1'
  simp at e0 e1 hx
  obtain ⟨rfl, rfl⟩ := hx
  exact ⟨e0, e1⟩
theorem PL_of_laid {W : World} (h : laidMetH Ybaf.prog laidC W) : PL W := by
  rw [MakeChecks.laidMetH_plain _ _ _ (by kernel_rfl)] at h
  obtain ⟨ps, ⟨g0, t0, cs0, f0, p0, q0, hg0, ht0, hv0, hd0, _, _⟩, _, _⟩ := h
  obtain rfl := Option.some.inj (gPL.symm.trans hg0)
  obtain rfl := Option.some.inj (tPL.symm.trans ht0)
  obtain ⟨xs, m1, _, hx1, hlen, hn3, hel⟩ := DataW.trod_array Ybaf.underlying49 hd0
  rw [c49] at hlen
  simp only [c48] at hel
  have hvar := World.var?_cell hg0 hv0
  obtain ⟨l⟩ := cs0
  simp only at hlen hel hvar
  match l, hlen, xs, hn3 with
  | [e0, e1, e2, e3, e4, e5], _, [x0, x1, x2], _ =>
    have k0 := hel 0 (by decide)
    have k1 := hel 1 (by decide)
    have k2 := hel 2 (by decide)
    simp at k0 k1 k2
    simp only [Prod.mk.injEq, Rows.laid_example_com_fair_witness_fair_witness_layout_permLetters, List.map_cons, List.map_nil, DataW.agg.injEq, List.cons.injEq, and_true] at hx1
    obtain ⟨⟨d0, d1, d2⟩, _⟩ := hx1
    obtain ⟨rfl, rfl⟩ := pair_cells k0 d0.symm
    obtain ⟨rfl, rfl⟩ := pair_cells k1 d1.symm
    obtain ⟨rfl, rfl⟩ := pair_cells k2 d2.symm
    have v0 := hvar 0
    exact ⟨World.block_lt_of_cell? W _ v0, v0, hvar 1, hvar 2, hvar 3, hvar 4, hvar 5⟩
/-- The named table reads behind the call as it did. -/
theorem plVars_again {H : Type} {enc : TypeId × Value → H} {W W' : World} {gs : List (DataW H)} {q : List MemPlace} (hV : DataW.TrodVars enc Ybaf.prog W (fun _ => true) ["example.com/fair-witness/fair-witness/layout.permLetters"] gs q) (hG : 1 < W.heap.size) (b : Below W.heap.size W W')
    (hlt : ∀ x ∈ q, x.block < W.heap.size) :
    ∃ g, gs = [g] ∧ DataW.TrodVars enc Ybaf.prog W' (fun b => decide (b < W.heap.size)) ["example.com/fair-witness/fair-witness/layout.permLetters"] [g] q := by
  obtain ⟨g, t, cs, f, d, p, rfl, k1, k2, k3, k4, rfl⟩ := trodVars_one hV
  obtain rfl := Option.some.inj (gPL.symm.trans k1)
  obtain rfl := Option.some.inj (tPL.symm.trans k2)
  have hT : DataW.Trod enc Ybaf.prog W 0 (fun _ => true) true 49 (.agg cs) d p := ⟨f, by simpa [Value.cells] using k4⟩
  obtain ⟨f2, h2⟩ := Below.trod laidOut (by kernel_rfl) (of_decide_eq_true (by kernel_rfl)) hT b (fun x hx => hlt x (by simp [hx]))
  exact ⟨d, rfl, trodVars_mk1 gPL tPL (var?_below b gPL hG k3) (by simpa [Value.cells] using h2)⟩
end Go.Proofs.YbulkdevaFmt
