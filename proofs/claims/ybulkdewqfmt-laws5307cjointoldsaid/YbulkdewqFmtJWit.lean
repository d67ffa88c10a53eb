/- An input that fits. -/
import Derived.Test.YbulkdewqFmtJLaid
namespace Go.Proofs.YbulkdewqFmt
open Go.ChangeShapes Go.WideShapes Go.ChangeAt Go.WideMaps Go.WideElems Go.RowKit
open Go.Extern.Stop Go.Stop Go.Extern
/-- An input that fits, on a tape that F answers. -/
theorem wit {H : Type} {enc : TypeId × Value → H} {C : Checked} {os : Os} {f : FuncId} {fn : Func} {s : OpenSpec} {conds : List PathCond} {apart : Bool} {laid : List (String × DataW Unit)} (w0 : World) (args : Array Value) (hos : w0.os = os)
    (hsh : (w0.forCall (fun _ _ => 0) ⟨#[], args, []⟩).Shaped C.prog)
    (hok : Input.okWideB C.prog (w0.forCall (fun _ _ => 0) ⟨#[], args, []⟩) f ⟨#[], args, []⟩ = true)
    (hrow : s.preRow enc C.prog fn conds apart laid (w0.forCall (fun _ _ => 0) ⟨#[], args, []⟩).memory args) (F : Stop.Interp) :
    ∃ (w : World) (tape : Tape) (i : Input), w.os = os ∧ (w.forCall tape i).Shaped C.prog ∧ i.vars = [] ∧ Input.okWide C.prog (w.forCall tape i) .any w.heap.size f i ∧
      s.preRow enc C.prog fn conds apart laid (w.forCall tape i).memory i.args ∧ ({} : Assume).holds C.prog (lone (Frame.enter C.prog f i.args .normal) [] (w.forCall tape i)) ∧ F.answers tape :=
  ⟨w0, F.over fun _ _ => 0, ⟨#[], args, []⟩, hos, hsh, (Input.okWide_of_okWideB (base := 0) hok).1, (Input.okWide_of_okWideB hok).2, hrow, by
    simp only [Assume.holds]
    exact ⟨by simp, by simp, fun _ => F.over_modest Modest.zero, by simp, by simp⟩, F.over_answers _⟩
def laid6 : List (String × DataW Unit) := Rows.lawS5307CJoinRow.laid.take 6
/-- The seven variables laid: the map in a block of its own. -/
noncomputable def mapWorld (os : Os) : World :=
  ((World.laidAll Ybaf.prog os laid6).alloc (.map #[{ key := .string ⟨#[105, 99, 109, 112]⟩, val := .int .u8 1, born := 0 }, { key := .string ⟨#[116, 99, 112]⟩, val := .int .u8 6, born := 1 }, { key := .string ⟨#[117, 100, 112]⟩, val := .int .u8 17, born := 2 }] 3)).setCell ⟨0, 0, none⟩ (.map (some (World.laidAll Ybaf.prog os laid6).heap.size))
set_option maxRecDepth 100000 in
theorem map_met (os : Os) (args : Array Value) : laidMetH Ybaf.prog Rows.lawS5307CJoinRow.laid ((mapWorld os).forCall (fun _ _ => 0) ⟨#[], args, []⟩).memory :=
  laidMetH_of_parts3 (fuel := 8) (laidMet_of_run' 8 (by kernel_rfl) (by kernel_rfl)) (by kernel_rfl) (by kernel_rfl)
set_option maxRecDepth 100000 in
theorem join_wit (os : Os) (H : Type) (enc : TypeId × Value → H) (F : Stop.Interp) :
    ∃ (w : World) (tape : Tape) (i : Input), w.os = os ∧ (w.forCall tape i).Shaped Ybaf.checked.prog ∧ i.vars = [] ∧ Input.okWide Ybaf.checked.prog (w.forCall tape i) .any w.heap.size 5 i ∧
      (OpenSpec.ofChange Rows.lawS5307CJoinSpec).preRow enc Ybaf.checked.prog Ybaf.f5 Rows.lawS5307CJoinRow.domain false Rows.lawS5307CJoinRow.laid (w.forCall tape i).memory i.args ∧ ({} : Assume).holds Ybaf.checked.prog (lone (Frame.enter Ybaf.checked.prog 5 i.args .normal) [] (w.forCall tape i)) ∧ F.answers tape :=
  wit (enc := enc) (C := Ybaf.checked) (os := os) (mapWorld os) #[.slice none 0 0] (World.laidAll_os _ _ _) (World.shaped_of_ZipB (by kernel_rfl) (by kernel_rfl)) (by kernel_rfl)
      (OpenSpec.preRow_of_B rfl 8 (by kernel_rfl) (by kernel_rfl) (map_met os _)) F
end Go.Proofs.YbulkdewqFmt
