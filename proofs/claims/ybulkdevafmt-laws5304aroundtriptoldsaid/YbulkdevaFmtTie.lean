/-
  DERIVED. GIVEN WITH THE SEED: THE PROGRAM's TIES (one call each: nine closed facts by the kernel) AND EACH ROW's TIE, after the 31st guide's Derived/Test/Toyas{Tie, Card}.lean. No idea stands in it: it is a product of the set-up. Laid BY PROGRAM, IN A SANDBOX (cutbox-door.mjs). By AI agents, Wed Nov 11 2026. No macro, syntax, notation, axiom, sorry.
-/
import Derived.Test.YbulkdevaFmtRows
import Derived.LaidByTextLater
import Derived.SevenTiedAt
import Derived.LaidSub
import Derived.LaidOnce
namespace Go.Proofs.YbulkdevaFmt
open Go
set_option maxRecDepth 100000
theorem seatTie1 : Ybaf.prog.laidByTextLater [("example.com/fair-witness/fair-witness/manifest.attestationTexts", Rows.laid_example_com_fair_witness_fair_witness_manifest_attestationTexts), ("example.com/fair-witness/fair-witness/layout.permLetters", Rows.laid_example_com_fair_witness_fair_witness_layout_permLetters)] [.widerDeep, .data] true :=
  Program.laidByTextLater_by_one 22 8 7 (by kernel_rfl) (by kernel_rfl) (by kernel_rfl) (by kernel_rfl) (by kernel_rfl) (by kernel_rfl) (fun _ _ => by kernel_rfl)
theorem noOwnUnsafe : Ybaf.pinned.checked.prog.headLifts.contains "ownunsafe" = false := by kernel_rfl
theorem tie : Ybaf.prog.laidByTextLater [("example.com/fair-witness/fair-witness/manifest.attestationTexts", Rows.laid_example_com_fair_witness_fair_witness_manifest_attestationTexts)] [.widerDeep] true :=
  Program.laidByTextLater.sub seatTie1 ["example.com/fair-witness/fair-witness/manifest.attestationTexts"] (by kernel_rfl) (by kernel_rfl)
theorem lawS5304AExact_row_tie : Rows.lawS5304AExactRow.laidByTextAt .later Ybaf.pinned [.widerDeep] true :=
  OpenClaim.laidByTextAt_later rfl rfl tie noOwnUnsafe
theorem lawS5304ARoundTrip_row_tie : Rows.lawS5304ARoundTripRow.laidByTextAt .later Ybaf.pinned [.widerDeep] true :=
  OpenClaim.laidByTextAt_later rfl rfl tie noOwnUnsafe
theorem tie2 : Ybaf.prog.laidByTextLater [("example.com/fair-witness/fair-witness/layout.permLetters", Rows.laid_example_com_fair_witness_fair_witness_layout_permLetters)] [.data] true :=
  Program.laidByTextLater.sub seatTie1 ["example.com/fair-witness/fair-witness/layout.permLetters"] (by kernel_rfl) (by kernel_rfl)
theorem lawS5304CParse_row_tie : Rows.lawS5304CParseRow.laidByTextAt .later Ybaf.pinned [.data] true :=
  OpenClaim.laidByTextAt_later rfl rfl tie2 noOwnUnsafe
theorem lawS5304CRoundTrip_row_tie : Rows.lawS5304CRoundTripRow.laidByTextAt .later Ybaf.pinned [.data] true :=
  OpenClaim.laidByTextAt_later rfl rfl tie2 noOwnUnsafe
end Go.Proofs.YbulkdevaFmt
