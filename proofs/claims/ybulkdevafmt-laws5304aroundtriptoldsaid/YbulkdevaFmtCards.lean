/-
  DERIVED. GIVEN WITH THE SEED: THE CARDS: each row of YbulkdevaFmtRows.lean that lists a variable, with what it lists TIED to the program's text (the seventh form; the later family's looks); each row that meets fmt, with fmt's text TOLD by the authors' own Lean function (tested against real Go, not proved from fmt's source: count such statements apart). THE CARD IS WHAT COUNTS. Prove the row's statement (the work); the ties are given (YbulkdevaFmtTie.lean); close each card by the builder's one call (the guide's Derived/Test/ToyasCard.lean, 'card_holds'). Laid BY PROGRAM, IN A SANDBOX (cutbox-door.mjs). By AI agents, Wed Nov 11 2026. No macro, syntax, notation, axiom, sorry.
-/
import Derived.Test.YbulkdevaFmtRows
import GoSem.ClaimSeven
namespace Go.Proofs.YbulkdevaFmt
namespace Rows

/-- THE TOLD AND TIED CARD OF 'manifest.LawS5304AExact'. -/
def lawS5304AExactCard : Claim7 := { stood := { row := lawS5304AExactRow, standIns := [], harness := (true, "994e64c170aee9b1bf78e2f1fe0e0a53803152a47b8e0d5ae5e45c5219748603"), looks := false }, told := true, laidByText := true, laidKinds := [.widerDeep], laidTests := true, laidLooks := .later, goes := false }
def LawS5304AExactToldSaid : Prop := Claim7.holds Ybaf.pinned (.plain (OpenSpec.ofChange lawS5304AExactSpec)) lawS5304AExactCard
/-- ITS FALSE NEIGHBOUR. Refute it at one input. -/
def LawS5304AExactToldWrongFalsely : Prop := Claim7.holds Ybaf.pinned (.plain (OpenSpec.ofChange lawS5304AExactWrong)) lawS5304AExactCard

/-- THE TOLD AND TIED CARD OF 'manifest.LawS5304ARoundTrip'. -/
def lawS5304ARoundTripCard : Claim7 := { stood := { row := lawS5304ARoundTripRow, standIns := [], harness := (true, "994e64c170aee9b1bf78e2f1fe0e0a53803152a47b8e0d5ae5e45c5219748603"), looks := false }, told := true, laidByText := true, laidKinds := [.widerDeep], laidTests := true, laidLooks := .later, goes := false }
def LawS5304ARoundTripToldSaid : Prop := Claim7.holds Ybaf.pinned (.plain (OpenSpec.ofChange lawS5304ARoundTripSpec)) lawS5304ARoundTripCard
/-- ITS FALSE NEIGHBOUR. Refute it at one input. -/
def LawS5304ARoundTripToldWrongFalsely : Prop := Claim7.holds Ybaf.pinned (.plain (OpenSpec.ofChange lawS5304ARoundTripWrong)) lawS5304ARoundTripCard

/-- THE TOLD AND TIED CARD OF 'layout.LawS5304CParse'. -/
def lawS5304CParseCard : Claim7 := { stood := { row := lawS5304CParseRow, standIns := [], harness := (true, "994e64c170aee9b1bf78e2f1fe0e0a53803152a47b8e0d5ae5e45c5219748603"), looks := false }, told := true, laidByText := true, laidKinds := [.data], laidTests := true, laidLooks := .later, goes := false }
def LawS5304CParseToldSaid : Prop := Claim7.holds Ybaf.pinned (.plain (OpenSpec.ofChange lawS5304CParseSpec)) lawS5304CParseCard
/-- ITS FALSE NEIGHBOUR. Refute it at one input. -/
def LawS5304CParseToldWrongFalsely : Prop := Claim7.holds Ybaf.pinned (.plain (OpenSpec.ofChange lawS5304CParseWrong)) lawS5304CParseCard

/-- THE TOLD AND TIED CARD OF 'layout.LawS5304CRoundTrip'. -/
def lawS5304CRoundTripCard : Claim7 := { stood := { row := lawS5304CRoundTripRow, standIns := [], harness := (true, "994e64c170aee9b1bf78e2f1fe0e0a53803152a47b8e0d5ae5e45c5219748603"), looks := false }, told := true, laidByText := true, laidKinds := [.data], laidTests := true, laidLooks := .later, goes := false }
def LawS5304CRoundTripToldSaid : Prop := Claim7.holds Ybaf.pinned (.plain (OpenSpec.ofChange lawS5304CRoundTripSpec)) lawS5304CRoundTripCard
/-- ITS FALSE NEIGHBOUR. Refute it at one input. -/
def LawS5304CRoundTripToldWrongFalsely : Prop := Claim7.holds Ybaf.pinned (.plain (OpenSpec.ofChange lawS5304CRoundTripWrong)) lawS5304CRoundTripCard
end Rows
end Go.Proofs.YbulkdevaFmt
