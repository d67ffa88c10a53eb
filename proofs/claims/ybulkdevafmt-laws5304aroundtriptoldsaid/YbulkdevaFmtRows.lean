/-
  NARROWER THAN 'FOR EVERY INPUT', by the rows' own cells (each row's printed sentence says how): LawS5304AExact: laid · LawS5304ARoundTrip: laid · LawS5304CParse: laid · LawS5304CRoundTrip: laid.
  DERIVED. THE GIVEN ROWS OF THIS SEAT. 4 by the template 'for every input the law returns true; each argument reads behind the call as it read before'; 0 by the template 'total and deterministic' (their statements: YbulkdevaFmtTotals.lean).
  GIVEN WITH THE SEED: the statements are not yours to turn. If you find one false, say at which input.
  Laid BY PROGRAM, IN A SANDBOX (cutbox-rows.mjs): the forced cells as the released guide's own fill.sh prints them over the translation d163e38fa7e85d0d… (all of the seat's roots in one cut). By AI agents, Wed Nov 11 2026. No macro, syntax, notation, axiom, sorry.
-/
import Derived.Test.YbulkdevaFmtChecked
import GoSem.Claim
import GoSem.ClaimJoined
import GoSem.ClaimMapViews
import Derived.JoinedTies
import Derived.KernelRfl
namespace Go.Proofs.YbulkdevaFmt
/- THE CELL 'sum', in the pinned program and in every row, IS THE sha256 OF THE DUMP (.gsa) THAT YbulkdevaFmtProg.lean LOADS. Nothing in Lean hashes anything: it is a label: what it is worth is what the hold of that sum in a sandbox is worth. -/
noncomputable def Ybaf.pinned : Pinned := { name := "ybulkdevafmt", sum := "d163e38fa7e85d0d1f9a012f3fdc8f8f4601f50b5a1690a2ddd2bd53acd2c1a4", checked := Ybaf.checked }
namespace Rows
def none {H : Type} : Left H := { results := [], args := [] }

/- WHAT THE LISTED PACKAGE-LEVEL VARIABLES READ AS WHEN THE CALL BEGINS. Each datum BY PROGRAM (the guide's laid-datum.mjs) off the statement by which the dump's own 'gosem.cut.vars' lays the variable. In a bare row this is a premise. The card (YbulkdevaFmtCards.lean) ties it to the program's text. -/
def laid_example_com_fair_witness_fair_witness_manifest_attestationTexts {H : Type} : DataW H := .slice [.lit (.string [110, 111, 110, 101]), .lit (.string [101, 112, 105, 100]), .lit (.string [100, 99, 97, 112])] []
def laid_example_com_fair_witness_fair_witness_layout_permLetters {H : Type} : DataW H := .agg [.agg [.lit (.int .u8 114), .lit (.int .u64 1)], .agg [.lit (.int .u8 119), .lit (.int .u64 2)], .agg [.lit (.int .u8 120), .lit (.int .u64 4)]]

/-- 'manifest.LawS5304AExact': WHATEVER THE INPUT: true; the input reads as it did. -/
def lawS5304AExactSpec : ChangeSpec := { name := "lawS5304AExact", vars := ["example.com/fair-witness/fair-witness/manifest.attestationTexts"], fn := fun _ => fun
  | [d1, d2, d3, g1] => { results := [.lit (.bool true)], args := [d1, d2, d3], vars := [g1] }
  | _ => none }
def lawS5304AExactRow : OpenClaim := { program := "ybulkdevafmt", sum := "d163e38fa7e85d0d1f9a012f3fdc8f8f4601f50b5a1690a2ddd2bd53acd2c1a4", func := "example.com/fair-witness/fair-witness/manifest.LawS5304AExact", spec := "lawS5304AExact", stops := ["fmt.Sprintf", "fmt.errorf"], inPlace := ["fmt.errorf"], named := ["example.com/fair-witness/fair-witness/manifest.attestationTexts"], apart := false, laid := [("example.com/fair-witness/fair-witness/manifest.attestationTexts", laid_example_com_fair_witness_fair_witness_manifest_attestationTexts)] }
/-- NO THEOREM (fmt's text is open here; it may be false): for the released tool's asking of the row's closed facts alone. THE STATEMENT IS 'LawS5304AExactToldSaid' (YbulkdevaFmtCards.lean). -/
def LawS5304AExactFormAsk : Prop := lawS5304AExactRow.holds Ybaf.pinned (OpenSpec.ofChange lawS5304AExactSpec)

/-- ITS FALSE NEIGHBOUR: 'it returns false'. Refute it at one input. -/
def lawS5304AExactWrong : ChangeSpec := { name := "lawS5304AExact", vars := ["example.com/fair-witness/fair-witness/manifest.attestationTexts"], fn := fun _ => fun
  | [d1, d2, d3, g1] => { results := [.lit (.bool false)], args := [d1, d2, d3], vars := [g1] }
  | _ => none }
def LawS5304AExactWrongFormAsk : Prop := lawS5304AExactRow.holds Ybaf.pinned (OpenSpec.ofChange lawS5304AExactWrong)

/-- 'manifest.LawS5304ARoundTrip': WHATEVER THE INPUT: true; the input reads as it did. -/
def lawS5304ARoundTripSpec : ChangeSpec := { name := "lawS5304ARoundTrip", vars := ["example.com/fair-witness/fair-witness/manifest.attestationTexts"], fn := fun _ => fun
  | [d1, d2, g1] => { results := [.lit (.bool true)], args := [d1, d2], vars := [g1] }
  | _ => none }
def lawS5304ARoundTripRow : OpenClaim := { program := "ybulkdevafmt", sum := "d163e38fa7e85d0d1f9a012f3fdc8f8f4601f50b5a1690a2ddd2bd53acd2c1a4", func := "example.com/fair-witness/fair-witness/manifest.LawS5304ARoundTrip", spec := "lawS5304ARoundTrip", stops := ["fmt.Sprintf", "fmt.errorf"], inPlace := ["fmt.errorf", "fmt.Sprintf"], named := ["example.com/fair-witness/fair-witness/manifest.attestationTexts"], apart := false, laid := [("example.com/fair-witness/fair-witness/manifest.attestationTexts", laid_example_com_fair_witness_fair_witness_manifest_attestationTexts)] }
/-- NO THEOREM (fmt's text is open here; it may be false): for the released tool's asking of the row's closed facts alone. THE STATEMENT IS 'LawS5304ARoundTripToldSaid' (YbulkdevaFmtCards.lean). -/
def LawS5304ARoundTripFormAsk : Prop := lawS5304ARoundTripRow.holds Ybaf.pinned (OpenSpec.ofChange lawS5304ARoundTripSpec)

/-- ITS FALSE NEIGHBOUR: 'it returns false'. Refute it at one input. -/
def lawS5304ARoundTripWrong : ChangeSpec := { name := "lawS5304ARoundTrip", vars := ["example.com/fair-witness/fair-witness/manifest.attestationTexts"], fn := fun _ => fun
  | [d1, d2, g1] => { results := [.lit (.bool false)], args := [d1, d2], vars := [g1] }
  | _ => none }
def LawS5304ARoundTripWrongFormAsk : Prop := lawS5304ARoundTripRow.holds Ybaf.pinned (OpenSpec.ofChange lawS5304ARoundTripWrong)

/-- 'layout.LawS5304CParse': WHATEVER THE INPUT: true; the input reads as it did. -/
def lawS5304CParseSpec : ChangeSpec := { name := "lawS5304CParse", vars := ["example.com/fair-witness/fair-witness/layout.permLetters"], fn := fun _ => fun
  | [d1, d2, d3, g1] => { results := [.lit (.bool true)], args := [d1, d2, d3], vars := [g1] }
  | _ => none }
def lawS5304CParseRow : OpenClaim := { program := "ybulkdevafmt", sum := "d163e38fa7e85d0d1f9a012f3fdc8f8f4601f50b5a1690a2ddd2bd53acd2c1a4", func := "example.com/fair-witness/fair-witness/layout.LawS5304CParse", spec := "lawS5304CParse", stops := ["fmt.Sprintf", "fmt.errorf"], inPlace := ["fmt.errorf"], named := ["example.com/fair-witness/fair-witness/layout.permLetters"], apart := false, laid := [("example.com/fair-witness/fair-witness/layout.permLetters", laid_example_com_fair_witness_fair_witness_layout_permLetters)] }
/-- NO THEOREM (fmt's text is open here; it may be false): for the released tool's asking of the row's closed facts alone. THE STATEMENT IS 'LawS5304CParseToldSaid' (YbulkdevaFmtCards.lean). -/
def LawS5304CParseFormAsk : Prop := lawS5304CParseRow.holds Ybaf.pinned (OpenSpec.ofChange lawS5304CParseSpec)

/-- ITS FALSE NEIGHBOUR: 'it returns false'. Refute it at one input. -/
def lawS5304CParseWrong : ChangeSpec := { name := "lawS5304CParse", vars := ["example.com/fair-witness/fair-witness/layout.permLetters"], fn := fun _ => fun
  | [d1, d2, d3, g1] => { results := [.lit (.bool false)], args := [d1, d2, d3], vars := [g1] }
  | _ => none }
def LawS5304CParseWrongFormAsk : Prop := lawS5304CParseRow.holds Ybaf.pinned (OpenSpec.ofChange lawS5304CParseWrong)

/-- 'layout.LawS5304CRoundTrip': WHATEVER THE INPUT: true; the input reads as it did. -/
def lawS5304CRoundTripSpec : ChangeSpec := { name := "lawS5304CRoundTrip", vars := ["example.com/fair-witness/fair-witness/layout.permLetters"], fn := fun _ => fun
  | [d1, d2, g1] => { results := [.lit (.bool true)], args := [d1, d2], vars := [g1] }
  | _ => none }
def lawS5304CRoundTripRow : OpenClaim := { program := "ybulkdevafmt", sum := "d163e38fa7e85d0d1f9a012f3fdc8f8f4601f50b5a1690a2ddd2bd53acd2c1a4", func := "example.com/fair-witness/fair-witness/layout.LawS5304CRoundTrip", spec := "lawS5304CRoundTrip", stops := ["fmt.Sprintf", "fmt.errorf"], inPlace := ["fmt.Sprintf", "fmt.errorf"], named := ["example.com/fair-witness/fair-witness/layout.permLetters"], apart := false, laid := [("example.com/fair-witness/fair-witness/layout.permLetters", laid_example_com_fair_witness_fair_witness_layout_permLetters)] }
/-- NO THEOREM (fmt's text is open here; it may be false): for the released tool's asking of the row's closed facts alone. THE STATEMENT IS 'LawS5304CRoundTripToldSaid' (YbulkdevaFmtCards.lean). -/
def LawS5304CRoundTripFormAsk : Prop := lawS5304CRoundTripRow.holds Ybaf.pinned (OpenSpec.ofChange lawS5304CRoundTripSpec)

/-- ITS FALSE NEIGHBOUR: 'it returns false'. Refute it at one input. -/
def lawS5304CRoundTripWrong : ChangeSpec := { name := "lawS5304CRoundTrip", vars := ["example.com/fair-witness/fair-witness/layout.permLetters"], fn := fun _ => fun
  | [d1, d2, g1] => { results := [.lit (.bool false)], args := [d1, d2], vars := [g1] }
  | _ => none }
def LawS5304CRoundTripWrongFormAsk : Prop := lawS5304CRoundTripRow.holds Ybaf.pinned (OpenSpec.ofChange lawS5304CRoundTripWrong)

end Rows
end Go.Proofs.YbulkdevaFmt
