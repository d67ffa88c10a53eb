/-
  DERIVED. GIVEN WITH THE SEED: THE CARDS: each row of YbulkdewqFmtRows.lean that lists a variable, with what it lists TIED to the program's text (the seventh form; the later family's looks); each row that meets fmt, with fmt's text TOLD by the authors' own Lean function (tested against real Go, not proved from fmt's source: count such statements apart). THE CARD IS WHAT COUNTS. Prove the row's statement (the work); the ties are given (YbulkdewqFmtTie.lean); close each card by the builder's one call (the guide's Derived/Test/ToyasCard.lean, 'card_holds'). Laid BY PROGRAM, IN A SANDBOX (cutbox-door.mjs). By AI agents, Wed Nov 11 2026. No macro, syntax, notation, axiom, sorry.
-/
import Derived.Test.YbulkdewqFmtRows
import GoSem.ClaimSeven
namespace Go.Proofs.YbulkdewqFmt
namespace Rows

/-- THE TOLD AND TIED CARD OF 'ruleset.LawS5307AOrder'. -/
def lawS5307AOrderCard : Claim7 := { stood := { row := lawS5307AOrderRow, standIns := [], harness := (true, "a2fdd3ece49155e2360ae4720fc908406572b2ff816c1f08d021e69de479ef46"), looks := true }, told := true, laidByText := true, laidKinds := [.data, .data, .data, .widerDeep], laidTests := true, laidLooks := .later, goes := false }
def LawS5307AOrderToldSaid : Prop := Claim7.holds Ybaf.pinned (.plain (OpenSpec.ofChange lawS5307AOrderSpec)) lawS5307AOrderCard
/-- ITS FALSE NEIGHBOUR. Refute it at one input. -/
def LawS5307AOrderToldWrongFalsely : Prop := Claim7.holds Ybaf.pinned (.plain (OpenSpec.ofChange lawS5307AOrderWrong)) lawS5307AOrderCard

/-- THE TOLD AND TIED CARD OF 'ruleset.LawS5307BResolve'. -/
def lawS5307BResolveCard : Claim7 := { stood := { row := lawS5307BResolveRow, standIns := [], harness := (true, "a2fdd3ece49155e2360ae4720fc908406572b2ff816c1f08d021e69de479ef46"), looks := true }, told := true, laidByText := true, laidKinds := [.data, .pinned, .pinned], laidTests := true, laidLooks := .later, goes := false }
def LawS5307BResolveToldSaid : Prop := Claim7.holds Ybaf.pinned (.plain (OpenSpec.ofChange lawS5307BResolveSpec)) lawS5307BResolveCard
/-- ITS FALSE NEIGHBOUR. Refute it at one input. -/
def LawS5307BResolveToldWrongFalsely : Prop := Claim7.holds Ybaf.pinned (.plain (OpenSpec.ofChange lawS5307BResolveWrong)) lawS5307BResolveCard

/-- THE TOLD AND TIED CARD OF 'policy.LawS5307CJoin'. -/
def lawS5307CJoinCard : Claim7 := { stood := { row := lawS5307CJoinRow, standIns := [], harness := (true, "a2fdd3ece49155e2360ae4720fc908406572b2ff816c1f08d021e69de479ef46"), looks := true }, told := true, laidByText := true, laidKinds := [.data, .data, .data, .widerDeep, .data, .data, .mapped], laidTests := true, laidLooks := .later, goes := false }
def LawS5307CJoinToldSaid : Prop := Claim7.holds Ybaf.pinned (.plain (OpenSpec.ofChange lawS5307CJoinSpec)) lawS5307CJoinCard
/-- ITS FALSE NEIGHBOUR. Refute it at one input. -/
def LawS5307CJoinToldWrongFalsely : Prop := Claim7.holds Ybaf.pinned (.plain (OpenSpec.ofChange lawS5307CJoinWrong)) lawS5307CJoinCard

/-- THE TOLD AND TIED CARD OF 'policy.LawS5307CUnnamed'. -/
def lawS5307CUnnamedCard : Claim7 := { stood := { row := lawS5307CUnnamedRow, standIns := [], harness := (true, "a2fdd3ece49155e2360ae4720fc908406572b2ff816c1f08d021e69de479ef46"), looks := true }, told := true, laidByText := true, laidKinds := [.data, .data, .data, .widerDeep, .data, .data, .mapped], laidTests := true, laidLooks := .later, goes := false }
def LawS5307CUnnamedToldSaid : Prop := Claim7.holds Ybaf.pinned (.plain (OpenSpec.ofChange lawS5307CUnnamedSpec)) lawS5307CUnnamedCard
/-- ITS FALSE NEIGHBOUR. Refute it at one input. -/
def LawS5307CUnnamedToldWrongFalsely : Prop := Claim7.holds Ybaf.pinned (.plain (OpenSpec.ofChange lawS5307CUnnamedWrong)) lawS5307CUnnamedCard
end Rows
end Go.Proofs.YbulkdewqFmt
