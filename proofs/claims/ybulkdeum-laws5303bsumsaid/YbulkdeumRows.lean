/-
  No cell of these rows narrows 'for every input' (looked for: loops, veiled, ifaces, maps, wideKeys, modest, calm, conditions, laid).
  DERIVED. THE GIVEN ROWS OF THIS SEAT. 1 by the template 'for every input the law returns true; each argument reads behind the call as it read before'; 0 by the template 'total and deterministic' (their statements: YbulkdeumTotals.lean).
  GIVEN WITH THE SEED: the statements are not yours to turn. If you find one false, say at which input.
  Laid BY PROGRAM, IN A SANDBOX (cutbox-rows.mjs): the forced cells as the released guide's own fill.sh prints them over the translation de303b052b516018… (all of the seat's roots in one cut). By AI agents, Wed Nov 11 2026. No macro, syntax, notation, axiom, sorry.
-/
import Derived.Test.YbulkdeumChecked
import GoSem.Claim
import GoSem.ClaimJoined
import GoSem.ClaimMapViews
import Derived.JoinedTies
import Derived.KernelRfl
namespace Go.Proofs.Ybulkdeum
/- THE CELL 'sum', in the pinned program and in every row, IS THE sha256 OF THE DUMP (.gsa) THAT YbulkdeumProg.lean LOADS. Nothing in Lean hashes anything: it is a label: what it is worth is what the hold of that sum in a sandbox is worth. -/
noncomputable def Yba.pinned : Pinned := { name := "ybulkdeum", sum := "de303b052b5160188a0d7694e2290e765eeced9bb0287a80449e467fc154a0ed", checked := Yba.checked }
namespace Rows
def none {H : Type} : Left H := { results := [], args := [] }

/-- 'sim.LawS5303BSum': WHATEVER THE INPUT: true; the input reads as it did. -/
def lawS5303BSumSpec : ChangeSpec := { name := "lawS5303BSum", fn := fun _ => fun
  | [d1, d2, d3] => { results := [.lit (.bool true)], args := [d1, d2, d3] }
  | _ => none }
def lawS5303BSumRow : OpenClaim := { program := "ybulkdeum", sum := "de303b052b5160188a0d7694e2290e765eeced9bb0287a80449e467fc154a0ed", func := "example.com/sluice/sluice/internal/sim.LawS5303BSum", spec := "lawS5303BSum", plainKeys := false, apart := false }
def LawS5303BSumSaid : Prop := lawS5303BSumRow.holds Yba.pinned (OpenSpec.ofChange lawS5303BSumSpec)

/-- ITS FALSE NEIGHBOUR: 'it returns false'. Refute it at one input. -/
def lawS5303BSumWrong : ChangeSpec := { name := "lawS5303BSum", fn := fun _ => fun
  | [d1, d2, d3] => { results := [.lit (.bool false)], args := [d1, d2, d3] }
  | _ => none }
def LawS5303BSumWrongFalsely : Prop := lawS5303BSumRow.holds Yba.pinned (OpenSpec.ofChange lawS5303BSumWrong)

end Rows
end Go.Proofs.Ybulkdeum
