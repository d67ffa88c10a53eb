/-
  DERIVED. GIVEN WITH THE SEED: THE CARDS: each row of YbulkdeumDoorRows.lean that lists a variable, with what it lists TIED to the program's text (the seventh form; the later family's looks); each row that meets fmt, with fmt's text TOLD by the authors' own Lean function (tested against real Go, not proved from fmt's source: count such statements apart). THE CARD IS WHAT COUNTS. Prove the row's statement (the work); the ties are given (YbulkdeumDoorTie.lean); close each card by the builder's one call (the guide's Derived/Test/ToyasCard.lean, 'card_holds'). Laid BY PROGRAM, IN A SANDBOX (cutbox-door.mjs). By AI agents, Wed Nov 11 2026. No macro, syntax, notation, axiom, sorry.
-/
import Derived.Test.YbulkdeumDoorRows
import GoSem.ClaimSeven
namespace Go.Proofs.YbulkdeumDoor
namespace Rows

/-- THE TIED CARD OF 'peer.LawS5303AKeeps'. -/
def lawS5303AKeepsCard : Claim7 := { stood := { row := lawS5303AKeepsRow, standIns := [], harness := (true, "98fa20cf3dae719de8f9750cfc3dcb5631ad5ca52509d1451ff774988008dec9"), looks := false }, kinds := [], alts := [], laidByText := true, laidKinds := [.called, .called, .sentinel], laidTests := true, laidLooks := .later }
def LawS5303AKeepsCardSaid : Prop := Claim7.holds Ybad.pinned (.plain (OpenSpec.ofChange lawS5303AKeepsSpec)) lawS5303AKeepsCard

/-- THE TIED CARD OF 'peer.LawS5303ARaw'. -/
def lawS5303ARawCard : Claim7 := { stood := { row := lawS5303ARawRow, standIns := [], harness := (true, "98fa20cf3dae719de8f9750cfc3dcb5631ad5ca52509d1451ff774988008dec9"), looks := false }, kinds := [], alts := [], laidByText := true, laidKinds := [.called, .called, .sentinel], laidTests := true, laidLooks := .later }
def LawS5303ARawCardSaid : Prop := Claim7.holds Ybad.pinned (.plain (OpenSpec.ofChange lawS5303ARawSpec)) lawS5303ARawCard
end Rows
end Go.Proofs.YbulkdeumDoor
