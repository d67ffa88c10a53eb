/-
  NARROWER THAN 'FOR EVERY INPUT', by the rows' own cells (each row's printed sentence says how): LawS5303AKeeps: ifaces, laid · LawS5303ARaw: ifaces, laid.
  DERIVED. THE GIVEN ROWS OF THIS SEAT. 2 by the template 'for every input the law returns true; each argument reads behind the call as it read before'; 0 by the template 'total and deterministic' (their statements: YbulkdeumDoorTotals.lean).
  GIVEN WITH THE SEED: the statements are not yours to turn. If you find one false, say at which input.
  Laid BY PROGRAM, IN A SANDBOX (cutbox-rows.mjs): the forced cells as the released guide's own fill.sh prints them over the translation 24115f37d45451d6… (all of the seat's roots in one cut). By AI agents, Wed Nov 11 2026. No macro, syntax, notation, axiom, sorry.
-/
import Derived.Test.YbulkdeumDoorChecked
import GoSem.Claim
import GoSem.ClaimJoined
import GoSem.ClaimMapViews
import Derived.JoinedTies
import Derived.KernelRfl
namespace Go.Proofs.YbulkdeumDoor
/- THE CELL 'sum', in the pinned program and in every row, IS THE sha256 OF THE DUMP (.gsa) THAT YbulkdeumDoorProg.lean LOADS. Nothing in Lean hashes anything: it is a label: what it is worth is what the hold of that sum in a sandbox is worth. -/
noncomputable def Ybad.pinned : Pinned := { name := "ybulkdeumdoor", sum := "24115f37d45451d61391799d81f1ad08f36a76b104783e9e772fffd809e656a5", checked := Ybad.checked }
namespace Rows
def none {H : Type} : Left H := { results := [], args := [] }

/- WHAT THE LISTED PACKAGE-LEVEL VARIABLES READ AS WHEN THE CALL BEGINS. Each datum BY PROGRAM (the guide's laid-datum.mjs) off the statement by which the dump's own 'gosem.cut.vars' lays the variable. In a bare row this is a premise. The card (YbulkdeumDoorCards.lean) ties it to the program's text. -/
def laid_net_netip_z4 {H : Type} : DataW H := .agg [.ptr (.agg [.lit (.bool false), .lit (.string [])])]
def laid_net_netip_z6noz {H : Type} : DataW H := .agg [.ptr (.agg [.lit (.bool true), .lit (.string [])])]
def laid_example_com_sluice_sluice_internal_wire_ErrShortBody {H : Type} : DataW H := .iface "*errors.errorString" (.ptr (.agg [.lit (.string [109, 101, 115, 115, 97, 103, 101, 32, 98, 111, 100, 121, 32, 116, 111, 111, 32, 115, 104, 111, 114, 116, 32, 102, 111, 114, 32, 105, 116, 115, 32, 108, 97, 121, 111, 117, 116])]))

/-- 'peer.LawS5303AKeeps': WHATEVER THE INPUT: true; the input reads as it did. -/
def lawS5303AKeepsSpec : ChangeSpec := { name := "lawS5303AKeeps", vars := ["example.com/sluice/sluice/internal/wire.ErrShortBody"], fn := fun _ => fun
  | [d1, d2, d3, g1] => { results := [.lit (.bool true)], args := [d1, d2, d3], vars := [g1] }
  | _ => none }
def lawS5303AKeepsRow : OpenClaim := { program := "ybulkdeumdoor", sum := "24115f37d45451d61391799d81f1ad08f36a76b104783e9e772fffd809e656a5", func := "example.com/sluice/sluice/internal/peer.LawS5303AKeeps", spec := "lawS5303AKeeps", named := ["net/netip.z4", "example.com/sluice/sluice/internal/wire.ErrShortBody", "encoding/binary.LittleEndian", "net/netip.z6noz"], ifaces := true, plainKeys := false, apart := false, laid := [("net/netip.z4", laid_net_netip_z4), ("net/netip.z6noz", laid_net_netip_z6noz), ("example.com/sluice/sluice/internal/wire.ErrShortBody", laid_example_com_sluice_sluice_internal_wire_ErrShortBody)] }
def LawS5303AKeepsSaid : Prop := lawS5303AKeepsRow.holds Ybad.pinned (OpenSpec.ofChange lawS5303AKeepsSpec)

/-- ITS FALSE NEIGHBOUR: 'it returns false'. Refute it at one input. -/
def lawS5303AKeepsWrong : ChangeSpec := { name := "lawS5303AKeeps", vars := ["example.com/sluice/sluice/internal/wire.ErrShortBody"], fn := fun _ => fun
  | [d1, d2, d3, g1] => { results := [.lit (.bool false)], args := [d1, d2, d3], vars := [g1] }
  | _ => none }
def LawS5303AKeepsWrongFalsely : Prop := lawS5303AKeepsRow.holds Ybad.pinned (OpenSpec.ofChange lawS5303AKeepsWrong)

/-- 'peer.LawS5303ARaw': WHATEVER THE INPUT: true; the input reads as it did. -/
def lawS5303ARawSpec : ChangeSpec := { name := "lawS5303ARaw", vars := ["example.com/sluice/sluice/internal/wire.ErrShortBody"], fn := fun _ => fun
  | [d, g1] => { results := [.lit (.bool true)], args := [d], vars := [g1] }
  | _ => none }
def lawS5303ARawRow : OpenClaim := { program := "ybulkdeumdoor", sum := "24115f37d45451d61391799d81f1ad08f36a76b104783e9e772fffd809e656a5", func := "example.com/sluice/sluice/internal/peer.LawS5303ARaw", spec := "lawS5303ARaw", named := ["net/netip.z4", "example.com/sluice/sluice/internal/wire.ErrShortBody", "encoding/binary.LittleEndian", "net/netip.z6noz"], ifaces := true, plainKeys := false, apart := false, laid := [("net/netip.z4", laid_net_netip_z4), ("net/netip.z6noz", laid_net_netip_z6noz), ("example.com/sluice/sluice/internal/wire.ErrShortBody", laid_example_com_sluice_sluice_internal_wire_ErrShortBody)] }
def LawS5303ARawSaid : Prop := lawS5303ARawRow.holds Ybad.pinned (OpenSpec.ofChange lawS5303ARawSpec)

/-- ITS FALSE NEIGHBOUR: 'it returns false'. Refute it at one input. -/
def lawS5303ARawWrong : ChangeSpec := { name := "lawS5303ARaw", vars := ["example.com/sluice/sluice/internal/wire.ErrShortBody"], fn := fun _ => fun
  | [d, g1] => { results := [.lit (.bool false)], args := [d], vars := [g1] }
  | _ => none }
def LawS5303ARawWrongFalsely : Prop := lawS5303ARawRow.holds Ybad.pinned (OpenSpec.ofChange lawS5303ARawWrong)

end Rows
end Go.Proofs.YbulkdeumDoor
