/- What the listed variables give the walks. -/
import Derived.Test.YbulkdeumDoorRows
import Derived.Test.YbulkdeumDoorKept
import Derived.ProofKit
import Derived.LaidMore
import Derived.OpenShut
import Derived.Stop.Joined
import Derived.Stop.LaidErr
import Derived.ShutString
import Derived.ChangeOld
namespace Go.Proofs.YbulkdeumDoor
open Go.ChangeShapes Go.WideShapes Go.ChangeAt Go.RowKit

theorem own : ownKnob Ybad.prog.godebug = none := by kernel_rfl
theorem laidOut : laidOutB Ybad.prog = true := by kernel_rfl
theorem gZ4 : Ybad.prog.globalNamed "net/netip.z4" = some 0 := by kernel_rfl
theorem gErr : Ybad.prog.globalNamed "example.com/sluice/sluice/internal/wire.ErrShortBody" = some 1 := by kernel_rfl
theorem gZ6 : Ybad.prog.globalNamed "net/netip.z6noz" = some 3 := by kernel_rfl
theorem tZ4 : (Ybad.prog.globals[0]?).map (·.type) = some 34 := by kernel_rfl
theorem tErr : (Ybad.prog.globals[1]?).map (·.type) = some 127 := by kernel_rfl
theorem tZ6 : (Ybad.prog.globals[3]?).map (·.type) = some 34 := by kernel_rfl
def laid3 : List (String × DataW Unit) := [("net/netip.z4", Rows.laid_net_netip_z4), ("net/netip.z6noz", Rows.laid_net_netip_z6noz), ("example.com/sluice/sluice/internal/wire.ErrShortBody", Rows.laid_example_com_sluice_sluice_internal_wire_ErrShortBody)]
theorem pcells : Ybad.prog.cellsOf 32 = 1 := by kernel_rfl
theorem scells : Ybad.prog.cellsOf 34 = 1 := by kernel_rfl
/-- A variable of type unique.Handle reads as data: its one cell is a pointer. -/
theorem handle_cell {W : World} {fuel : Nat} {cs : List Value} {x : DataW Unit × List MemPlace} {enc : TypeId × Value → Unit} {base : Nat} {sp : Nat → Bool} {held : Bool} (h : DataW.trod enc Ybad.prog W base sp held fuel 34 cs = some x) : ∃ z, cs = [.pointer z] := by
  obtain ⟨y0, n, _, hlen, hf⟩ := trod_struct1 Ybad.underlying34 h
  rw [scells] at hlen
  obtain ⟨c, rfl⟩ := List.length_eq_one_iff.1 hlen
  · have hf2 : DataW.trod enc Ybad.prog W base sp held n 32 (([c].drop 0).take (Ybad.prog.cellsOf 32)) = some y0 := hf
    rw [pcells] at hf2
    rcases DataW.trod_pointer Ybad.underlying32 hf2 with ⟨e, _⟩ | ⟨a, _, _, _, _, e, _⟩
    · simp at e; exact ⟨_, by rw [e]⟩
    · simp at e; exact ⟨_, by rw [e]⟩
theorem err_cell {P : Program} {t : TypeId} {ms : Array (String × TypeId)} (ht : P.underlying t = some (.interface ms)) {W : World} {fuel : Nat} {cs : List Value} {enc : TypeId × Value → Unit} {base : Nat} {sp : Nat → Bool} {nm : String} {d : DataW Unit} {p : List MemPlace} (h : DataW.trod enc P W base sp false fuel t cs = some (.iface nm d, p)) : ∃ et ev, cs = [.iface et ev] := by
  cases fuel with
  | zero => simp [DataW.trod] at h
  | succ n =>
    match cs, h with
    | [], h => simp [DataW.trod, ht] at h
    | [v], h => cases v <;> simp [DataW.trod, ht] at h <;> exact ⟨_, _, rfl⟩
    | _ :: _ :: _, h => simp [DataW.trod, ht] at h
theorem of_laid {W : World} (h : laidMetH Ybad.prog laid3 W) : ∃ z4 z6 et ev, Gl z4 z6 et ev W := by
  rw [MakeChecks.laidMetH_plain _ _ _ (by kernel_rfl)] at h
  obtain ⟨ps, ⟨g0, t0, cs0, f0, p0, q0, hg0, ht0, hv0, hd0, ⟨g1, t1, cs1, f1, p1, q1, hg1, ht1, hv1, hd1, ⟨g2, t2, cs2, f2, p2, q2, hg2, ht2, hv2, hd2, _, _⟩, _⟩, _⟩, _, _⟩ := h
  obtain rfl := Option.some.inj (gZ4.symm.trans hg0)
  obtain rfl := Option.some.inj (gZ6.symm.trans hg1)
  obtain rfl := Option.some.inj (gErr.symm.trans hg2)
  obtain rfl := Option.some.inj (tZ4.symm.trans ht0)
  obtain rfl := Option.some.inj (tZ6.symm.trans ht1)
  obtain rfl := Option.some.inj (tErr.symm.trans ht2)
  obtain ⟨z4, hz4⟩ := handle_cell hd0
  obtain ⟨z6, hz6⟩ := handle_cell hd1
  obtain ⟨et, ev, he⟩ := err_cell Ybad.underlying127 hd2
  have k0 := World.var?_cell hg0 hv0 0
  have k1 := World.var?_cell hg1 hv1 0
  have k2 := World.var?_cell hg2 hv2 0
  rw [Array.eq_one_of_toList hz4] at k0
  rw [Array.eq_one_of_toList hz6] at k1
  rw [Array.eq_one_of_toList he] at k2
  simp only [List.getElem?_toArray, List.getElem?_cons_zero] at k0 k1 k2
  exact ⟨z4, z6, et, ev, World.block_lt_of_cell? W _ k1, k0, k1, k2⟩
/-- The named variable reads behind the call as it did. -/
theorem vars_again {H : Type} {enc : TypeId × Value → H} {W W' : World} {gs : List (DataW H)} {q : List MemPlace} (hV : DataW.TrodVars enc Ybad.prog W (fun _ => true) ["example.com/sluice/sluice/internal/wire.ErrShortBody"] gs q) (hG : 3 < W.heap.size) (b : Below W.heap.size W W') (sp : Nat → Bool) :
    ∃ g, gs = [g] ∧ ∃ ps, DataW.TrodVars enc Ybad.prog W' sp ["example.com/sluice/sluice/internal/wire.ErrShortBody"] [g] ps := by
  obtain ⟨g, t, cs, f, d, p, rfl, k1, k2, k3, k4, rfl⟩ := trodVars_one hV
  obtain rfl := Option.some.inj (gErr.symm.trans k1)
  obtain rfl := Option.some.inj (tErr.symm.trans k2)
  obtain ⟨v, hv, hi, hy⟩ := held_of_trod_list Ybad.underlying127 k4
  have hcs := Array.eq_one_of_toList hv
  subst hcs
  simp only [Prod.mk.injEq] at hy
  obtain ⟨rfl, rfl⟩ := hy
  have hw : W'.var? Ybad.prog "example.com/sluice/sluice/internal/wire.ErrShortBody" = some #[v] := by
    simp only [World.var?, gErr, Option.bind_some] at k3 ⊢
    rw [b.block 1 (by omega)]
    exact k3
  exact ⟨_, rfl, _, vars_read1 enc gErr tErr Ybad.underlying127 hw hi sp⟩
/-- The door's own heap meets the condition. -/
theorem door_met (os : Os) (args : Array Value) : laidMetH Ybad.prog laid3 ((World.doorLaid Ybad.prog 40 os).forCall (fun _ _ => 0) ⟨#[], args, []⟩).memory :=
  laidMetH_of_parts3 (fuel := 8) (laidMet_of_run' 8 (by kernel_rfl) (by kernel_rfl)) (by kernel_rfl) (by kernel_rfl)
end Go.Proofs.YbulkdeumDoor
