/- The entries that came in. -/
import Derived.Test.YbulkdeumDoorLaid
import Derived.Test.YbulkdeumDoorKeepPlain
import Derived.Deep.Slices
namespace Go.Proofs.YbulkdeumDoor
open Go.ChangeShapes Go.WideShapes Go.ChangeAt Go.RowKit Go.Deep
theorem cells28 : Ybad.prog.cellsOf 28 = 5 := by kernel_rfl
theorem cells5' : Ybad.prog.cellsOf 5 = 1 := by kernel_rfl
theorem cells26 : Ybad.prog.cellsOf 26 = 1 := by kernel_rfl
theorem list5 {α : Type} (l : List α) (h : l.length = 5) : ∃ a b c d e, l = [a, b, c, d, e] := by
  match l, h with
  | [a, b, c, d, e], _ => exact ⟨a, b, c, d, e, rfl⟩
/-- An entry's five cells. -/
theorem entry_cells {H : Type} {enc : TypeId × Value → H} {W : World} {base : Nat} {sp : Nat → Bool} {held : Bool} {fuel : Nat} {cs : List Value} {x : DataW H × List MemPlace} (h : DataW.trod enc Ybad.prog W base sp held fuel 28 cs = some x) :
    ∃ e : En, e.ok ∧ cs = [.int .u8 e.a, .int .u8 e.b, .int .u8 e.c, .int .u8 e.d, .int .u16 e.p] := by
  obtain ⟨xs, n, _, _, hlen, hxs, hf⟩ := DataW.trod_struct Ybad.underlying28 h
  rw [cells28] at hlen
  simp only [List.size_toArray, List.length_cons, List.length_nil] at hxs
  obtain ⟨c0, c1, c2, c3, c4, rfl⟩ := list5 cs hlen
  obtain ⟨x0, x1, x2, x3, x4, rfl⟩ := list5 xs hxs
  · have k0 : DataW.trod enc Ybad.prog W base sp held n 5 (([c0, c1, c2, c3, c4].drop 0).take (Ybad.prog.cellsOf 5)) = some x0 := hf 0 _ rfl
    have k1 : DataW.trod enc Ybad.prog W base sp held n 5 (([c0, c1, c2, c3, c4].drop 1).take (Ybad.prog.cellsOf 5)) = some x1 := hf 1 _ rfl
    have k2 : DataW.trod enc Ybad.prog W base sp held n 5 (([c0, c1, c2, c3, c4].drop 2).take (Ybad.prog.cellsOf 5)) = some x2 := hf 2 _ rfl
    have k3 : DataW.trod enc Ybad.prog W base sp held n 5 (([c0, c1, c2, c3, c4].drop 3).take (Ybad.prog.cellsOf 5)) = some x3 := hf 3 _ rfl
    have k4 : DataW.trod enc Ybad.prog W base sp held n 26 (([c0, c1, c2, c3, c4].drop 4).take (Ybad.prog.cellsOf 26)) = some x4 := hf 4 _ rfl
    rw [cells5'] at k0 k1 k2 k3
    rw [cells26] at k4
    obtain ⟨n0, e0, _, w0⟩ := DataW.trod_int Ybad.underlying5 k0
    obtain ⟨n1, e1, _, w1⟩ := DataW.trod_int Ybad.underlying5 k1
    obtain ⟨n2, e2, _, w2⟩ := DataW.trod_int Ybad.underlying5 k2
    obtain ⟨n3, e3, _, w3⟩ := DataW.trod_int Ybad.underlying5 k3
    obtain ⟨n4, e4, _, w4⟩ := DataW.trod_int Ybad.underlying26 k4
    simp at e0 e1 e2 e3 e4
    subst e0 e1 e2 e3 e4
    exact ⟨⟨n0, n1, n2, n3, n4⟩, ⟨bounds_u8 w0, bounds_u8 w1, bounds_u8 w2, bounds_u8 w3, (bounds_u16 w4).1, (bounds_u16 w4).2⟩, rfl⟩
/-- The slice of entries that came in, as the walk wants it. -/
theorem entries_open {H : Type} {enc : TypeId × Value → H} {W : World} {a : Option Addr} {len cap fuel : Nat} {x : DataW H × List MemPlace} (h : DataW.trod enc Ybad.prog W 0 (fun _ => true) true fuel 22 [.slice a len cap] = some x) : ∃ es, Entries W a len es := by
  haveI : Inhabited En := ⟨⟨0, 0, 0, 0, 0⟩⟩
  have zok : (⟨0, 0, 0, 0, 0⟩ : En).ok := ⟨b0, b0, b0, b0, by decide, by decide⟩
  rcases open_slice Ybad.underlying22 h with ⟨hcs, _⟩ | ⟨ad, l, c, m, n, D, Pl, hcs, _, hlc, _, hm, _, hel⟩
  · simp at hcs
    obtain ⟨rfl, rfl, rfl⟩ := hcs
    exact ⟨fun _ => ⟨0, 0, 0, 0, 0⟩, fun _ => zok, fun hp => by omega⟩
  · simp at hcs
    obtain ⟨rfl, rfl, rfl⟩ := hcs
    have hm' : m = cap := by simpa using hm
    subst hm'
    rw [cells28] at hel
    by_cases h0 : 0 < len
    · obtain ⟨cs0, hc0, _⟩ := hel 0 (by omega)
      have e0 : ∀ x : Addr, x.add 0 = x := fun x => by simp [Addr.add]
      obtain ⟨_, hcl0, hcc0⟩ := World.cells?_some hc0
      have hc00 := hcc0 0 (by omega)
      rw [Nat.zero_mul, e0, e0] at hc00
      obtain ⟨b, off, spt⟩ := ad
      have hv : ∃ v, W.cell? ⟨b, off, spt⟩ = some v := by
        rw [hc00]
        exact ⟨cs0[0]'(by omega), by simp⟩
      obtain ⟨v, hv⟩ := hv
      have hsp : spt = none := by
        unfold World.cell? at hv
        split at hv
        · by_cases hs : spt.isSome = true
          · rw [if_pos hs] at hv; cases hv
          · simpa using hs
        · cases hv
      subst hsp
      have hlt := World.block_lt_of_cell? W _ hv
      have hall : ∀ i, i < len → ∃ e : En, e.ok ∧ W.cell? ⟨b, off + i * 5, none⟩ = some (.int .u8 e.a) ∧ W.cell? ⟨b, off + i * 5 + 1, none⟩ = some (.int .u8 e.b) ∧
          W.cell? ⟨b, off + i * 5 + 2, none⟩ = some (.int .u8 e.c) ∧ W.cell? ⟨b, off + i * 5 + 3, none⟩ = some (.int .u8 e.d) ∧ W.cell? ⟨b, off + i * 5 + 4, none⟩ = some (.int .u16 e.p) := by
        intro i hi
        obtain ⟨cs, hc, ht⟩ := hel i (by omega)
        obtain ⟨e, hok, rfl⟩ := entry_cells ht
        obtain ⟨_, _, hcc⟩ := World.cells?_some hc
        rw [addr_add] at hcc
        refine ⟨e, hok, ?_, ?_, ?_, ?_, ?_⟩
        · have := hcc 0 (by omega); rw [addr_add] at this; simpa using this
        · have := hcc 1 (by omega); rw [addr_add] at this; simpa using this
        · have := hcc 2 (by omega); rw [addr_add] at this; simpa using this
        · have := hcc 3 (by omega); rw [addr_add] at this; simpa using this
        · have := hcc 4 (by omega); rw [addr_add] at this; simpa using this
      obtain ⟨f, hf⟩ := choose_lt hall
      refine ⟨fun i => if i < len then f i else ⟨0, 0, 0, 0, 0⟩, fun i => ?_, fun _ => ⟨b, off, rfl, hlt, fun i hi => ?_⟩⟩
      · show (if i < len then f i else (⟨0, 0, 0, 0, 0⟩ : En)).ok
        by_cases hi : i < len
        · rw [if_pos hi]; exact (hf i hi).1
        · rw [if_neg hi]; exact zok
      · simp only [if_pos hi]
        exact (hf i hi).2
    · exact ⟨fun _ => ⟨0, 0, 0, 0, 0⟩, fun _ => zok, fun hp => by omega⟩
end Go.Proofs.YbulkdeumDoor
