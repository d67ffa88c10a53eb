/- The walk of LawS5303BSum. -/
import Derived.Test.YbulkdeumPlain
import Derived.OpenShut
namespace Go.Proofs.Ybulkdeum
open Go.RowKit
def IsRow (k : IntKind) (w : World) (a : Option Addr) (len cap : Nat) (zs : List Int) : Prop :=
  (a = none ∧ len = 0 ∧ cap = 0 ∧ zs = []) ∨
  ∃ x, a = some x ∧ len ≤ cap ∧ cap ≤ maxLen ∧ zs.length = cap ∧ (∀ i, i < zs.length → w.cell? (x.add i) = some (.int k (zs.getD i 0))) ∧ ∀ n ∈ zs, (Lit.int k n).wf = true

def fl (z : List Int) (j : Nat) : Int := z.getD j 0
def flk (z : List Int) (k j : Nat) : Int := if j < k then fl z j else 0
theorem flk_zero (z : List Int) : (fun _ => (0 : Int)) = flk z 0 := by funext j; simp [flk]
theorem flk_succ (z : List Int) (k : Nat) : (fun j => if j = k then fl z k else flk z k j) = flk z (k + 1) := by
  funext j
  unfold flk
  by_cases h : j = k
  · subst h; simp
  · by_cases h2 : j < k
    · rw [if_neg h, if_pos h2, if_pos (by omega)]
    · rw [if_neg h, if_neg h2, if_neg (by omega)]

theorem cell_lt {w : World} {a : Addr} {v : Value} (h : w.cell? a = some v) : a.block < w.heap.size ∧ a.spot = none := by
  unfold World.cell? at h
  split at h
  · rename_i hb
    refine ⟨(Array.getElem?_eq_some_iff.1 hb).1, ?_⟩
    by_cases hs : a.spot.isSome = true
    · rw [if_pos hs] at h; cases h
    · simpa using hs
  · cases h

theorem addr_add (b off i : Nat) : (⟨b, off, none⟩ : Addr).add i = ⟨b, off + i, none⟩ := by
  unfold Addr.add; split <;> simp_all
/-- An element that is there: the slice is not nil, and its cell holds the number. -/
theorem IsRow.at {k : IntKind} {w : World} {a : Option Addr} {len cap : Nat} {zs : List Int} (h : IsRow k w a len cap zs) {i : Nat} (hi : i < len) :
    ∃ b off, a = some ⟨b, off, none⟩ ∧ b < w.heap.size ∧ w.cell? ⟨b, off + i, none⟩ = some (.int k (fl zs i)) := by
  rcases h with ⟨_, h, _⟩ | ⟨x, rfl, hl, _, hz, hc, _⟩
  · omega
  · obtain ⟨b, off, sp⟩ := x
    have h0 := hc 0 (by omega)
    have e0 : ∀ x : Addr, x.add 0 = x := fun x => by simp [Addr.add]
    rw [e0] at h0
    obtain ⟨hlt, hsp⟩ := cell_lt h0
    simp only at hlt hsp
    subst hsp
    have h1 := hc i (by omega)
    rw [addr_add] at h1
    exact ⟨b, off, rfl, hlt, h1⟩

theorem wpList_build0 {P : Program} {ops : Array Oper} {rest : List Oper} {o : Oper} {a : Act} {w : World} {Q : Exit → Act → World → Prop} (hgd : o.guard = none) (t : TypeId) (ho : o.op = .build t #[])
    (Z : Array Value) (hZ : P.built t [] = some Z) (h : wpList P ops Q rest (a.put o.dst (.agg Z)) w) : wpList P ops Q (o :: rest) a w :=
  wpList_plain hgd fun _ hK => wp_build t #[] ho (by simp [hZ]) (by simp only [List.map_toArray, List.map_nil, hZ, Option.getD_some]; exact hK _ _ h)
set_option maxHeartbeats 2000000 in
theorem walk (a0 : Option Addr) (len0 cap0 : Nat) (z0 : List Int) (a1 : Option Addr) (len1 cap1 : Nat) (z1 : List Int) (a2 : Int) (w : World) (w0 : IsRow .i64 w a0 len0 cap0 z0) (w1 : IsRow .i64 w a1 len1 cap1 z1) (w2 : (Lit.int .u8 a2).wf = true) :
    Calls Yba.prog 3 #[.slice a0 len0 cap0, .slice a1 len1 cap1, .int .u8 a2] w fun e w' => e = .returned (.bool true) ∧ Below w.heap.size w w' := by
  by_cases c0 : (1024 : Int) < len0
  · go_enter Yba.func3, Yba.ntmps3
    go_wp2
    go_ret
    exact ⟨rfl, Below.refl _ _⟩
  by_cases c1 : (1024 : Int) < len1
  · go_enter Yba.func3, Yba.ntmps3
    go_wp2
    go_ret
    exact ⟨rfl, Below.refl _ _⟩
  obtain ⟨Z, hZ, hs, hz⟩ := zero_sim
  have H0 := Inv.start (w := w) hs hz
  rw [flk_zero z0] at H0
  have HZ : Hid (Yba.prog.built 121 [] = some Z) := hZ
  clear hZ hs hz
  go_enter Yba.func3, Yba.ntmps3
  go_wp2_with (refine wpList_build0 rfl 121 rfl Z HZ.out ?_)
  clear HZ
  go_loopw [8, 9] (fun n i wr => ∃ k : Nat, k ≤ 64 ∧ k ≤ len0 ∧ i = .int .i64 k ∧ n = .int .i64 (sumTo (fl z0) k) ∧ Inv w wr (flk z0 k)) (fun _ i _ => 64 - (intOf i).toNat)
  case atStart => exact ⟨0, Nat.zero_le _, Nat.zero_le _, rfl, rfl, H0⟩
  case round =>
    clear H0
    obtain ⟨k, hk, hkl, rfl, rfl, hI⟩ := hrel
    by_cases hlt : k < 64 ∧ k < len0
    · obtain ⟨h64, hl0⟩ := hlt
      obtain ⟨b, off, rfl, hbl, hcell⟩ := w0.at hl0
      have hI2 := (hI.fly h64 (fl z0 k))
      rw [flk_succ] at hI2
      have hc1 := (hI.1.cell (p := ⟨b, off + k, none⟩) hbl).trans hcell
      have hc2 := hI.cell h64
      have hf := hI.frozen (103 + k * 85 + 4)
      have HI : Hid _ := hI2
      clear hcell hI hI2
      go_wp2
      go_region
      all_goals go_wp2
      all_goals go_roundw
      case rel => exact ⟨k + 1, by omega, by omega, by go_num, rfl, by first | exact HI.out | exact Inv.drew HI.out⟩
      case measure => simp [intOf]; omega
    · have hs : Hid (sumTo (flk z0 k) 64 = sumTo (fl z0) k) := sumTo_cut (fl z0) k 64 hk
      have hF : Hid (∀ j, j < 64 → flk z0 k j = if j < len0 then fl z0 j else 0) := by
        intro j hj
        unfold flk
        by_cases hjl : j < len0
        · rw [if_pos hjl, if_pos (by omega)]
        · rw [if_neg hjl, if_neg (by omega)]
      obtain ⟨F, hFe⟩ : ∃ F, F = flk z0 k := ⟨_, rfl⟩
      rw [← hFe] at hI hs hF
      rw [← hs.out]
      clear hs hFe
      have hex : (k < 64 ∧ ¬ k < len0) ∨ (¬ k < 64) := by omega
      clear hlt
      rcases hex with ⟨h64, hl0⟩ | h64
      all_goals
        go_wp2
        go_loopw [10] (fun i wr => ∃ m : Nat, m ≤ 64 ∧ m ≤ len1 ∧ i = .int .i64 m ∧ Inv w wr F) (fun i _ => 64 - (intOf i).toNat)
        case atStart => exact ⟨0, by omega, by omega, rfl, hI⟩
        case round =>
          clear hI
          obtain ⟨m, hm, hml, rfl, hI⟩ := hrel
          by_cases hlt : m < 64 ∧ m < len1
          · obtain ⟨hm64, hl1⟩ := hlt
            obtain ⟨b, off, rfl, hbl, hcell⟩ := w1.at hl1
            have hc1 := (hI.1.cell (p := ⟨b, off + m, none⟩) hbl).trans hcell
            have hI1 := hI.other hm64 1 (by omega) (.int .i64 (fl z1 m))
            have hc1' := (hI1.1.cell (p := ⟨b, off + m, none⟩) hbl).trans hcell
            have HI : Hid _ := hI1.other hm64 2 (by omega) (.int .i64 (wrap64 (fl z1 m + 1)))
            obtain ⟨v1, hv1⟩ := hI.has (o := 103 + m * 85 + 4 + 1) (by omega)
            obtain ⟨v2, hv2⟩ := hI1.has (o := 103 + m * 85 + 4 + 2) (by omega)
            have hf1 := hI.frozen (103 + m * 85 + 4 + 1)
            have hf2 := hI1.frozen (103 + m * 85 + 4 + 2)
            clear hcell hI hI1
            go_wp2
            go_region
            go_wp2
            go_region
            go_wp2
            go_roundw
            case rel => exact ⟨m + 1, by omega, by omega, by go_num, Inv.drew (Inv.drew HI.out)⟩
            case measure => simp [intOf]; omega
          · have hey : (m < 64 ∧ ¬ m < len1) ∨ (¬ m < 64) := by omega
            clear hlt
            have ha2 := bounds_u8 w2
            have hcs : ∀ j, j < 64 → wr.cell? ⟨w.heap.size, 103 + j * 85 + 4, none⟩ = some (.int .i64 (F j)) := fun j hj => hI.cell hj
            rcases hey with ⟨hm64, hl1⟩ | hm64
            all_goals
              go_wp2_with (go_at_call 5; refine (inFlight_any _ _ F hcs).mono ?_; rintro e w' ⟨rfl, rfl⟩)
              go_loop [12] (fun i => ∃ q : Nat, q ≤ 64 ∧ i = .int .i64 q) (fun i => 64 - (intOf i).toNat)
              case atStart => exact ⟨0, by omega, rfl⟩
              case round =>
                obtain ⟨q, hq, rfl⟩ := hrel
                by_cases hq64 : q < 64
                · have hcq := hcs q hq64
                  rw [hF.out q hq64] at hcq
                  clear hcs
                  by_cases hql : q < len0
                  · obtain ⟨b, off, rfl, hbl, hcell⟩ := w0.at hql
                    have hc1 := (hI.1.cell (p := ⟨b, off + q, none⟩) hbl).trans hcell
                    rw [if_pos hql] at hcq
                    clear hcell hI
                    go_wp2
                    go_round
                    case rel => exact ⟨q + 1, by omega, by go_num⟩
                    case measure => simp [intOf]; omega
                  · first
                      | (exfalso; omega)
                      | (rw [if_neg hql] at hcq
                         clear hI
                         go_wp2
                         go_round
                         case rel => exact ⟨q + 1, by omega, by go_num⟩
                         case measure => simp [intOf]; omega)
                · obtain ⟨p, hp, hpe⟩ : ∃ p : Nat, p < 64 ∧ (a2 % 64).toNat = p := ⟨_, by omega, rfl⟩
                  have hcp := hcs p hp
                  have hfp := hI.frozen (103 + p * 85 + 4)
                  have HI : Hid _ := hI.fly hp (wrap64 (F p + 1))
                  have HS := sumTo_bump F p 64 hp
                  obtain ⟨G, hG⟩ : ∃ G, G = fun j => if j = p then wrap64 (F p + 1) else F j := ⟨_, rfl⟩
                  rw [← hG] at HI HS
                  clear hcs hI hG
                  go_wp2
                  go_region
                  go_wp2_with fail
                  refine (inFlight_any _ _ G (by exact fun j hj => (Inv.drew HI.out).cell hj)).mono ?_
                  rintro e w' ⟨rfl, rfl⟩
                  go_wp2
                  go_ret
                  exact ⟨rfl, HI.out.1.drew⟩
end Go.Proofs.Ybulkdeum
