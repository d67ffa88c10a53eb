/- The walk of LawS5307CUnnamed. -/
import Derived.Test.YbulkdewqFmtForm
namespace Go.Proofs.YbulkdewqFmt
open Go.RowKit
theorem build_any (a : Option Addr) (n c : Nat) (e : Nat → Int) (w : World) (hI : In w a n e) (hnil : a = none → n = 0 ∧ c = 0) (hn : n ≤ 1024) (hnc : n ≤ c) :
    Calls Ybaf.prog 12 #[.slice a n c, .bool true] w fun r w' => ∃ a' g, r = .returned (.slice a' n n) ∧ Sv w' a' g n e ∧ Below w.heap.size w w' := by
  cases a with
  | none =>
    obtain ⟨rfl, rfl⟩ := hnil rfl
    refine (build_nil true w).mono ?_
    rintro r w' ⟨rfl, rfl⟩
    exact ⟨none, 0, rfl, fun h => absurd h (by omega), Below.refl _ _⟩
  | some x =>
    refine (build_true x n c e w hI hn hnc).mono ?_
    rintro r w' ⟨rfl, hO, hB⟩
    refine ⟨_, w.heap.size, rfl, fun hn0 => ⟨rfl, (hO.lt w.heap.size rfl).2, fun j hj => ?_⟩, hB⟩
    rw [hO.cellAt j hj, row_at true e n n j hj, if_pos hj]
theorem ba_app (l l' : List UInt8) : (⟨l.toArray⟩ : ByteArray) ++ (⟨l'.toArray⟩ : ByteArray) = ⟨(l ++ l').toArray⟩ := by
  apply ByteArray.ext
  simp [ByteArray.data_append]
theorem any_first {e : Nat → Int} {s : ByteArray} (hs : s = (⟨(want e 0).toArray⟩ : ByteArray)) (hp : 0 = pr e 0) : s ++ (⟨#[97, 110, 121]⟩ : ByteArray) = ⟨(want e (0 + 1)).toArray⟩ := by
  rw [hs]
  refine (ba_app _ [97, 110, 121]).trans ?_
  simp [want, tx, ← hp]
theorem any_next {e : Nat → Int} {k : Nat} {s : ByteArray} (hk : 0 < k) (hs : s = (⟨(want e k).toArray⟩ : ByteArray)) (hp : 0 = pr e k) : s ++ (⟨#[44, 32]⟩ : ByteArray) ++ (⟨#[97, 110, 121]⟩ : ByteArray) = ⟨(want e (k + 1)).toArray⟩ := by
  rw [hs]
  have h1 := ba_app (want e k) [44, 32]
  rw [h1]
  refine (ba_app _ [97, 110, 121]).trans ?_
  rw [want, if_pos hk, tx, if_pos hp.symm]
theorem num_first {e : Nat → Int} {p : Nat} {s t : ByteArray} (hs : s = (⟨(want e 0).toArray⟩ : ByteArray)) (hp : p = pr e 0) (hp0 : ¬ p = 0) (ht : t = ⟨(Lib.itoa p).toArray⟩) : s ++ ((⟨#[112, 114, 111, 116, 111, 32]⟩ : ByteArray) ++ t) = ⟨(want e (0 + 1)).toArray⟩ := by
  rw [hs, ht]
  have h1 := ba_app [112, 114, 111, 116, 111, 32] (Lib.itoa p)
  rw [h1, ba_app]
  simp only [want, tx, ← hp, if_neg hp0, Nat.lt_irrefl, if_false]
theorem num_next {e : Nat → Int} {p k : Nat} {s t : ByteArray} (hk : 0 < k) (hs : s = (⟨(want e k).toArray⟩ : ByteArray)) (hp : p = pr e k) (hp0 : ¬ p = 0) (ht : t = ⟨(Lib.itoa p).toArray⟩) : s ++ (⟨#[44, 32]⟩ : ByteArray) ++ ((⟨#[112, 114, 111, 116, 111, 32]⟩ : ByteArray) ++ t) = ⟨(want e (k + 1)).toArray⟩ := by
  rw [hs, ht]
  have h1 := ba_app [112, 114, 111, 116, 111, 32] (Lib.itoa p)
  have h2 := ba_app (want e k) [44, 32]
  rw [h1, h2, ba_app]
  rw [want, if_pos hk, tx, ← hp, if_neg hp0]
set_option maxRecDepth 4000 in
set_option maxHeartbeats 1000000 in
theorem un_big (a : Option Addr) (n c : Nat) (w : World) (hn : 1024 < n) (_hnm : n ≤ maxLen) : Calls Ybaf.prog 6 #[.slice a n c] w fun r w' => r = .returned (.bool true) ∧ Below w.heap.size w w' := by
  have q : (1024 : Int) < (n : Int) := by omega
  go_enter Ybaf.func6, Ybaf.ntmps6
  go_wp2_with fail
  go_ret
  exact ⟨rfl, Below.refl _ _⟩
set_option maxRecDepth 4000 in
set_option maxHeartbeats 1000000 in
theorem un_walk (m : Nat) (o : Obj) (hN : NoName m o) (a : Option Addr) (n c : Nat) (e : Nat → Int) (w : World) (hG : GV m o w) (hI : In w a n e) (hnil : a = none → n = 0 ∧ c = 0) (hn : n ≤ 1024) (hnc : n ≤ c)
    (hb : ∀ i, i < n → 0 ≤ e (i * 9) ∧ e (i * 9) ≤ 255) :
    Calls Ybaf.prog 6 #[.slice a n c] w fun r w' => r = .returned (.bool true) ∧ Below w.heap.size w w' := by
  have HG : Hid (GV m o w) := hG
  have HN : Hid (NoName m o) := hN
  have HI : Hid (In w a n e) := hI
  have HE : Hid (∀ i, i < n → 0 ≤ e (i * 9) ∧ e (i * 9) ≤ 255) := hb
  have HNIL : Hid (a = none → n = 0 ∧ c = 0) := hnil
  have q1 : (n : Int) ≤ 1024 := by omega
  clear hG hN hI hb hnil
  go_enter Ybaf.func6, Ybaf.ntmps6
  go_wp2_with fail
  refine (build_any a n c e _ HI.out HNIL.out hn hnc).mono ?_
  rintro r w1 ⟨a', g, rfl, hS, hB1⟩
  have HS1 : Hid (Sv w1 a' g n e) := hS
  have HB1 : Hid (Below w.heap.size w w1) := hB1
  have HG1 : Hid (GV m o w1) := GV.below HG.out (Nat.le_refl _) hB1
  clear hS hB1
  go_wp2_with fail
  refine (form_un m o HN.out a' g n e _ HG1.out HS1.out hn HE.out).mono ?_
  rintro r w2 ⟨rfl, hB2⟩
  have HB2 : Hid (Below w.heap.size w w2) := HB1.out.trans (hB2.mono HB1.out.size)
  have HS2 : Hid (Sv w2 a' g n e) := Sv.below HS1.out (Nat.le_refl _) hB2
  have HG2 : Hid (GV m o w2) := GV.below HG.out (Nat.le_refl _) HB2.out
  have HI2 : Hid (In w2 a n e) := In.below HI.out (Nat.le_refl _) HB2.out
  clear hB2 HB1 HS1 HG1
  obtain ⟨W, hW⟩ : ∃ W, W = (⟨(want e n).toArray⟩ : ByteArray) := ⟨_, rfl⟩
  rw [← hW]
  have HW : Hid (W = (⟨(want e n).toArray⟩ : ByteArray)) := hW
  clear hW
  go_wp2_with fail
  go_loopw [5, 6] (fun v i wr => ∃ k : Nat, k ≤ n ∧ i = .int .i64 k ∧ v = .string ⟨(want e k).toArray⟩ ∧ Below w2.heap.size w2 wr) (fun _ i _ => n - (intOf i).toNat)
  case atStart => exact ⟨0, by omega, rfl, rfl, Below.refl _ _⟩
  case round =>
    obtain ⟨k, hk, rfl, rfl, hB⟩ := hrel
    have HB : Hid (Below w2.heap.size w2 wr) := hB
    obtain ⟨s, hs⟩ : ∃ s, s = (⟨(want e k).toArray⟩ : ByteArray) := ⟨_, rfl⟩
    rw [← hs]
    have HSS : Hid (s = (⟨(want e k).toArray⟩ : ByteArray)) := hs
    clear hB
    by_cases hkn : k < n
    · have hlen := want_length e k (fun i hi => pr_le (HE.out i (by omega)))
      have hsz : (s.size : Int) ≤ 29696 := by
        have : s.size = (want e k).length := by rw [hs]; simp [ByteArray.size]
        omega
      clear hs hlen
      obtain ⟨rfl, hg, _⟩ := HS2.out (by omega)
      obtain ⟨f0, _⟩ := Sv.cells (Sv.below HS2.out (Nat.le_refl _) HB.out) hkn (HE.out k hkn)
      have hp := pr_le (HE.out k hkn)
      obtain ⟨p, hpp⟩ : ∃ p, p = pr e k := ⟨_, rfl⟩
      have HP : Hid (p = pr e k) := hpp
      rw [← hpp] at f0 hp
      clear hpp
      have q2 : (p : Int) ≤ 255 := by omega
      by_cases hp0 : p = 0
      · subst hp0
        by_cases hk0 : k = 0
        · subst hk0
          go_wp2_with fail
          go_roundw
          case rel => exact ⟨0 + 1, by omega, by go_num, by rw [any_first HSS.out HP.out], HB.out⟩
          case measure => simp [intOf]; omega
        · have q3 : (0 : Int) < (k : Int) := by omega
          go_wp2_with fail
          go_roundw
          case rel => exact ⟨k + 1, by omega, by go_num, by rw [any_next (by omega) HSS.out HP.out], HB.out⟩
          case measure => simp [intOf]; omega
      · have k0 : ((p : Int) == 0) = false := by simp; omega
        have HGr : Hid (GV m o wr) := GV.below HG2.out (Nat.le_refl _) HB.out
        have hil := (itoa_facts p hp).2
        by_cases hk0 : k = 0
        · subst hk0
          go_wp2_with fail
          refine (c15 p hp _ HGr.out.2.2.2.2).mono ?_
          rintro r w3 ⟨rfl, hB3⟩
          have HB3 : Hid (Below w2.heap.size w2 w3) := HB.out.trans (hB3.mono HB.out.size)
          obtain ⟨t, ht⟩ : ∃ t, t = (⟨(Lib.itoa p).toArray⟩ : ByteArray) := ⟨_, rfl⟩
          rw [← ht]
          have HTT : Hid (t = (⟨(Lib.itoa p).toArray⟩ : ByteArray)) := ht
          have htz : (t.size : Int) ≤ 21 := by
            have : t.size = (Lib.itoa p).length := by rw [ht]; simp [ByteArray.size]
            omega
          clear hB3 ht
          go_wp2_with fail
          go_roundw
          case rel => exact ⟨0 + 1, by omega, by go_num, by rw [num_first HSS.out HP.out hp0 HTT.out], HB3.out⟩
          case measure => simp [intOf]; omega
        · have q3 : (0 : Int) < (k : Int) := by omega
          go_wp2_with fail
          refine (c15 p hp _ HGr.out.2.2.2.2).mono ?_
          rintro r w3 ⟨rfl, hB3⟩
          have HB3 : Hid (Below w2.heap.size w2 w3) := HB.out.trans (hB3.mono HB.out.size)
          obtain ⟨t, ht⟩ : ∃ t, t = (⟨(Lib.itoa p).toArray⟩ : ByteArray) := ⟨_, rfl⟩
          rw [← ht]
          have HTT : Hid (t = (⟨(Lib.itoa p).toArray⟩ : ByteArray)) := ht
          have htz : (t.size : Int) ≤ 21 := by
            have : t.size = (Lib.itoa p).length := by rw [ht]; simp [ByteArray.size]
            omega
          clear hB3 ht
          go_wp2_with fail
          go_roundw
          case rel => exact ⟨k + 1, by omega, by go_num, by rw [num_next (by omega) HSS.out HP.out hp0 HTT.out], HB3.out⟩
          case measure => simp [intOf]; omega
    · have hkn' : k = n := by omega
      have hsW : s = W := by rw [HW.out, hs, hkn']
      subst hsW
      clear hs
      go_wp2_with fail
      go_loopw [8] (fun i wr2 => ∃ k : Nat, k ≤ n ∧ i = .int .i64 k ∧ Below w2.heap.size w2 wr2) (fun i _ => n - (intOf i).toNat)
      case atStart => exact ⟨0, by omega, rfl, HB.out⟩
      case round =>
        obtain ⟨j, hj, rfl, hBj⟩ := hrel
        have HBj : Hid (Below w2.heap.size w2 wr) := hBj
        clear hBj
        by_cases hjn : j < n
        · obtain ⟨rfl, hg, _⟩ := HS2.out (by omega)
          obtain ⟨_, fc⟩ := Sv.cells (Sv.below HS2.out (Nat.le_refl _) HBj.out) hjn (HE.out j hjn)
          have f1 := fc 1 (by omega) (by omega)
          have f8 := fc 8 (by omega) (by omega)
          clear fc
          obtain ⟨b, off, rfl, hbs, hc⟩ := HI2.out (by omega)
          have hcc : ∀ i, 0 < i → i < 9 → wr.cell? ⟨b, off + j * 9 + i, none⟩ = some (.int .u16 (e (j * 9 + i))) := by
            intro i h0 h9
            have h := (HBj.out.cell (p := ⟨b, off + (j * 9 + i), none⟩) hbs).trans (hc (j * 9 + i) (by omega))
            rw [if_neg (by omega)] at h
            rw [Nat.add_assoc]
            exact h
          have c1 := hcc 1 (by omega) (by omega)
          have c8 := hcc 8 (by omega) (by omega)
          clear hcc hc
          go_wp2_with fail
          go_quiet (fail)
          go_wp2_with fail
          go_roundw
          case rel => exact ⟨j + 1, by omega, by go_num, ⟨HBj.out.os, HBj.out.tape, HBj.out.output, HBj.out.size, HBj.out.block⟩⟩
          case measure => simp [intOf]; omega
        · go_wp2_with fail
          go_ret
          exact ⟨rfl, HB2.out.trans (HBj.out.mono HB2.out.size)⟩
end Go.Proofs.YbulkdewqFmt
