/- The walk of LawS5307CJoin. -/
import Derived.Test.YbulkdewqFmtJForm
namespace Go.Proofs.YbulkdewqFmt
open Go.RowKit
theorem build_plain (a : Option Addr) (n c : Nat) (e : Nat → Int) (w : World) (hI : In w a n e) (hnil : a = none → n = 0 ∧ c = 0) (hn : n ≤ 1024) (hnc : n ≤ c) :
    Calls Ybaf.prog 12 #[.slice a n c, .bool false] w fun r w' => ∃ a' g, r = .returned (.slice a' n n) ∧ Sf w' a' g n e ∧ Below w.heap.size w w' := by
  cases a with
  | none =>
    obtain ⟨rfl, rfl⟩ := hnil rfl
    refine (build_nil false w).mono ?_
    rintro r w' ⟨rfl, rfl⟩
    exact ⟨none, 0, rfl, fun h => absurd h (by omega), Below.refl _ _⟩
  | some x =>
    refine (build_false x n c e w hI hn hnc).mono ?_
    rintro r w' ⟨rfl, hO, hB⟩
    refine ⟨_, w.heap.size, rfl, fun hn0 => ⟨rfl, (hO.lt w.heap.size rfl).2, fun j hj => ?_⟩, hB⟩
    rw [hO.cellAt j hj, row_at false e n n j hj, if_pos hj]
theorem bs_app (l l' : List UInt8) : bs l ++ bs l' = bs (l ++ l') := by
  apply ByteArray.ext
  simp [ByteArray.data_append, bs]
theorem bs_size (l : List UInt8) : (bs l).size = l.length := by simp [ByteArray.size, bs]
theorem first_next {t : Nat → List UInt8} {s u : ByteArray} (hs : s = bs (wantT t 0)) (hu : u = bs (t 0)) : s ++ u = bs (wantT t (0 + 1)) := by
  rw [hs, hu, bs_app]
  simp only [wantT, Nat.lt_irrefl, if_false]
theorem more_next {t : Nat → List UInt8} {k : Nat} {s u : ByteArray} (hk : 0 < k) (hs : s = bs (wantT t k)) (hu : u = bs (t k)) : s ++ (⟨#[44, 32]⟩ : ByteArray) ++ u = bs (wantT t (k + 1)) := by
  rw [hs, hu]
  have h1 := bs_app (wantT t k) [44, 32]
  have h2 : (⟨#[44, 32]⟩ : ByteArray) = bs [44, 32] := rfl
  rw [h2, h1, bs_app, wantT, if_pos hk]
set_option maxRecDepth 4000 in
set_option maxHeartbeats 1000000 in
theorem join_big (a : Option Addr) (n c : Nat) (w : World) (hn : 1024 < n) (_hnm : n ≤ maxLen) : Calls Ybaf.prog 5 #[.slice a n c] w fun r w' => r = .returned (.bool true) ∧ Below w.heap.size w w' := by
  have q : (1024 : Int) < (n : Int) := by omega
  go_enter Ybaf.func5, Ybaf.ntmps5
  go_wp2_with fail
  go_ret
  exact ⟨rfl, Below.refl _ _⟩
set_option maxRecDepth 4000 in
set_option maxHeartbeats 1000000 in
theorem join_walk (F : Stop.Interp) (m : Nat) (o : Obj) (b off cc : Nat) (hL : Looks m o) (hN : NoName m o) (a : Option Addr) (n c : Nat) (e : Nat → Int) (w : World) (hF : F.told.answers w.tape) (hG : GJ m o b off cc w) (hI : In w a n e) (hnil : a = none → n = 0 ∧ c = 0) (hn : n ≤ 1024) (hnc : n ≤ c)
    (hb : ∀ i, i < n → Fits e i) :
    Calls Ybaf.prog 5 #[.slice a n c] w fun r w' => r = .returned (.bool true) ∧ Below w.heap.size w w' := by
  have HG : Hid (GJ m o b off cc w) := hG
  have HN : Hid (NoName m o) := hN
  have HL : Hid (Looks m o) := hL
  have HI : Hid (In w a n e) := hI
  have HF : Hid (F.told.answers w.tape) := hF
  have HE : Hid (∀ i, i < n → Fits e i) := hb
  have HNIL : Hid (a = none → n = 0 ∧ c = 0) := hnil
  have q1 : (n : Int) ≤ 1024 := by omega
  clear hG hN hI hb hnil hL hF
  go_enter Ybaf.func5, Ybaf.ntmps5
  go_wp2_with fail
  refine (build_plain a n c e _ HI.out HNIL.out hn hnc).mono ?_
  rintro r w1 ⟨a', g, rfl, hS, hB1⟩
  have HS1 : Hid (Sf w1 a' g n e) := hS
  have HB1 : Hid (Below w.heap.size w w1) := hB1
  have HG1 : Hid (GJ m o b off cc w1) := GJ.below HG.out (Nat.le_refl _) hB1
  have HF1 : Hid (F.told.answers w1.tape) := answers_later HF.out hB1.tape
  clear hS hB1
  go_wp2_with fail
  refine (form_all F m o b off cc HL.out HN.out a' g n e _ HF1.out HG1.out HS1.out hn HE.out).mono ?_
  rintro r w2 ⟨rfl, hB2⟩
  have HB2 : Hid (Below w.heap.size w w2) := HB1.out.trans (hB2.mono HB1.out.size)
  have HS2 : Hid (Sf w2 a' g n e) := Sf.below HS1.out (Nat.le_refl _) hB2
  have HG2 : Hid (GJ m o b off cc w2) := GJ.below HG.out (Nat.le_refl _) HB2.out
  have HF2 : Hid (F.told.answers w2.tape) := answers_later HF.out HB2.out.tape
  clear hB2 HB1 HS1 HG1
  obtain ⟨W, hW⟩ : ∃ W, W = bs (wantT (te e) n) := ⟨_, rfl⟩
  rw [← hW]
  have HW : Hid (W = bs (wantT (te e) n)) := hW
  clear hW
  go_wp2_with fail
  go_loopw [5, 6] (fun v i wr => ∃ k : Nat, k ≤ n ∧ i = .int .i64 k ∧ v = .string (bs (wantT (te e) k)) ∧ Below w2.heap.size w2 wr) (fun _ i _ => n - (intOf i).toNat)
  case atStart => exact ⟨0, by omega, rfl, rfl, Below.refl _ _⟩
  case round =>
    obtain ⟨k, hk, rfl, rfl, hB⟩ := hrel
    have HB : Hid (Below w2.heap.size w2 wr) := hB
    obtain ⟨s, hs⟩ : ∃ s, s = bs (wantT (te e) k) := ⟨_, rfl⟩
    rw [← hs]
    have HSS : Hid (s = bs (wantT (te e) k)) := hs
    clear hB
    by_cases hkn : k < n
    · have hlen := wantT_length (te e) k (fun i hi => te_le (HE.out i (by omega)))
      have hsz : (s.size : Int) ≤ 272384 := by
        have : s.size = (wantT (te e) k).length := by rw [hs, bs_size]
        omega
      clear hs hlen
      obtain ⟨rfl, hg, _⟩ := HS2.out (by omega)
      obtain ⟨f0, fc⟩ := Sf.cells (Sf.below HS2.out (Nat.le_refl _) HB.out) hkn
      have f1 := fc 1 (by omega) (by omega)
      have f2 := fc 2 (by omega) (by omega)
      have f3 := fc 3 (by omega) (by omega)
      have f4 := fc 4 (by omega) (by omega)
      have f5 := fc 5 (by omega) (by omega)
      have f6 := fc 6 (by omega) (by omega)
      have f7 := fc 7 (by omega) (by omega)
      have f8 := fc 8 (by omega) (by omega)
      have hgr : g < wr.heap.size := by have := HB.out.size; omega
      have HFr : Hid (F.told.answers wr.tape) := answers_later HF2.out HB.out.tape
      have HGr : Hid (GJ m o b off cc wr) := GJ.below HG2.out (Nat.le_refl _) HB.out
      have HFT : Hid (Fits e k) := HE.out k hkn
      have HC : Hid (Calls Ybaf.prog 14 #[.agg #[.int .u8 (e (k * 9)), .int .u16 (e (k * 9 + 1)), .int .u16 (e (k * 9 + 2)), .int .u16 (e (k * 9 + 3)), .int .u16 (e (k * 9 + 4)), .int .u16 (e (k * 9 + 5)), .int .u16 (e (k * 9 + 6)), .int .u16 (e (k * 9 + 7)), .int .u16 (e (k * 9 + 8))]] wr fun r w' => r = .returned (.string (bs (te e k))) ∧ Below wr.heap.size wr w') :=
        str_all F m o b off cc HL.out HN.out _ _ _ _ _ _ _ _ _ HFT.out.1 (HFT.out.2 1 (by omega) (by omega)) (HFT.out.2 2 (by omega) (by omega)) (HFT.out.2 3 (by omega) (by omega)) (HFT.out.2 4 (by omega) (by omega)) (HFT.out.2 5 (by omega) (by omega)) (HFT.out.2 7 (by omega) (by omega)) wr HFr.out HGr.out
      obtain ⟨t, ht⟩ : ∃ t, t = bs (te e k) := ⟨_, rfl⟩
      have htz : (t.size : Int) ≤ 264 := by
        have h1 : t.size = (te e k).length := by rw [ht, bs_size]
        have h2 := te_le HFT.out
        omega
      rw [← ht] at HC
      have HT : Hid (t = bs (te e k)) := ht
      clear fc ht
      by_cases hk0 : k = 0
      · subst hk0
        go_wp2_with (go_at_call 14; refine HC.out.mono ?_; rintro r w3 ⟨rfl, hB3⟩; have HB3 : Hid (Below w2.heap.size w2 w3) := HB.out.trans (hB3.mono HB.out.size); clear hB3)
        go_roundw
        case rel => exact ⟨0 + 1, by omega, by go_num, by rw [first_next HSS.out HT.out], HB3.out⟩
        case measure => simp [intOf]; omega
      · have q3 : (0 : Int) < (k : Int) := by omega
        go_wp2_with (go_at_call 14; refine HC.out.mono ?_; rintro r w3 ⟨rfl, hB3⟩; have HB3 : Hid (Below w2.heap.size w2 w3) := HB.out.trans (hB3.mono HB.out.size); clear hB3)
        go_roundw
        case rel => exact ⟨k + 1, by omega, by go_num, by rw [more_next (by omega) HSS.out HT.out], HB3.out⟩
        case measure => simp [intOf]; omega
    · have hkn' : k = n := by omega
      have hsW : s = W := by rw [HW.out, hs, hkn']
      subst hsW
      clear hs
      go_wp2_with fail
      go_ret
      exact ⟨rfl, HB2.out.trans (HB.out.mono HB2.out.size)⟩
end Go.Proofs.YbulkdewqFmt
