/- The walk of LawS5304CParse. -/
import Derived.Test.YbulkdevaFmtModel
namespace Go.Proofs.YbulkdevaFmt
open Go.RowKit Go.Extern.Stop Go.Stop Go.Extern
theorem Ybaf.info5' : (Ybaf.prog.info? 5).map (fun i => (i.zero, i.size, i.bytes)) = some (some (.int .u8 0), 1, 1) := by kernel_rfl
theorem make5 (l : Nat) (hn : l ≤ 1000000) :
    ∃ C : Array Value, C.size = l ∧ ∀ w : World, (Instr.makeSlice 22 (.int .i64 l) (.int .i64 l)).run Ybaf.prog w = .ok (.slice (some ⟨w.heap.size, 0, none⟩) l l) (w.alloc (.cells C 5)) := by
  obtain ⟨i, hi, hz, hsz, hby⟩ := info_parts Ybaf.info5'
  refine ⟨madeCells #[.int .u8 0] l, size_madeCells _ _, fun w => ?_⟩
  have h := run_make (P := Ybaf.prog) w 22 5 i _ Ybaf.underlying22 hi hz .i64 .i64 l l (by omega) (by omega) (by rw [hby]; omega) (by omega)
  rw [h, hsz]
  simp [Value.cells]
def BodyB (w : World) (g : Nat) (bs : Nat → Int) (m N : Nat) : Prop :=
  ∃ C : Array Value, w.heap[g]? = some (.cells C 5 (0, 0)) ∧ C.size = N ∧ ∀ j, j < m → C[j]? = some (.int .u8 (bs j))
theorem BodyB.has {w : World} {g : Nat} {bs : Nat → Int} {m N : Nat} (h : BodyB w g bs m N) {o : Nat} (ho : o < N) : ∃ v, w.cell? ⟨g, o, none⟩ = some v := by
  obtain ⟨C, hC, hs, _⟩ := h
  exact ⟨C[o], by simp [World.cell?, hC, hs, ho]⟩
theorem BodyB.frozen {w : World} {g : Nat} {bs : Nat → Int} {m N : Nat} (h : BodyB w g bs m N) (o : Nat) : w.frozen? ⟨g, o, none⟩ = false := by
  obtain ⟨C, hC, hs, _⟩ := h
  simp [World.frozen?, hC]
theorem BodyB.lt {w : World} {g : Nat} {bs : Nat → Int} {m N : Nat} (h : BodyB w g bs m N) : g < w.heap.size := by
  obtain ⟨C, hC, _⟩ := h
  exact (Array.getElem?_eq_some_iff.1 hC).1
theorem BodyB.cell {w : World} {g : Nat} {bs : Nat → Int} {m N : Nat} (h : BodyB w g bs m N) {j : Nat} (hj : j < m) : w.cell? ⟨g, j, none⟩ = some (.int .u8 (bs j)) := by
  obtain ⟨C, hC, _, hc⟩ := h
  simp [World.cell?, hC, hc j hj]
theorem BodyB.push {w : World} {g : Nat} {bs : Nat → Int} {m N : Nat} (h : BodyB w g bs m N) (hm : m < N) {v : Int} (hv : bs m = v) : BodyB (w.setCell ⟨g, m, none⟩ (.int .u8 v)) g bs (m + 1) N := by
  obtain ⟨C, hC, hs, hc⟩ := h
  refine ⟨C.setIfInBounds m (.int .u8 v), by simp [World.setCell, Array.getElem?_modify, hC], by simpa using hs, fun j hj => ?_⟩
  by_cases e : j = m
  · subst e
    rw [Array.getElem?_setIfInBounds_self_of_lt (by omega), hv]
  · rw [Array.getElem?_setIfInBounds_ne (Ne.symm e)]
    exact hc j (by omega)
theorem cell?_setCell_same' {w : World} {b o : Nat} {u v : Value} (h : w.cell? ⟨b, o, none⟩ = some u) : (w.setCell ⟨b, o, none⟩ v).cell? ⟨b, o, none⟩ = some v := by
  unfold World.cell? at h
  split at h
  · rename_i c t fr hb
    have ho : o < c.size := by
      simp only [Option.isSome_none, Bool.false_eq_true, if_false] at h
      exact (Array.getElem?_eq_some_iff.1 h).1
    have hb' : w.heap[b]? = some (.cells c t fr) := hb
    simp [World.cell?, World.setCell, Array.getElem?_modify, hb', ho]
  · cases h
/-- The letter that a byte picks. -/
def alph (d : Int) : Int := if d % 4 = 0 then 114 else if d % 4 = 1 then 119 else if d % 4 = 2 then 120 else 45
/-- The text that the law makes. -/
def tx (raw : Bool) (ds : Nat → Int) (i : Nat) : Int := if raw = true then ds i else alph (ds i)
theorem tx_bd (raw : Bool) (ds : Nat → Int) (h : ∀ i, 0 ≤ ds i ∧ ds i ≤ 255) (i : Nat) : 0 ≤ tx raw ds i ∧ tx raw ds i ≤ 255 := by
  unfold tx
  split
  · exact h i
  · unfold alph; split <;> (try split) <;> (try split) <;> omega
set_option maxHeartbeats 400000 in
theorem parseBig (a : Option Addr) (n cap : Nat) (raw : Bool) (start : Int) (w : World) (h : (1024 : Int) < n) :
    Calls Ybaf.prog 5 #[.slice a n cap, .bool raw, .int .u64 start] w fun e w' => e = .returned (.bool true) ∧ Below w.heap.size w w' := by
  go_enter Ybaf.func5, Ybaf.ntmps5
  go_wp2
  go_ret
  exact ⟨rfl, Below.refl _ _⟩
set_option maxRecDepth 4000 in
set_option maxHeartbeats 1000000 in
theorem parseMain (F : Interp) (a : Option Addr) (n cap : Nat) (raw : Bool) (start : Int) (ds : Nat → Int) (w : World) (hF : F.answers w.tape) (hP : PL w) (hT : Txt w a n ds) (hd : ∀ i, 0 ≤ ds i ∧ ds i ≤ 255) (h : ¬ (1024 : Int) < n) :
    Calls Ybaf.prog 5 #[.slice a n cap, .bool raw, .int .u64 start] w fun e w' => e = .returned (.bool true) ∧ Below w.heap.size w w' := by
  obtain ⟨bs, hbs⟩ : ∃ bs, bs = tx raw ds := ⟨_, rfl⟩
  have HB8 : Hid (∀ i, 0 ≤ bs i ∧ bs i ≤ 255) := by rw [hbs]; exact tx_bd raw ds hd
  obtain ⟨C0, hC0, hmk⟩ := make5 n (by omega)
  have HP : Hid (PL w) := hP
  have HT : Hid (Txt w a n ds) := hT
  have HF : Hid (F.answers w.tape) := hF
  have HD : Hid (∀ i, 0 ≤ ds i ∧ ds i ≤ 255) := hd
  have HBS : Hid (bs = tx raw ds) := hbs
  have HBody : Hid (BodyB (w.alloc (.cells C0 5)) w.heap.size bs 0 n) := ⟨C0, by show (w.heap.push _)[w.heap.size]? = _; simp, hC0, fun j hj => by omega⟩
  clear hbs hC0 hP hT hF hd
  go_enter Ybaf.func5, Ybaf.ntmps5
  go_wp2
  go_loopw [22] (fun i wr => ∃ k : Nat, k ≤ n ∧ i = .int .i64 k ∧ BodyB wr w.heap.size bs k n ∧ Below w.heap.size w wr) (fun i _ => n - (intOf i).toNat)
  case atStart => exact ⟨0, by omega, rfl, HBody.out, (Below.refl _ _).alloc (Nat.le_refl _) _⟩
  case round =>
    clear HBody hmk
    obtain ⟨k, hk, rfl, hBd, hB⟩ := hrel
    have HB : Hid (Below w.heap.size w wr) := hB
    have HBd : Hid (BodyB wr w.heap.size bs k n) := hBd
    by_cases hkn : k < n
    · obtain ⟨b, off, rfl, hbw, hc⟩ := HT.out (by omega)
      have e0 := (hB.cell (p := ⟨b, off + k, none⟩) hbw).trans (hc k hkn)
      obtain ⟨u0, f0⟩ := hBd.has hkn
      have f1 := hBd.frozen k
      have hdk := HD.out k
      have hkv : bs k = tx raw ds k := by rw [HBS.out]
      obtain ⟨d, hdd⟩ : ∃ d, d = ds k := ⟨_, rfl⟩
      have hbv : bs k = if raw = true then d else alph d := by rw [hkv, hdd]; rfl
      rw [← hdd] at e0 hdk
      have HV : Hid _ := hbv
      clear hc hBd hB hdd hkv hbv
      cases raw with
      | true =>
        go_wp2
        go_roundw
        case rel => exact ⟨k + 1, by omega, by go_num, HBd.out.push hkn HV.out, HB.out.setCell (Nat.le_refl _) _⟩
        case measure => simp [intOf]; omega
      | false =>
        have hq : d % 4 = 0 ∨ d % 4 = 1 ∨ d % 4 = 2 ∨ d % 4 = 3 := by omega
        rcases hq with hq | hq | hq | hq
        all_goals
          have HVq := HV.out.trans (show (if (false : Bool) = true then d else alph d) = alph d from rfl)
          simp only [alph, hq] at HVq
          have HQ : Hid _ := HVq
          clear HVq
          go_wp2
          go_roundw
          case rel => exact ⟨k + 1, by omega, by go_num, HBd.out.push hkn (by have h := HQ.out; simp at h; exact h.trans rfl), HB.out.setCell (Nat.le_refl _) _⟩
          case measure => simp [intOf]; omega
    · have hkn2 : k = n := by omega
      subst hkn2
      obtain ⟨s, hs⟩ : ∃ s, s = strOfNums (xsOf bs k) := ⟨_, rfl⟩
      have HS : Hid (s = strOfNums (xsOf bs k)) := hs
      have HCV : Hid (∀ wx : World, Below (w.heap.size + 1) wr wx → (convert 22 9 (.slice (some ⟨w.heap.size, 0, none⟩) k k)).run Ybaf.prog wx = .ok (.string s) wx) := by
        intro wx hx
        rw [HS.out]
        refine run_convert_bytes_arg wx 22 5 Ybaf.underlying22 Ybaf.underlying5 w.heap.size 0 k k (xsOf bs k) (xs_len bs k) (fun i hi => ?_) 9 Ybaf.underlying9
        rw [Nat.zero_add, hx.cell (p := ⟨w.heap.size, i, none⟩) (Nat.lt_succ_self _), hBd.cell hi]
        simp [xsOf, hi]
      have hcv := HCV.out wr (Below.refl _ _)
      have hlt := hBd.lt
      have hkk : (k : Int) ≤ 1024 := by omega
      clear hs hB hBd
      go_wp2_with fail
      refine (model_any s _).mono ?_
      rintro e w1 ⟨hres, hB1⟩
      have HBr1 : Hid (Below wr.heap.size wr w1) := hB1
      have HB1 : Hid (Below w.heap.size w w1) := HB.out.trans (hB1.mono HB.out.size)
      have hs1 : wr.heap.size ≤ w1.heap.size := hB1.size
      have HT1 : Hid (Txt (w1.alloc (.cells #[.int .u64 start] 37)) (some ⟨w.heap.size, 0, none⟩) k bs) := by
        intro _
        refine ⟨w.heap.size, 0, rfl, by simp; omega, fun i hi => ?_⟩
        rw [Nat.zero_add, World.cell?_alloc_past _ _ _ (by omega)]
        exact (hB1.cell (p := ⟨w.heap.size, i, none⟩) hlt).trans (HBd.out.cell hi)
      have HB2 : Hid (Below w.heap.size w (w1.alloc (.cells #[.int .u64 start] 37))) := HB1.out.alloc HB1.out.size _
      have HPL : Hid (PL (w1.alloc (.cells #[.int .u64 start] 37))) := HP.out.below HP.out.1 HB2.out
      have hpc : (w1.alloc (.cells #[.int .u64 start] 37)).cell? ⟨w1.heap.size, 0, none⟩ = some (.int .u64 start) := by
        rw [World.cell?_alloc_at _ _ _ _ rfl]; rfl
      have HPC : Hid _ := hpc
      have hpf : (w1.alloc (.cells #[.int .u64 start] 37)).frozen? ⟨w1.heap.size, 0, none⟩ = false := World.frozen?_alloc_at _ _ _ _ rfl
      have HPF : Hid _ := hpf
      have hle := st_le bs k 3
      clear hcv hB1 hpc hpf
      rcases hres with ⟨j, hj, rfl, hsj⟩ | ⟨rfl, hmiss⟩
      · have hst : st bs k 3 = (permT j, k) := plain_hit HB8.out hj (by rw [← HS.out]; exact hsj)
        have HST : Hid _ := hst
        clear hsj hst
        go_wp2_with fail
        refine (unm_ok w1.heap.size _ k k bs _ _ HPL.out HT1.out HB8.out (Nat.le_refl _) (by omega) (by simp) HPC.out HPF.out (by rw [HST.out])).mono ?_
        rintro e w3 ⟨rfl, wm, hw, hBm⟩
        rw [HST.out] at hw
        simp only at hw
        have hr : w3.cell? ⟨w1.heap.size, 0, none⟩ = some (.int .u64 (permT j)) := by
          rw [hw]; exact cell?_setCell_same' ((hBm.cell (p := ⟨w1.heap.size, 0, none⟩) (by simp)).trans HPC.out)
        have HB3 : Hid (Below w.heap.size w w3) := by
          rw [hw]; exact (HB2.out.trans (hBm.mono HB2.out.size)).setCell (by show w.heap.size ≤ w1.heap.size; omega) _
        have hcv3 := HCV.out w3 (by
          rw [hw]
          have h1 : Below (w.heap.size + 1) wr (w1.alloc (.cells #[.int .u64 start] 37)) := ((HBr1.out.mono (by omega)).alloc (by omega) _)
          exact (h1.trans (hBm.mono (by simp; omega))).setCell (by show w.heap.size + 1 ≤ w1.heap.size; omega) _)
        clear hw hBm
        have hs3 : w1.heap.size < w3.heap.size := World.block_lt_of_cell? w3 _ hr
        go_wp2
        go_region_held3 (fun w' => w'.cell? ⟨w1.heap.size, 0, none⟩ = some (.int .u64 (permT j))) (first | exact HC5.out | go_keep)
          (first | (go_at_call 14; refine (perm_any j hj _).mono ?_; rintro e w5 ⟨rfl, hB5⟩; have HC5 : Hid (w5.cell? ⟨w1.heap.size, 0, none⟩ = some (.int .u64 (permT j))) := (hB5.cell (p := ⟨w1.heap.size, 0, none⟩) hs3).trans hr; have HB5 : Hid (Below w.heap.size w w5) := HB3.out.drew.trans (hB5.mono HB3.out.size); clear hB5))
        go_wp2
        go_ret
        exact ⟨rfl, HB5.out⟩
      · have hbad : (st bs k 3).2 < k := by
          by_cases e : (st bs k 3).2 = k
          · obtain ⟨j, hj, hsj⟩ := plain_miss e
            exact absurd (by rw [HS.out]; exact hsj) (hmiss j hj)
          · omega
        have HBAD : Hid _ := hbad
        have HF2 : Hid (F.answers (w1.alloc (.cells #[.int .u64 start] 37)).tape) := by
          have : (w1.alloc (.cells #[.int .u64 start] 37)).tape = w.tape := HB2.out.tape
          rw [this]; exact HF.out
        clear hmiss hbad
        go_wp2_with fail
        refine (unm_err F w1.heap.size _ k k bs _ (by exact HF2.out) HPL.out HT1.out (Nat.le_refl _) (by omega) HBAD.out).mono ?_
        rintro e w3 ⟨⟨et, ev, rfl⟩, hB3⟩
        have hr : w3.cell? ⟨w1.heap.size, 0, none⟩ = some (.int .u64 start) := (hB3.cell (p := ⟨w1.heap.size, 0, none⟩) (by simp)).trans HPC.out
        have HB3 : Hid (Below w.heap.size w w3) := HB2.out.trans (hB3.mono HB2.out.size)
        have hcv3 := HCV.out w3 (by
          have h1 : Below (w.heap.size + 1) wr (w1.alloc (.cells #[.int .u64 start] 37)) := ((HBr1.out.mono (by omega)).alloc (by omega) _)
          exact h1.trans (hB3.mono (by simp; omega)))
        clear hB3
        go_wp2
        go_ret
        exact ⟨rfl, HB3.out⟩
end Go.Proofs.YbulkdevaFmt
