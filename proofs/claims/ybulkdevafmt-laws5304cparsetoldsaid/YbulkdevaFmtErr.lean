/- fmt.Errorf at the one format and operand of (*Perm).UnmarshalText. -/
import Derived.Test.YbulkdevaFmtUnm
import Derived.Stop.CallBack
import Derived.Stop.IfaceNil
import Derived.Laws.Cells
import Derived.Stop.FmtTextSlices
import GoSem.ClaimData
namespace Go.Proofs.YbulkdevaFmt
open Go.RowKit Go.Extern.Stop Go.Stop Go.Extern
theorem call19 (args : Array Value) (w : World) : (callFunc 19 args).run Ybaf.prog w = ((FmtStop.errorf #[9, 51] #[26] args).run Ybaf.prog w).andThen fun v w' => .ok (.value v) w' :=
  run_callFunc_extern Ybaf.func19 (by kernel_rfl) (by kernel_rfl) (by kernel_rfl) (by kernel_rfl) args w
theorem fguard (name : String) (w : World) : (FmtStop.guard name).run Ybaf.prog w = .ok () w := by kernel_rfl
def permsFmt : ByteArray := ⟨#[37, 113, 32, 97, 114, 101, 32, 110, 111, 32, 112, 101, 114, 109, 105, 115, 115, 105, 111, 110, 115, 44, 32, 119, 97, 110, 116, 32, 97, 110, 121, 32, 111, 102, 32, 114, 44, 32, 119, 32, 97, 110, 100, 32, 120, 44, 32, 105, 110, 32, 116, 104, 97, 116, 32, 111, 114, 100, 101, 114]⟩
theorem ffmtr (w : World) : (FmtDoors.printed ⟨#[37, 113, 32, 97, 114, 101, 32, 110, 111, 32, 112, 101, 114, 109, 105, 115, 115, 105, 111, 110, 115, 44, 32, 119, 97, 110, 116, 32, 97, 110, 121, 32, 111, 102, 32, 114, 44, 32, 119, 32, 97, 110, 100, 32, 120, 44, 32, 105, 110, 32, 116, 104, 97, 116, 32, 111, 114, 100, 101, 114]⟩ 1).run Ybaf.prog w = .ok [(0, 113, false)] w := by kernel_rfl
theorem fptr (w : World) : (FmtStop.ptrTo "errors.errorString").run Ybaf.prog w = .ok 54 w := by kernel_rfl
theorem felem (w : World) : (elemOf 54).run Ybaf.prog w = .ok 56 w := by kernel_rfl
def shape22 : List UInt8 := 13 :: (FmtStop.pack "[]uint8".toUTF8.data.toList ++ 6 :: FmtStop.pack "uint8".toUTF8.data.toList)
theorem value5 (name : String) (x : Int) (w : World) : (FmtStop.value name FmtStop.depth 5 [.int .u8 x]).run Ybaf.prog w = .ok (digits 8 (x % 2 ^ 64).toNat) w := by kernel_rfl
theorem values5 (name : String) (w : World) : ∀ xs : List Int, (List.mapM ((fun c => FmtStop.value name FmtStop.depth 5 [c]) ∘ Value.int IntKind.u8) xs).run Ybaf.prog w = .ok (xs.map fun x => digits 8 (x % 18446744073709551616).toNat) w
  | [] => by simp [List.mapM_nil]
  | x :: xs => by
    have ih := values5 name w xs
    have h := value5 name x w
    simp [List.mapM_cons, h, ih, Result.andThen]
theorem opBytes (name : String) (a : Addr) (cap : Nat) (xs : List Int) (w : World) (hc : ∀ j v, (xs.map (Value.int .u8))[j]? = some v → w.cell? (a.add j) = some v) :
    (FmtStop.operand name true 113 false (.iface 22 (.slice (some a) xs.length cap))).run Ybaf.prog w = .ok (shape22, 1 :: (digits 8 xs.length ++ FmtText.intValues xs)) w := by
  have h1 : (typeStr 22).run Ybaf.prog w = .ok "[]uint8" w := by kernel_rfl
  have d2 : Ybaf.t22.desc = .slice 5 := rfl
  have hb : (FmtStop.bare (FmtStop.asked true 113 false) 22).run Ybaf.prog w = .ok true w := by kernel_rfl
  have hs : (FmtStop.scalar 5).run Ybaf.prog w = .ok true w := by kernel_rfl
  have hy : (Extern.Stop.isByte 5).run Ybaf.prog w = .ok true w := by kernel_rfl
  have hw : Ybaf.prog.funcs.any (·.name == FmtStop.writeWord) = true := by kernel_rfl
  have hsh : (FmtStop.shape name (FmtStop.asked true 113 false) FmtStop.depth 5).run Ybaf.prog w = .ok (6 :: FmtStop.pack "uint8".toUTF8.data.toList) w := by kernel_rfl
  have hl := run_loadCells_list (P := Ybaf.prog) w a (xs.map (Value.int .u8)) hc
  rw [List.length_map] at hl
  simp [FmtStop.operand, h1, hb, hs, hy, hsh, hl, values5, shape22, FmtText.intValues]
  intro hno
  obtain ⟨i, hi, _, _, he⟩ := Array.any_iff_exists.1 hw
  exact absurd (by simpa using he) (hno i hi)
set_option maxHeartbeats 400000 in
theorem errf (F : Interp) (a : Addr) (cap blk : Nat) (xs : List Int) (w : World) (hF : F.answers w.tape) (hb : w.cell? ⟨blk, 0, none⟩ = some (.iface 22 (.slice (some a) xs.length cap))) (hc : ∀ j v, (xs.map (Value.int .u8))[j]? = some v → w.cell? (a.add j) = some v) :
    Calls Ybaf.prog 17 #[.string ⟨#[37, 113, 32, 97, 114, 101, 32, 110, 111, 32, 112, 101, 114, 109, 105, 115, 115, 105, 111, 110, 115, 44, 32, 119, 97, 110, 116, 32, 97, 110, 121, 32, 111, 102, 32, 114, 44, 32, 119, 32, 97, 110, 100, 32, 120, 44, 32, 105, 110, 32, 116, 104, 97, 116, 32, 111, 114, 100, 101, 114]⟩, .slice (some ⟨blk, 0, none⟩) 1 1] w fun e w' =>
      (∃ et ev, e = .returned (.iface et ev)) ∧ Below w.heap.size w w' := by
  have hF' := answers_open hF
  have k1 := call19
  have k2 := fguard
  have k3 := ffmtr
  have k4 := fptr
  have k5 := felem
  have k6 := opBytes "fmt.errorf" a cap xs w hc
  clear hc
  go_enter Ybaf.func17, Ybaf.ntmps17
  go_wp2
  go_ret
  exact ⟨⟨_, _, rfl⟩, ((Below.refl _ w).alloc (Nat.le_refl _) _).drew⟩
end Go.Proofs.YbulkdevaFmt
