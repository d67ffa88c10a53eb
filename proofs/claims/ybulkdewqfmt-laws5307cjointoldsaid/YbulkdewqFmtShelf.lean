/- Off the shelf, laid for this program by lay-shelf.mjs and lay-plain.mjs: strings.Join, strconv.Itoa. -/
import Derived.Shelf.Strings.OnBuilder
import Derived.Shelf.LaysM
import Derived.Shelf.Strconv.Itoa3
import Derived.Test.YbulkdewqFmtProg
namespace Go.Proofs
open Go.Shelf
def Ybaf.lays156_ren : Go.Shelf.Ren := ⟨fun | 156 => 27 | 165 => 46 | 166 => 47 | 169 => 48 | 240 => 66 | 241 => 67 | 276 => 83 | 277 => 84 | n => n, fun | 31 => 28 | 9 => 9 | 3 => 3 | 4 => 4 | 0 => 0 | 20 => 20 | 72 => 165 | 76 => 134 | 70 => 163 | 37 => 22 | 75 => 36 | 127 => 182 | 164 => 204 | 5 => 5 | 80 => 115 | n => n, fun | n => n⟩
theorem Ybaf.lays156 : Go.Proofs.Lays.n156 Ybaf.prog Ybaf.lays156_ren := {
  mixed := by kernel_rfl
  f156 := Ybaf.func27.trans (congrArg some (by kernel_rfl))
  f165 := Ybaf.func46.trans (congrArg some (by kernel_rfl))
  f166 := Ybaf.func47.trans (congrArg some (by kernel_rfl))
  f169 := Ybaf.func48.trans (congrArg some (by kernel_rfl))
  f240 := Ybaf.func66.trans (congrArg some (by kernel_rfl))
  f241 := Ybaf.func67.trans (congrArg some (by kernel_rfl))
  f276 := Ybaf.func83.trans (congrArg some (by kernel_rfl))
  f277 := Ybaf.func84.trans (congrArg some (by kernel_rfl))
  t0 := Ybaf.underlying0
  a0 := Ybaf.isAgg0
  z0 := Ybaf.sizeOf0
  v0 := Ybaf.zeroValue0
  t3 := Ybaf.underlying3
  a3 := Ybaf.isAgg3
  z3 := Ybaf.sizeOf3
  v3 := Ybaf.zeroValue3
  t4 := Ybaf.underlying4
  a4 := Ybaf.isAgg4
  z4 := Ybaf.sizeOf4
  v4 := Ybaf.zeroValue4
  t9 := Ybaf.underlying9
  a9 := Ybaf.isAgg9
  z9 := Ybaf.sizeOf9
  v9 := Ybaf.zeroValue9
  t20 := Ybaf.underlying20
  a20 := Ybaf.isAgg20
  z20 := Ybaf.sizeOf20
  v20 := Ybaf.zeroValue20
  t31 := Ybaf.underlying28
  a31 := Ybaf.isAgg28
  z31 := Ybaf.sizeOf28
  v31 := Ybaf.zeroValue28
  t37 := Ybaf.underlying22
  a37 := Ybaf.isAgg22
  z37 := Ybaf.sizeOf22
  v37 := Ybaf.zeroValue22
  t70 := Ybaf.underlying163
  a70 := Ybaf.isAgg163
  z70 := Ybaf.sizeOf163
  v70 := Ybaf.zeroValue163
  t72 := Ybaf.underlying165
  a72 := Ybaf.isAgg165
  z72 := Ybaf.sizeOf165
  v72 := Ybaf.zeroValue165
  t75 := Ybaf.underlying36
  a75 := Ybaf.isAgg36
  z75 := Ybaf.sizeOf36
  v75 := Ybaf.zeroValue36
  t76 := Ybaf.underlying134
  a76 := Ybaf.isAgg134
  z76 := Ybaf.sizeOf134
  v76 := Ybaf.zeroValue134
  t127 := Ybaf.underlying182
  a127 := Ybaf.isAgg182
  z127 := Ybaf.sizeOf182
  v127 := Ybaf.zeroValue182
  t164 := Ybaf.underlying204
  a164 := Ybaf.isAgg204
  z164 := Ybaf.sizeOf204
  v164 := Ybaf.zeroValue204 }
theorem Ybaf.Builder_Extra_156 : Builder.Extra Ybaf.prog Ybaf.lays156_ren := {
  sizeBuilder := by kernel_rfl
  liesBuilder := by kernel_rfl
  t5 := Ybaf.underlying5
  a5 := Ybaf.isAgg5
  z5 := Ybaf.sizeOf5
  v5 := Ybaf.zeroValue5
  infoByte := by kernel_rfl
  cellsByte := by kernel_rfl
  sizeByte := by kernel_rfl
  neB5 := by decide }
open Go.RowKit in
/-- No element: the empty string; the world is as it was. (Whatever the slice's address and capacity: a nil slice too.) (LAID: no walk: one application.) -/
theorem Ybaf.strings_Join_none (a : Option Addr) (c : Nat) (sep : ByteArray) (w : World) :
    Calls Ybaf.prog 27 #[.slice a 0 c, .string sep] w fun e w' => e = .returned (.string ⟨#[]⟩) ∧ w' = w := Any.strings_Join_none Ybaf.lays156 Ybaf.Builder_Extra_156 a c sep w
open Go.RowKit in
/-- strings.Join: "Join concatenates the elements of its first argument to create a single string. The separator string sep is placed between elements in the resulting string.": HOWEVER MANY ELEMENTS. Below the heap's end the world is as it was. (LAID: no walk: one application.) -/
theorem Ybaf.strings_Join (bk o c : Nat) (xs : List ByteArray) (sep : ByteArray) (w : World) (hcells : ∀ (j : Nat) x, xs[j]? = some x → w.cell? ⟨bk, o + j, none⟩ = some (.string x)) (hbk : bk < w.heap.size) (hN : xs.length ≤ 140737488355328) (hcap : xs.length ≤ c) (hlen : (Lib.join (xs.map (·.data.toList)) sep.data.toList).length ≤ 140737488355328) :
    Calls Ybaf.prog 27 #[.slice (some ⟨bk, o, none⟩) xs.length c, .string sep] w fun e w' => e = .returned (.string ⟨(Lib.join (xs.map (·.data.toList)) sep.data.toList).toArray⟩) ∧ Below w.heap.size w w' := Any.strings_Join Ybaf.lays156 Ybaf.Builder_Extra_156 bk o c xs sep w hcells hbk hN hcap hlen
def Ybaf.laysM171_ren : Go.Shelf.Ren := ⟨fun | 171 => 15 | 243 => 33 | 246 => 50 | 283 => 70 | 284 => 71 | 285 => 72 | 286 => 73 | 129 => 86 | 317 => 85 | 318 => 87 | 319 => 88 | 320 => 89 | 337 => 93 | 338 => 94 | n => n, fun | 3 => 3 | 9 => 9 | 2 => 2 | 4 => 4 | 171 => 188 | 0 => 0 | 53 => 189 | 37 => 22 | 5 => 5 | 173 => 192 | 212 => 209 | 51 => 210 | 20 => 20 | 213 => 211 | 46 => 213 | 232 => 227 | 233 => 228 | n => n, fun | 17 => 4 | 18 => 9 | 19 => 10 | n => n⟩
theorem Ybaf.laysM171 : Go.Proofs.LaysM.n171 Ybaf.prog Ybaf.laysM171_ren := {
  mixed := by kernel_rfl
  f129 := Ybaf.func86.trans (congrArg some (by kernel_rfl))
  f171 := Ybaf.func15.trans (congrArg some (by kernel_rfl))
  f243 := Ybaf.func33.trans (congrArg some (by kernel_rfl))
  f246 := Ybaf.func50.trans (congrArg some (by kernel_rfl))
  f283 := Ybaf.func70.trans (congrArg some (by kernel_rfl))
  f284 := Ybaf.func71.trans (congrArg some (by kernel_rfl))
  f285 := Ybaf.func72.trans (congrArg some (by kernel_rfl))
  f286 := Ybaf.func73.trans (congrArg some (by kernel_rfl))
  f317 := Ybaf.func85.trans (congrArg some (by kernel_rfl))
  f318 := Ybaf.func87.trans (congrArg some (by kernel_rfl))
  f319 := Ybaf.func88.trans (congrArg some (by kernel_rfl))
  f320 := Ybaf.func89.trans (congrArg some (by kernel_rfl))
  f337 := Ybaf.func93.trans (congrArg some (by kernel_rfl))
  f338 := Ybaf.func94.trans (congrArg some (by kernel_rfl))
  t0 := Ybaf.underlying0
  a0 := Ybaf.isAgg0
  z0 := Ybaf.sizeOf0
  v0 := Ybaf.zeroValue0
  t2 := Ybaf.underlying2
  a2 := Ybaf.isAgg2
  z2 := Ybaf.sizeOf2
  v2 := Ybaf.zeroValue2
  t3 := Ybaf.underlying3
  a3 := Ybaf.isAgg3
  z3 := Ybaf.sizeOf3
  v3 := Ybaf.zeroValue3
  t4 := Ybaf.underlying4
  a4 := Ybaf.isAgg4
  z4 := Ybaf.sizeOf4
  v4 := Ybaf.zeroValue4
  t5 := Ybaf.underlying5
  a5 := Ybaf.isAgg5
  z5 := Ybaf.sizeOf5
  v5 := Ybaf.zeroValue5
  t9 := Ybaf.underlying9
  a9 := Ybaf.isAgg9
  z9 := Ybaf.sizeOf9
  v9 := Ybaf.zeroValue9
  t20 := Ybaf.underlying20
  a20 := Ybaf.isAgg20
  z20 := Ybaf.sizeOf20
  v20 := Ybaf.zeroValue20
  t37 := Ybaf.underlying22
  a37 := Ybaf.isAgg22
  z37 := Ybaf.sizeOf22
  v37 := Ybaf.zeroValue22
  t46 := Ybaf.underlying213
  a46 := Ybaf.isAgg213
  z46 := Ybaf.sizeOf213
  v46 := Ybaf.zeroValue213
  t51 := Ybaf.underlying210
  a51 := Ybaf.isAgg210
  z51 := Ybaf.sizeOf210
  v51 := Ybaf.zeroValue210
  t53 := Ybaf.underlying189
  a53 := Ybaf.isAgg189
  z53 := Ybaf.sizeOf189
  v53 := Ybaf.zeroValue189
  t171 := Ybaf.underlying188
  a171 := Ybaf.isAgg188
  z171 := Ybaf.sizeOf188
  v171 := Ybaf.zeroValue188
  t173 := Ybaf.underlying192
  a173 := Ybaf.isAgg192
  z173 := Ybaf.sizeOf192
  v173 := Ybaf.zeroValue192
  t212 := Ybaf.underlying209
  a212 := Ybaf.isAgg209
  z212 := Ybaf.sizeOf209
  v212 := Ybaf.zeroValue209
  t213 := Ybaf.underlying211
  a213 := Ybaf.isAgg211
  z213 := Ybaf.sizeOf211
  t232 := Ybaf.underlying227
  a232 := Ybaf.isAgg227
  z232 := Ybaf.sizeOf227
  v232 := Ybaf.zeroValue227
  t233 := Ybaf.underlying228
  a233 := Ybaf.isAgg228
  z233 := Ybaf.sizeOf228
  v233 := Ybaf.zeroValue228
  g17 := by kernel_rfl
  g18 := by kernel_rfl
  g19 := by kernel_rfl
  i0 := by kernel_rfl
  i2 := by kernel_rfl
  i3 := by kernel_rfl
  i4 := by kernel_rfl
  i5 := by kernel_rfl
  i9 := by kernel_rfl
  i20 := by kernel_rfl
  i37 := by kernel_rfl
  i46 := by kernel_rfl
  i51 := by kernel_rfl
  i53 := by kernel_rfl
  i171 := by kernel_rfl
  i173 := by kernel_rfl
  i212 := by kernel_rfl
  i232 := by kernel_rfl
  i233 := by kernel_rfl
  m17 := by kernel_rfl
  m18 := by kernel_rfl
  m19 := by kernel_rfl }
open Go.RowKit Go.Sort Go.Lib in
/-- strconv.Itoa: "Itoa is equivalent to FormatInt(int64(i), 10).": i's DECIMAL NUMERAL ('Lib.itoa': a '-' where i is negative, then the digits), FOR EVERY int. The world behind the call: the world before it, new blocks behind the heap (the library's 'var a [24]byte'), draws. (LAID: no walk: one application.) -/
theorem Ybaf.strconv_Itoa (n : Int) (h0 : -9223372036854775808 ≤ n) (h1 : n ≤ 9223372036854775807) (w : World) (htab : Lib.TabIs Ybaf.prog w "internal/strconv.uint64pow10" .u64 Lib.pow10Tab) :
    Calls Ybaf.prog 15 #[.int .i64 n] w fun e w' => e = .returned (.string ⟨(Lib.itoa n).toArray⟩) ∧ ∃ k os, w' = grow (w.drewN k) os := Any.strconv_Itoa Ybaf.laysM171 n h0 h1 w htab
end Go.Proofs
