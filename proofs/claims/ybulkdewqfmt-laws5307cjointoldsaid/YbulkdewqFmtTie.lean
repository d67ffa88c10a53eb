/-
  DERIVED. GIVEN WITH THE SEED: THE PROGRAM's TIES (one call each: nine closed facts by the kernel) AND EACH ROW's TIE, after the 31st guide's Derived/Test/Toyas{Tie, Card}.lean. No idea stands in it: it is a product of the set-up. Laid BY PROGRAM, IN A SANDBOX (cutbox-door.mjs). By AI agents, Wed Nov 11 2026. No macro, syntax, notation, axiom, sorry.
-/
import Derived.Test.YbulkdewqFmtRows
import Derived.LaidByTextLater
import Derived.SevenTiedAt
import Derived.LaidSub
import Derived.LaidOnce
namespace Go.Proofs.YbulkdewqFmt
open Go
set_option maxRecDepth 100000
theorem seatTie1 : Ybaf.prog.laidByTextLater [("math/bits.deBruijn32tab", Rows.laid_math_bits_deBruijn32tab), ("math/bits.deBruijn64tab", Rows.laid_math_bits_deBruijn64tab), ("internal/strconv.uint64pow10", Rows.laid_internal_strconv_uint64pow10), ("example.com/firethorn/firethorn/packet.protocolNames", Rows.laid_example_com_firethorn_firethorn_packet_protocolNames), ("example.com/firethorn/firethorn/packet.AllPorts", Rows.laid_example_com_firethorn_firethorn_packet_AllPorts), ("example.com/firethorn/firethorn/packet.AllICMP", Rows.laid_example_com_firethorn_firethorn_packet_AllICMP), ("example.com/firethorn/firethorn/policy.namedProtocols", Rows.laid_example_com_firethorn_firethorn_policy_namedProtocols)] [.data, .data, .data, .widerDeep, .data, .data, .mapped] true :=
  Program.laidByTextLater_by_one 148 8 113 (by kernel_rfl) (by kernel_rfl) (by kernel_rfl) (by kernel_rfl) (by kernel_rfl) (by kernel_rfl) (fun _ _ => by kernel_rfl)
theorem seatTie2 : Ybaf.prog.laidByTextLater [("unicode/utf8.acceptRanges", Rows.laid_unicode_utf8_acceptRanges)] [.data] true :=
  Program.laidByTextLater_by_one 148 8 113 (by kernel_rfl) (by kernel_rfl) (by kernel_rfl) (by kernel_rfl) (by kernel_rfl) (by kernel_rfl) (fun _ _ => by kernel_rfl)
theorem pin_laid_unicode_CaseRanges : Ybaf.pinned.checked.prog.pinnedFits "unicode.CaseRanges" = true := by kernel_rfl
theorem pin_laid_unicode_utf8_first : Ybaf.pinned.checked.prog.pinnedFits "unicode/utf8.first" = true := by kernel_rfl
theorem noOwnUnsafe : Ybaf.pinned.checked.prog.headLifts.contains "ownunsafe" = false := by kernel_rfl
theorem tie : Ybaf.prog.laidByTextLater [("math/bits.deBruijn32tab", Rows.laid_math_bits_deBruijn32tab), ("math/bits.deBruijn64tab", Rows.laid_math_bits_deBruijn64tab), ("internal/strconv.uint64pow10", Rows.laid_internal_strconv_uint64pow10), ("example.com/firethorn/firethorn/packet.protocolNames", Rows.laid_example_com_firethorn_firethorn_packet_protocolNames)] [.data, .data, .data, .widerDeep] true :=
  Program.laidByTextLater.sub seatTie1 ["math/bits.deBruijn32tab", "math/bits.deBruijn64tab", "internal/strconv.uint64pow10", "example.com/firethorn/firethorn/packet.protocolNames"] (by kernel_rfl) (by kernel_rfl)
theorem lawS5307AOrder_row_tie : Rows.lawS5307AOrderRow.laidByTextAt .later Ybaf.pinned [.data, .data, .data, .widerDeep] true :=
  OpenClaim.laidByTextAt_later rfl rfl tie noOwnUnsafe
theorem fits2 : Ybaf.pinned.checked.prog.listedFits [("unicode/utf8.acceptRanges", Rows.laid_unicode_utf8_acceptRanges), ("unicode.CaseRanges", Rows.laid_unicode_CaseRanges), ("unicode/utf8.first", Rows.laid_unicode_utf8_first)] = true := by
  unfold Program.listedFits
  rw [noOwnUnsafe]
  kernel_rfl
theorem tie2 : Ybaf.prog.laidByTextLater [("unicode/utf8.acceptRanges", Rows.laid_unicode_utf8_acceptRanges)] [.data] true :=
  Program.laidByTextLater.sub seatTie2 ["unicode/utf8.acceptRanges"] (by kernel_rfl) (by kernel_rfl)
theorem lawS5307BResolve_row_tie : Rows.lawS5307BResolveRow.laidByTextAt .later Ybaf.pinned [.data, .pinned, .pinned] true :=
  OpenClaim.laidByTextAt_pinned rfl rfl tie2 rfl rfl rfl rfl (fun y hy _e => by
    simp only [Rows.lawS5307BResolveRow, List.zip_cons_cons, List.zip_nil_right, List.mem_cons, List.mem_nil_iff, or_false] at hy
    rcases hy with rfl | rfl | rfl
    · cases _e
    · exact ⟨pin_laid_unicode_CaseRanges, by kernel_rfl⟩
    · exact ⟨pin_laid_unicode_utf8_first, by kernel_rfl⟩) fits2
theorem tie3 : Ybaf.prog.laidByTextLater [("math/bits.deBruijn32tab", Rows.laid_math_bits_deBruijn32tab), ("math/bits.deBruijn64tab", Rows.laid_math_bits_deBruijn64tab), ("internal/strconv.uint64pow10", Rows.laid_internal_strconv_uint64pow10), ("example.com/firethorn/firethorn/packet.protocolNames", Rows.laid_example_com_firethorn_firethorn_packet_protocolNames), ("example.com/firethorn/firethorn/packet.AllPorts", Rows.laid_example_com_firethorn_firethorn_packet_AllPorts), ("example.com/firethorn/firethorn/packet.AllICMP", Rows.laid_example_com_firethorn_firethorn_packet_AllICMP), ("example.com/firethorn/firethorn/policy.namedProtocols", Rows.laid_example_com_firethorn_firethorn_policy_namedProtocols)] [.data, .data, .data, .widerDeep, .data, .data, .mapped] true :=
  Program.laidByTextLater.sub seatTie1 ["math/bits.deBruijn32tab", "math/bits.deBruijn64tab", "internal/strconv.uint64pow10", "example.com/firethorn/firethorn/packet.protocolNames", "example.com/firethorn/firethorn/packet.AllPorts", "example.com/firethorn/firethorn/packet.AllICMP", "example.com/firethorn/firethorn/policy.namedProtocols"] (by kernel_rfl) (by kernel_rfl)
theorem lawS5307CJoin_row_tie : Rows.lawS5307CJoinRow.laidByTextAt .later Ybaf.pinned [.data, .data, .data, .widerDeep, .data, .data, .mapped] true :=
  OpenClaim.laidByTextAt_later rfl rfl tie3 noOwnUnsafe
theorem lawS5307CUnnamed_row_tie : Rows.lawS5307CUnnamedRow.laidByTextAt .later Ybaf.pinned [.data, .data, .data, .widerDeep, .data, .data, .mapped] true :=
  OpenClaim.laidByTextAt_later rfl rfl tie3 noOwnUnsafe
end Go.Proofs.YbulkdewqFmt
