/-
  DERIVED. GIVEN WITH THE SEED: THE PROGRAM's TIES (one call each: nine closed facts by the kernel) AND EACH ROW's TIE, after the 31st guide's Derived/Test/Toyas{Tie, Card}.lean. No idea stands in it: it is a product of the set-up. Laid BY PROGRAM, IN A SANDBOX (cutbox-door.mjs). By AI agents, Wed Nov 11 2026. No macro, syntax, notation, axiom, sorry.
-/
import Derived.Test.YbulkatmkFmtRows
import Derived.LaidByTextLater
import Derived.SevenTiedAt
import Derived.LaidSub
import Derived.LaidOnce
namespace Go.Proofs.YbulkatmkFmt
open Go
set_option maxRecDepth 100000
theorem seatTie1 : Ybaf.prog.laidByTextLater [("math/bits.deBruijn32tab", Rows.laid_math_bits_deBruijn32tab), ("math/bits.deBruijn64tab", Rows.laid_math_bits_deBruijn64tab), ("internal/strconv.uint64pow10", Rows.laid_internal_strconv_uint64pow10), ("unicode/utf8.acceptRanges", Rows.laid_unicode_utf8_acceptRanges), ("strconv.ErrRange", Rows.laid_strconv_ErrRange), ("strconv.ErrSyntax", Rows.laid_strconv_ErrSyntax), ("example.com/corkline/corkline/ledger.dues", Rows.laid_example_com_corkline_corkline_ledger_dues), ("example.com/corkline/corkline/ledger.moves", Rows.laid_example_com_corkline_corkline_ledger_moves), ("example.com/corkline/corkline/ledger.ErrNoPR", Rows.laid_example_com_corkline_corkline_ledger_ErrNoPR), ("example.com/corkline/corkline/ledger.settled", Rows.laid_example_com_corkline_corkline_ledger_settled)] [.data, .data, .data, .data, .sentinel, .sentinel, .data, .data, .sentinel, .widerDeep] true :=
  Program.laidByTextLater_by_one 117 8 65 (by kernel_rfl) (by kernel_rfl) (by kernel_rfl) (by kernel_rfl) (by kernel_rfl) (by kernel_rfl) (fun _ _ => by kernel_rfl)
theorem pin_laid_unicode_utf8_first : Ybaf.pinned.checked.prog.pinnedFits "unicode/utf8.first" = true := by kernel_rfl
theorem noOwnUnsafe : Ybaf.pinned.checked.prog.headLifts.contains "ownunsafe" = false := by kernel_rfl
theorem tie : Ybaf.prog.laidByTextLater [("example.com/corkline/corkline/ledger.dues", Rows.laid_example_com_corkline_corkline_ledger_dues), ("example.com/corkline/corkline/ledger.ErrNoPR", Rows.laid_example_com_corkline_corkline_ledger_ErrNoPR), ("example.com/corkline/corkline/ledger.settled", Rows.laid_example_com_corkline_corkline_ledger_settled)] [.data, .sentinel, .widerDeep] true :=
  Program.laidByTextLater.sub seatTie1 ["example.com/corkline/corkline/ledger.dues", "example.com/corkline/corkline/ledger.ErrNoPR", "example.com/corkline/corkline/ledger.settled"] (by kernel_rfl) (by kernel_rfl)
theorem lawS2246AModel_row_tie : Rows.lawS2246AModelRow.laidByTextAt .later Ybaf.pinned [.data, .sentinel, .widerDeep] true :=
  OpenClaim.laidByTextAt_later rfl rfl tie noOwnUnsafe
theorem fits2 : Ybaf.pinned.checked.prog.listedFits [("math/bits.deBruijn32tab", Rows.laid_math_bits_deBruijn32tab), ("math/bits.deBruijn64tab", Rows.laid_math_bits_deBruijn64tab), ("internal/strconv.uint64pow10", Rows.laid_internal_strconv_uint64pow10), ("unicode/utf8.acceptRanges", Rows.laid_unicode_utf8_acceptRanges), ("strconv.ErrRange", Rows.laid_strconv_ErrRange), ("strconv.ErrSyntax", Rows.laid_strconv_ErrSyntax), ("example.com/corkline/corkline/ledger.moves", Rows.laid_example_com_corkline_corkline_ledger_moves), ("unicode/utf8.first", Rows.laid_unicode_utf8_first)] = true := by
  unfold Program.listedFits
  rw [noOwnUnsafe]
  kernel_rfl
theorem tie2 : Ybaf.prog.laidByTextLater [("math/bits.deBruijn32tab", Rows.laid_math_bits_deBruijn32tab), ("math/bits.deBruijn64tab", Rows.laid_math_bits_deBruijn64tab), ("internal/strconv.uint64pow10", Rows.laid_internal_strconv_uint64pow10), ("unicode/utf8.acceptRanges", Rows.laid_unicode_utf8_acceptRanges), ("strconv.ErrRange", Rows.laid_strconv_ErrRange), ("strconv.ErrSyntax", Rows.laid_strconv_ErrSyntax), ("example.com/corkline/corkline/ledger.moves", Rows.laid_example_com_corkline_corkline_ledger_moves)] [.data, .data, .data, .data, .sentinel, .sentinel, .data] true :=
  Program.laidByTextLater.sub seatTie1 ["math/bits.deBruijn32tab", "math/bits.deBruijn64tab", "internal/strconv.uint64pow10", "unicode/utf8.acceptRanges", "strconv.ErrRange", "strconv.ErrSyntax", "example.com/corkline/corkline/ledger.moves"] (by kernel_rfl) (by kernel_rfl)
theorem lawS2246BMakeResult_row_tie : Rows.lawS2246BMakeResultRow.laidByTextAt .later Ybaf.pinned [.data, .data, .data, .data, .sentinel, .sentinel, .data, .pinned] true :=
  OpenClaim.laidByTextAt_pinned rfl rfl tie2 rfl rfl rfl rfl (fun y hy _e => by
    simp only [Rows.lawS2246BMakeResultRow, List.zip_cons_cons, List.zip_nil_right, List.mem_cons, List.mem_nil_iff, or_false] at hy
    rcases hy with rfl | rfl | rfl | rfl | rfl | rfl | rfl | rfl
    · cases _e
    · cases _e
    · cases _e
    · cases _e
    · cases _e
    · cases _e
    · cases _e
    · exact ⟨pin_laid_unicode_utf8_first, by kernel_rfl⟩) fits2
end Go.Proofs.YbulkatmkFmt
