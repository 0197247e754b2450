/-
  DERIVED. GIVEN WITH THE SEED: THE PROGRAM's TIES (one call each: nine closed facts by the kernel) AND EACH ROW's TIE, after the 31st guide's Derived/Test/Toyas{Tie, Card}.lean. No idea stands in it: it is a product of the set-up. Laid BY PROGRAM, IN A SANDBOX (cutbox-door.mjs). By AI agents, Wed Nov 11 2026. No macro, syntax, notation, axiom, sorry.
-/
import Derived.Test.YbulknisFmtRows
import Derived.LaidByTextLater
import Derived.SevenTiedAt
import Derived.LaidSub
import Derived.LaidOnce
namespace Go.Proofs.YbulknisFmt
open Go
set_option maxRecDepth 100000
theorem seatTie1 : Ybaf.prog.laidByTextLater [("unicode/utf8.acceptRanges", Rows.laid_unicode_utf8_acceptRanges), ("unicode.White_Space", Rows.laid_unicode_White_Space), ("strings.asciiSpace", Rows.laid_strings_asciiSpace)] [.data, .listed, .data] true :=
  Program.laidByTextLater_by_one 722 8 257 (by kernel_rfl) (by kernel_rfl) (by kernel_rfl) (by kernel_rfl) (by kernel_rfl) (by kernel_rfl) (fun _ _ => by kernel_rfl)
theorem seatTie2 : Ybaf.prog.laidByTextLater [("example.com/shenshu/shenshu/internal/decimal.errOverflow", Rows.laid_example_com_shenshu_shenshu_internal_decimal_errOverflow), ("example.com/shenshu/shenshu/internal/decimal.pow10", Rows.laid_example_com_shenshu_shenshu_internal_decimal_pow10), ("example.com/shenshu/shenshu/internal/fund.MaxAmount", Rows.laid_example_com_shenshu_shenshu_internal_fund_MaxAmount), ("example.com/shenshu/shenshu/internal/fund.MaxFundShares", Rows.laid_example_com_shenshu_shenshu_internal_fund_MaxFundShares), ("example.com/shenshu/shenshu/internal/register.noShares", Rows.laid_example_com_shenshu_shenshu_internal_register_noShares)] [.called, .called, .called, .called, .called] true :=
  Program.laidByTextLater_by_one 722 8 257 (by kernel_rfl) (by kernel_rfl) (by kernel_rfl) (by kernel_rfl) (by kernel_rfl) (by kernel_rfl) (fun _ _ => by kernel_rfl)
theorem pin_laid_unicode_utf8_first : Ybaf.pinned.checked.prog.pinnedFits "unicode/utf8.first" = true := by kernel_rfl
theorem noOwnUnsafe : Ybaf.pinned.checked.prog.headLifts.contains "ownunsafe" = false := by kernel_rfl
theorem fits1 : Ybaf.pinned.checked.prog.listedFits [("unicode/utf8.acceptRanges", Rows.laid_unicode_utf8_acceptRanges), ("unicode.White_Space", Rows.laid_unicode_White_Space), ("strings.asciiSpace", Rows.laid_strings_asciiSpace), ("unicode/utf8.first", Rows.laid_unicode_utf8_first)] = true := by
  unfold Program.listedFits
  rw [noOwnUnsafe]
  kernel_rfl
theorem tie : Ybaf.prog.laidByTextLater [("unicode/utf8.acceptRanges", Rows.laid_unicode_utf8_acceptRanges), ("unicode.White_Space", Rows.laid_unicode_White_Space), ("strings.asciiSpace", Rows.laid_strings_asciiSpace)] [.data, .listed, .data] true :=
  Program.laidByTextLater.sub seatTie1 ["unicode/utf8.acceptRanges", "unicode.White_Space", "strings.asciiSpace"] (by kernel_rfl) (by kernel_rfl)
theorem lawS0694AMatchesSpec_row_tie : Rows.lawS0694AMatchesSpecRow.laidByTextAt .later Ybaf.pinned [.data, .listed, .data, .pinned] true :=
  OpenClaim.laidByTextAt_pinned rfl rfl tie rfl rfl rfl rfl (fun y hy _e => by
    simp only [Rows.lawS0694AMatchesSpecRow, List.zip_cons_cons, List.zip_nil_right, List.mem_cons, List.mem_nil_iff, or_false] at hy
    rcases hy with rfl | rfl | rfl | rfl
    · cases _e
    · cases _e
    · cases _e
    · exact ⟨pin_laid_unicode_utf8_first, by kernel_rfl⟩) fits1
theorem lawS0694AAcceptedIsClean_row_tie : Rows.lawS0694AAcceptedIsCleanRow.laidByTextAt .later Ybaf.pinned [.data, .listed, .data, .pinned] true :=
  OpenClaim.laidByTextAt_pinned rfl rfl tie rfl rfl rfl rfl (fun y hy _e => by
    simp only [Rows.lawS0694AAcceptedIsCleanRow, List.zip_cons_cons, List.zip_nil_right, List.mem_cons, List.mem_nil_iff, or_false] at hy
    rcases hy with rfl | rfl | rfl | rfl
    · cases _e
    · cases _e
    · cases _e
    · exact ⟨pin_laid_unicode_utf8_first, by kernel_rfl⟩) fits1
theorem tie2 : Ybaf.prog.laidByTextLater [("example.com/shenshu/shenshu/internal/decimal.errOverflow", Rows.laid_example_com_shenshu_shenshu_internal_decimal_errOverflow), ("example.com/shenshu/shenshu/internal/decimal.pow10", Rows.laid_example_com_shenshu_shenshu_internal_decimal_pow10), ("example.com/shenshu/shenshu/internal/fund.MaxAmount", Rows.laid_example_com_shenshu_shenshu_internal_fund_MaxAmount), ("example.com/shenshu/shenshu/internal/fund.MaxFundShares", Rows.laid_example_com_shenshu_shenshu_internal_fund_MaxFundShares), ("example.com/shenshu/shenshu/internal/register.noShares", Rows.laid_example_com_shenshu_shenshu_internal_register_noShares)] [.called, .called, .called, .called, .called] true :=
  Program.laidByTextLater.sub seatTie2 ["example.com/shenshu/shenshu/internal/decimal.errOverflow", "example.com/shenshu/shenshu/internal/decimal.pow10", "example.com/shenshu/shenshu/internal/fund.MaxAmount", "example.com/shenshu/shenshu/internal/fund.MaxFundShares", "example.com/shenshu/shenshu/internal/register.noShares"] (by kernel_rfl) (by kernel_rfl)
theorem lawS0694BSums_row_tie : Rows.lawS0694BSumsRow.laidByTextAt .later Ybaf.pinned [.called, .called, .called, .called, .called] true :=
  OpenClaim.laidByTextAt_later rfl rfl tie2 noOwnUnsafe
end Go.Proofs.YbulknisFmt
