/- The tables of unicode/utf8, out of what the row lays. -/
import Derived.Test.YtppcjkajjahclaaFmtRows
import Derived.Test.YtppcjkajjahclaaFmtShelf
import Derived.Lib.LaidU8T
import Derived.Handy
import Derived.Lay
import Derived.SevenTiedAt
namespace Go.Proofs.YtppcjkajjahclaaFmt
open Go.RowKit Go.Shelf Go.Lib
set_option linter.unusedVariables false

def renU8 : Go.Shelf.Ren := ⟨fun n => n, fun | 119 => 74 | 138 => 76 | 139 => 77 | n => n, fun | 3 => 0 | 4 => 1 | n => n⟩
theorem typesU8 : Go.Proofs.U8Types Tryf.prog renU8 := ⟨Tryf.underlying5, Tryf.underlying74, Tryf.underlying76, Tryf.underlying77⟩
theorem extraU8 : Go.Proofs.U8Extra Tryf.prog renU8 := ⟨by kernel_rfl, by kernel_rfl, by kernel_rfl, by kernel_rfl, by kernel_rfl, by kernel_rfl, by kernel_rfl⟩
theorem first_eq : Rows.laid_unicode_utf8_first = firstData := by kernel_rfl
theorem accept_eq : Rows.laid_unicode_utf8_acceptRanges = acceptData := by kernel_rfl
theorem tabs_of {w : World} (h : laidMetH Tryf.prog [("unicode/utf8.acceptRanges", Rows.laid_unicode_utf8_acceptRanges), ("unicode/utf8.first", Rows.laid_unicode_utf8_first)] w) : Lib.Utf8Tabs 0 1 w := by
  rw [MakeChecks.laidMetH_plain _ _ _ (by kernel_rfl)] at h
  have h1 := Lib.laidMet.reads h (n := "unicode/utf8.first") (d := Rows.laid_unicode_utf8_first) (by simp)
  have h2 := Lib.laidMet.reads h (n := "unicode/utf8.acceptRanges") (d := Rows.laid_unicode_utf8_acceptRanges) (by simp)
  rw [first_eq] at h1
  rw [accept_eq] at h2
  exact utf8Tabs_of_readsT typesU8 extraU8 h1 h2
end Go.Proofs.YtppcjkajjahclaaFmt
