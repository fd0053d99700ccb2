/- The tables of unicode/utf8 and unicode.CaseRanges, out of what the row lays. -/
import Derived.Test.YtailhcimbpejpaaDoorRows
import Derived.Test.YtailhcimbpejpaaDoorShelf
import Derived.Lib.LaidU8T
import Derived.Lib.LaidCaseMet
import Derived.Handy
import Derived.Lay
import Derived.SevenTiedAt
namespace Go.Proofs.YtailhcimbpejpaaDoor
open Go.RowKit Go.Shelf Go.Lib
set_option linter.unusedVariables false

theorem typesU8 : Go.Proofs.U8Types Tryd.prog Tryd.lays159_ren := ⟨Tryd.underlying5, Tryd.underlying65, Tryd.underlying68, Tryd.underlying69⟩
theorem extraU8 : Go.Proofs.U8Extra Tryd.prog Tryd.lays159_ren := ⟨by kernel_rfl, by kernel_rfl, by kernel_rfl, by kernel_rfl, by kernel_rfl, by kernel_rfl, by kernel_rfl⟩
theorem first_eq : Rows.laid_unicode_utf8_first = firstData := by kernel_rfl
theorem accept_eq : (Rows.laid_unicode_utf8_acceptRanges : DataW Unit) = acceptData := by kernel_rfl
theorem case_eq : Rows.laid_unicode_CaseRanges = caseData := by kernel_rfl
theorem extraCase : Go.Proofs.CaseExtra Tryd.prog Tryd.lays159_ren := ⟨by kernel_rfl, by kernel_rfl, by kernel_rfl, by kernel_rfl, by kernel_rfl, by kernel_rfl⟩
abbrev laid3 : List (String × DataW Unit) := [("unicode/utf8.acceptRanges", Rows.laid_unicode_utf8_acceptRanges), ("unicode.CaseRanges", Rows.laid_unicode_CaseRanges), ("unicode/utf8.first", Rows.laid_unicode_utf8_first)]
theorem plain3 : laid3.all (fun x => (DataW.handleName? x.2).isNone) = true := by kernel_rfl
theorem tabs_of {w : World} (h : laidMetH Tryd.prog laid3 w) : Lib.Utf8Tabs 2 3 w := by
  rw [MakeChecks.laidMetH_plain _ _ _ (by kernel_rfl)] at h
  have h1 := Lib.laidMet.reads h (n := "unicode/utf8.first") (d := Rows.laid_unicode_utf8_first) (by simp)
  have h2 := Lib.laidMet.reads h (n := "unicode/utf8.acceptRanges") (d := Rows.laid_unicode_utf8_acceptRanges) (by simp)
  rw [first_eq] at h1
  rw [accept_eq] at h2
  exact utf8Tabs_of_readsT typesU8 extraU8 h1 h2
theorem case_of {w : World} (h : laidMetH Tryd.prog laid3 w) : CaseVar 0 caseA w := by
  rw [MakeChecks.laidMetH_plain _ _ _ (by kernel_rfl)] at h
  have h1 := Lib.laidMet.reads h (n := "unicode.CaseRanges") (d := Rows.laid_unicode_CaseRanges) (by simp)
  rw [case_eq] at h1
  exact caseVar_of_reads { Tryd.lays159 with } Tryd.lays159.t206 extraCase h1
end Go.Proofs.YtailhcimbpejpaaDoor
