/-
  DERIVED. GIVEN WITH THE SEED: THE CARDS: each row of YthpbnnlmmljcoaaFmtRows.lean that lists a variable, with what it lists TIED to the program's text (the seventh form; the later family's looks); each row that meets fmt, with fmt's text TOLD by the authors' own Lean function (tested against real Go, not proved from fmt's source: count such statements apart). THE CARD IS WHAT COUNTS. Prove the row's statement (the work); the ties are given (YthpbnnlmmljcoaaFmtTie.lean); close each card by the builder's one call (the guide's Derived/Test/ToyasCard.lean, 'card_holds'). Laid BY PROGRAM, IN A SANDBOX (cutbox-door.mjs). By AI agents, Wed Nov 11 2026. No macro, syntax, notation, axiom, sorry.
-/
import Derived.Test.YthpbnnlmmljcoaaFmtRows
import GoSem.ClaimSeven
namespace Go.Proofs.YthpbnnlmmljcoaaFmt
namespace Rows

/-- THE TOLD AND TIED CARD OF 'n011_104.FnPrintQuotedWithQuoteMatchesModel'. -/
def fnPrintQuotedWithQuoteMatchesModelCard : Claim7 := { stood := { row := fnPrintQuotedWithQuoteMatchesModelRow, standIns := [], harness := (true, "9de1111cb73279cb53aca54c728e7469044f4208323225bdda78806c3c1e6872"), looks := false }, told := true, laidByText := true, laidKinds := [.data, .data, .data, .pinned, .pinned], laidTests := true, laidLooks := .later, goes := false }
def FnPrintQuotedWithQuoteMatchesModelToldSaid : Prop := Claim7.holds Tryf.pinned (.plain (OpenSpec.ofChange fnPrintQuotedWithQuoteMatchesModelSpec)) fnPrintQuotedWithQuoteMatchesModelCard
/-- ITS FALSE NEIGHBOUR. Refute it at one input. -/
def FnPrintQuotedWithQuoteMatchesModelToldWrongFalsely : Prop := Claim7.holds Tryf.pinned (.plain (OpenSpec.ofChange fnPrintQuotedWithQuoteMatchesModelWrong)) fnPrintQuotedWithQuoteMatchesModelCard

/-- THE TOLD CARD OF 'n011_104.FnPrintWithEscapeCaseTable'. -/
def fnPrintWithEscapeCaseTableCard : Claim7 := { stood := { row := fnPrintWithEscapeCaseTableRow, standIns := [], harness := (true, "9de1111cb73279cb53aca54c728e7469044f4208323225bdda78806c3c1e6872"), looks := false }, told := true, goes := false }
def FnPrintWithEscapeCaseTableToldSaid : Prop := Claim7.holds Tryf.pinned (.plain (OpenSpec.ofChange fnPrintWithEscapeCaseTableSpec)) fnPrintWithEscapeCaseTableCard
/-- ITS FALSE NEIGHBOUR. Refute it at one input. -/
def FnPrintWithEscapeCaseTableToldWrongFalsely : Prop := Claim7.holds Tryf.pinned (.plain (OpenSpec.ofChange fnPrintWithEscapeCaseTableWrong)) fnPrintWithEscapeCaseTableCard

/-- THE TOLD CARD OF 'n011_104.FnPrintWithEscapeBackslashPrefixesPlain'. -/
def fnPrintWithEscapeBackslashPrefixesPlainCard : Claim7 := { stood := { row := fnPrintWithEscapeBackslashPrefixesPlainRow, standIns := [], harness := (true, "9de1111cb73279cb53aca54c728e7469044f4208323225bdda78806c3c1e6872"), looks := false }, told := true, goes := false }
def FnPrintWithEscapeBackslashPrefixesPlainToldSaid : Prop := Claim7.holds Tryf.pinned (.plain (OpenSpec.ofChange fnPrintWithEscapeBackslashPrefixesPlainSpec)) fnPrintWithEscapeBackslashPrefixesPlainCard
/-- ITS FALSE NEIGHBOUR. Refute it at one input. -/
def FnPrintWithEscapeBackslashPrefixesPlainToldWrongFalsely : Prop := Claim7.holds Tryf.pinned (.plain (OpenSpec.ofChange fnPrintWithEscapeBackslashPrefixesPlainWrong)) fnPrintWithEscapeBackslashPrefixesPlainCard

/-- THE TOLD AND TIED CARD OF 'n011_104.FnPrintQuotedWithQuoteWrappedRoundTrip'. -/
def fnPrintQuotedWithQuoteWrappedRoundTripCard : Claim7 := { stood := { row := fnPrintQuotedWithQuoteWrappedRoundTripRow, standIns := [], harness := (true, "9de1111cb73279cb53aca54c728e7469044f4208323225bdda78806c3c1e6872"), looks := false }, told := true, laidByText := true, laidKinds := [.data, .data, .data, .pinned, .pinned], laidTests := true, laidLooks := .later, goes := false }
def FnPrintQuotedWithQuoteWrappedRoundTripToldSaid : Prop := Claim7.holds Tryf.pinned (.plain (OpenSpec.ofChange fnPrintQuotedWithQuoteWrappedRoundTripSpec)) fnPrintQuotedWithQuoteWrappedRoundTripCard
/-- ITS FALSE NEIGHBOUR. Refute it at one input. -/
def FnPrintQuotedWithQuoteWrappedRoundTripToldWrongFalsely : Prop := Claim7.holds Tryf.pinned (.plain (OpenSpec.ofChange fnPrintQuotedWithQuoteWrappedRoundTripWrong)) fnPrintQuotedWithQuoteWrappedRoundTripCard
end Rows
end Go.Proofs.YthpbnnlmmljcoaaFmt
