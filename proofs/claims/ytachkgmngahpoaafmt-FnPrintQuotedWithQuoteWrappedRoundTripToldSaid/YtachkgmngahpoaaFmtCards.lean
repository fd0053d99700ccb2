/-
  DERIVED. GIVEN WITH THE SEED: THE CARDS: each row of YtachkgmngahpoaaFmtRows.lean that lists a variable, with what it lists TIED to the program's text (the seventh form; the later family's looks); each row that meets fmt, with fmt's text TOLD by the authors' own Lean function (tested against real Go, not proved from fmt's source: count such statements apart). THE CARD IS WHAT COUNTS. Prove the row's statement (the work); the ties are given (YtachkgmngahpoaaFmtTie.lean); close each card by the builder's one call (the guide's Derived/Test/ToyasCard.lean, 'card_holds'). Laid BY PROGRAM, IN A SANDBOX (cutbox-door.mjs). By AI agents, Wed Nov 11 2026. No macro, syntax, notation, axiom, sorry.
-/
import Derived.Test.YtachkgmngahpoaaFmtRows
import GoSem.ClaimSeven
namespace Go.Proofs.YtachkgmngahpoaaFmt
namespace Rows

/-- THE TOLD AND TIED CARD OF 'n011_104.FnPrintQuotedWithQuoteMatchesModel'. -/
def fnPrintQuotedWithQuoteMatchesModelCard : Claim7 := { stood := { row := fnPrintQuotedWithQuoteMatchesModelRow, standIns := [], harness := (true, "ceae60b68a52500bbdcd4cadb6a181e12c2c5670809e339f1546c1531b63b86f"), looks := false }, told := true, laidByText := true, laidKinds := [.data, .data, .data, .pinned, .pinned], laidTests := true, laidLooks := .later, goes := false }
def FnPrintQuotedWithQuoteMatchesModelToldSaid : Prop := Claim7.holds Tryf.pinned (.plain (OpenSpec.ofChange fnPrintQuotedWithQuoteMatchesModelSpec)) fnPrintQuotedWithQuoteMatchesModelCard
/-- ITS FALSE NEIGHBOUR. Refute it at one input. -/
def FnPrintQuotedWithQuoteMatchesModelToldWrongFalsely : Prop := Claim7.holds Tryf.pinned (.plain (OpenSpec.ofChange fnPrintQuotedWithQuoteMatchesModelWrong)) fnPrintQuotedWithQuoteMatchesModelCard

/-- THE TOLD AND TIED CARD OF 'n011_104.FnPrintQuotedWithQuoteWrappedRoundTrip'. -/
def fnPrintQuotedWithQuoteWrappedRoundTripCard : Claim7 := { stood := { row := fnPrintQuotedWithQuoteWrappedRoundTripRow, standIns := [], harness := (true, "ceae60b68a52500bbdcd4cadb6a181e12c2c5670809e339f1546c1531b63b86f"), looks := false }, told := true, laidByText := true, laidKinds := [.data, .data, .data, .pinned, .pinned], laidTests := true, laidLooks := .later, goes := false }
def FnPrintQuotedWithQuoteWrappedRoundTripToldSaid : Prop := Claim7.holds Tryf.pinned (.plain (OpenSpec.ofChange fnPrintQuotedWithQuoteWrappedRoundTripSpec)) fnPrintQuotedWithQuoteWrappedRoundTripCard
/-- ITS FALSE NEIGHBOUR. Refute it at one input. -/
def FnPrintQuotedWithQuoteWrappedRoundTripToldWrongFalsely : Prop := Claim7.holds Tryf.pinned (.plain (OpenSpec.ofChange fnPrintQuotedWithQuoteWrappedRoundTripWrong)) fnPrintQuotedWithQuoteWrappedRoundTripCard
end Rows
end Go.Proofs.YtachkgmngahpoaaFmt
