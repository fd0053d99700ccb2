/-
  DERIVED. GIVEN WITH THE SEED: THE CARDS: each row of YtppcjkajjahclaaFmtRows.lean that lists a variable, with what it lists TIED to the program's text (the seventh form; the later family's looks); each row that meets fmt, with fmt's text TOLD by the authors' own Lean function (tested against real Go, not proved from fmt's source: count such statements apart). THE CARD IS WHAT COUNTS. Prove the row's statement (the work); the ties are given (YtppcjkajjahclaaFmtTie.lean); close each card by the builder's one call (the guide's Derived/Test/ToyasCard.lean, 'card_holds'). Laid BY PROGRAM, IN A SANDBOX (cutbox-door.mjs). By AI agents, Wed Nov 11 2026. No macro, syntax, notation, axiom, sorry.
-/
import Derived.Test.YtppcjkajjahclaaFmtRows
import GoSem.ClaimSeven
namespace Go.Proofs.YtppcjkajjahclaaFmt
namespace Rows

/-- THE TOLD AND TIED CARD OF 'n011_125.FnPrintIdentUnescapesToText'. -/
def fnPrintIdentUnescapesToTextCard : Claim7 := { stood := { row := fnPrintIdentUnescapesToTextRow, standIns := [], harness := (true, "8c42a8dde94342939d443a40a13f181ab945c33f421c41039d81d651fe07d320"), looks := false }, told := true, laidByText := true, laidKinds := [.data, .pinned], laidTests := true, laidLooks := .later, goes := false }
def FnPrintIdentUnescapesToTextToldSaid : Prop := Claim7.holds Tryf.pinned (.plain (OpenSpec.ofChange fnPrintIdentUnescapesToTextSpec)) fnPrintIdentUnescapesToTextCard
/-- ITS FALSE NEIGHBOUR. Refute it at one input. -/
def FnPrintIdentUnescapesToTextToldWrongFalsely : Prop := Claim7.holds Tryf.pinned (.plain (OpenSpec.ofChange fnPrintIdentUnescapesToTextWrong)) fnPrintIdentUnescapesToTextCard
end Rows
end Go.Proofs.YtppcjkajjahclaaFmt
