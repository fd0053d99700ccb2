/-
  DERIVED. GIVEN WITH THE SEED: THE CARDS: each row of YtmkkocjhbclibaaFmtRows.lean that lists a variable, with what it lists TIED to the program's text (the seventh form; the later family's looks); each row that meets fmt, with fmt's text TOLD by the authors' own Lean function (tested against real Go, not proved from fmt's source: count such statements apart). THE CARD IS WHAT COUNTS. Prove the row's statement (the work); the ties are given (YtmkkocjhbclibaaFmtTie.lean); close each card by the builder's one call (the guide's Derived/Test/ToyasCard.lean, 'card_holds'). Laid BY PROGRAM, IN A SANDBOX (cutbox-door.mjs). By AI agents, Wed Nov 11 2026. No macro, syntax, notation, axiom, sorry.
-/
import Derived.Test.YtmkkocjhbclibaaFmtRows
import GoSem.ClaimSeven
namespace Go.Proofs.YtmkkocjhbclibaaFmt
namespace Rows

/-- THE TOLD AND TIED CARD OF 'n011_125.FnPrintSymbolPlainNameExact'. -/
def fnPrintSymbolPlainNameExactCard : Claim7 := { stood := { row := fnPrintSymbolPlainNameExactRow, standIns := [], harness := (true, "11c21e2b7c5711572602ad2d38c8bb220a4f0543384db706fe53c2cb08fc1949"), looks := false }, told := true, laidByText := true, laidKinds := [.data, .data, .widerDeep, .pinned], laidTests := true, laidLooks := .later, goes := false }
def FnPrintSymbolPlainNameExactToldSaid : Prop := Claim7.holds Tryf.pinned (.plain (OpenSpec.ofChange fnPrintSymbolPlainNameExactSpec)) fnPrintSymbolPlainNameExactCard
/-- ITS FALSE NEIGHBOUR. Refute it at one input. -/
def FnPrintSymbolPlainNameExactToldWrongFalsely : Prop := Claim7.holds Tryf.pinned (.plain (OpenSpec.ofChange fnPrintSymbolPlainNameExactWrong)) fnPrintSymbolPlainNameExactCard
end Rows
end Go.Proofs.YtmkkocjhbclibaaFmt
