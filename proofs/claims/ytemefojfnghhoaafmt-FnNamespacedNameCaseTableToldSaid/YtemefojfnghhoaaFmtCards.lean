/-
  DERIVED. GIVEN WITH THE SEED: THE CARDS: each row of YtemefojfnghhoaaFmtRows.lean that lists a variable, with what it lists TIED to the program's text (the seventh form; the later family's looks); each row that meets fmt, with fmt's text TOLD by the authors' own Lean function (tested against real Go, not proved from fmt's source: count such statements apart). THE CARD IS WHAT COUNTS. Prove the row's statement (the work); the ties are given (YtemefojfnghhoaaFmtTie.lean); close each card by the builder's one call (the guide's Derived/Test/ToyasCard.lean, 'card_holds'). Laid BY PROGRAM, IN A SANDBOX (cutbox-door.mjs). By AI agents, Wed Nov 11 2026. No macro, syntax, notation, axiom, sorry.
-/
import Derived.Test.YtemefojfnghhoaaFmtRows
import GoSem.ClaimSeven
namespace Go.Proofs.YtemefojfnghhoaaFmt
namespace Rows

/-- THE TOLD AND TIED CARD OF 'n011_276.FnNamespacedNameCaseTable'. -/
def fnNamespacedNameCaseTableCard : Claim7 := { stood := { row := fnNamespacedNameCaseTableRow, standIns := [], harness := (true, "938b03f6ff7f591bb9b5f5efa6e6087a577cb946f726fe945a0f8e141cfe35d4"), looks := false }, told := true, laidByText := true, laidKinds := [.data, .widerDeep, .pinned], laidTests := true, laidLooks := .later, goes := false }
def FnNamespacedNameCaseTableToldSaid : Prop := Claim7.holds Tryf.pinned (.plain (OpenSpec.ofChange fnNamespacedNameCaseTableSpec)) fnNamespacedNameCaseTableCard
/-- ITS FALSE NEIGHBOUR. Refute it at one input. -/
def FnNamespacedNameCaseTableToldWrongFalsely : Prop := Claim7.holds Tryf.pinned (.plain (OpenSpec.ofChange fnNamespacedNameCaseTableWrong)) fnNamespacedNameCaseTableCard
end Rows
end Go.Proofs.YtemefojfnghhoaaFmt
