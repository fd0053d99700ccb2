/-
  DERIVED. GIVEN WITH THE SEED: THE CARDS: each row of YtoailijfbbdapaaFmtRows.lean that lists a variable, with what it lists TIED to the program's text (the seventh form; the later family's looks); each row that meets fmt, with fmt's text TOLD by the authors' own Lean function (tested against real Go, not proved from fmt's source: count such statements apart). THE CARD IS WHAT COUNTS. Prove the row's statement (the work); the ties are given (YtoailijfbbdapaaFmtTie.lean); close each card by the builder's one call (the guide's Derived/Test/ToyasCard.lean, 'card_holds'). Laid BY PROGRAM, IN A SANDBOX (cutbox-door.mjs). By AI agents, Wed Nov 11 2026. No macro, syntax, notation, axiom, sorry.
-/
import Derived.Test.YtoailijfbbdapaaFmtRows
import GoSem.ClaimSeven
namespace Go.Proofs.YtoailijfbbdapaaFmt
namespace Rows

/-- THE TOLD AND TIED CARD OF 'n011_151.FnReportExplicitPhaseImportExternalNeverAddsErrors'. -/
def fnReportExplicitPhaseImportExternalNeverAddsErrorsCard : Claim7 := { stood := { row := fnReportExplicitPhaseImportExternalNeverAddsErrorsRow, standIns := [], harness := (true, "1f10f741d272128c93140b5bd85dd654b9c5f0eb302434d5a6ea1dd3e6acea53"), looks := false }, told := true, laidByText := true, laidKinds := [.data, .pinned], laidTests := true, laidLooks := .later, goes := false }
def FnReportExplicitPhaseImportExternalNeverAddsErrorsToldSaid : Prop := Claim7.holds Tryf.pinned (.plain (OpenSpec.ofChange fnReportExplicitPhaseImportExternalNeverAddsErrorsSpec)) fnReportExplicitPhaseImportExternalNeverAddsErrorsCard
/-- ITS FALSE NEIGHBOUR. Refute it at one input. -/
def FnReportExplicitPhaseImportExternalNeverAddsErrorsToldWrongFalsely : Prop := Claim7.holds Tryf.pinned (.plain (OpenSpec.ofChange fnReportExplicitPhaseImportExternalNeverAddsErrorsWrong)) fnReportExplicitPhaseImportExternalNeverAddsErrorsCard
end Rows
end Go.Proofs.YtoailijfbbdapaaFmt
