/-
  DERIVED. GIVEN WITH THE SEED: THE CARDS: each row of YtailhcimbpejpaaDoorRows.lean that lists a variable, with what it lists TIED to the program's text (the seventh form; the later family's looks); each row that meets fmt, with fmt's text TOLD by the authors' own Lean function (tested against real Go, not proved from fmt's source: count such statements apart). THE CARD IS WHAT COUNTS. Prove the row's statement (the work); the ties are given (YtailhcimbpejpaaDoorTie.lean); close each card by the builder's one call (the guide's Derived/Test/ToyasCard.lean, 'card_holds'). Laid BY PROGRAM, IN A SANDBOX (cutbox-door.mjs). By AI agents, Wed Nov 11 2026. No macro, syntax, notation, axiom, sorry.
-/
import Derived.Test.YtailhcimbpejpaaDoorRows
import GoSem.ClaimSeven
namespace Go.Proofs.YtailhcimbpejpaaDoor
namespace Rows

/-- THE TIED CARD OF 'n011_165.FnMultiLineCommaPeriodIgnoresCaseAndOrder'. -/
def fnMultiLineCommaPeriodIgnoresCaseAndOrderCard : Claim7 := { stood := { row := fnMultiLineCommaPeriodIgnoresCaseAndOrderRow, standIns := [], harness := (true, "b2cced5a10a3273618a8401ff5ec7b05d509b6f0e396e3dddba702cecc6c128f"), looks := false }, kinds := [], alts := [], laidByText := true, laidKinds := [.data, .pinned, .pinned], laidTests := true, laidLooks := .later }
def FnMultiLineCommaPeriodIgnoresCaseAndOrderCardSaid : Prop := Claim7.holds Tryd.pinned (.plain (OpenSpec.ofChange fnMultiLineCommaPeriodIgnoresCaseAndOrderSpec)) fnMultiLineCommaPeriodIgnoresCaseAndOrderCard

/-- THE SECOND FORM's CARD OF 'n011_165.FnMultiLineCommaPeriodIgnoresCaseAndOrder'. -/
def fnMultiLineCommaPeriodIgnoresCaseAndOrderUptoCard : Claim7 := { stood := { row := fnMultiLineCommaPeriodIgnoresCaseAndOrderUptoRow, standIns := [], harness := (true, "b2cced5a10a3273618a8401ff5ec7b05d509b6f0e396e3dddba702cecc6c128f"), looks := false }, kinds := [], alts := [], laidByText := true, laidKinds := [.data, .pinned, .pinned], laidTests := true, laidLooks := .later }
def FnMultiLineCommaPeriodIgnoresCaseAndOrderUptoCardSaid : Prop := Claim7.holds Tryd.pinned (.plain (OpenSpec.upto fnMultiLineCommaPeriodIgnoresCaseAndOrderSpec)) fnMultiLineCommaPeriodIgnoresCaseAndOrderUptoCard
end Rows
end Go.Proofs.YtailhcimbpejpaaDoor
