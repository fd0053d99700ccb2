/-
  DERIVED. GIVEN WITH THE SEED: THE CARDS: each row of YtkciffbedngdnaaDoorRows.lean that lists a variable, with what it lists TIED to the program's text (the seventh form; the later family's looks); each row that meets fmt, with fmt's text TOLD by the authors' own Lean function (tested against real Go, not proved from fmt's source: count such statements apart). THE CARD IS WHAT COUNTS. Prove the row's statement (the work); the ties are given (YtkciffbedngdnaaDoorTie.lean); close each card by the builder's one call (the guide's Derived/Test/ToyasCard.lean, 'card_holds'). Laid BY PROGRAM, IN A SANDBOX (cutbox-door.mjs). By AI agents, Wed Nov 11 2026. No macro, syntax, notation, axiom, sorry.
-/
import Derived.Test.YtkciffbedngdnaaDoorRows
import GoSem.ClaimSeven
namespace Go.Proofs.YtkciffbedngdnaaDoor
namespace Rows

/-- THE TIED CARD OF 'n011_23.FnAdvanceBytesMatchesLineModel'. -/
def fnAdvanceBytesMatchesLineModelCard : Claim7 := { stood := { row := fnAdvanceBytesMatchesLineModelRow, standIns := [], harness := (true, "59a6580ba1d0846a128a8e75f5c4b47691ae490bee968c680ded1e483d2b1189"), looks := false }, kinds := [], alts := [], laidByText := true, laidKinds := [.data, .pinned], laidTests := true, laidLooks := .later }
def FnAdvanceBytesMatchesLineModelCardSaid : Prop := Claim7.holds Tryd.pinned (.plain (OpenSpec.ofChange fnAdvanceBytesMatchesLineModelSpec)) fnAdvanceBytesMatchesLineModelCard

/-- THE SECOND FORM's CARD OF 'n011_23.FnAdvanceBytesMatchesLineModel'. -/
def fnAdvanceBytesMatchesLineModelUptoCard : Claim7 := { stood := { row := fnAdvanceBytesMatchesLineModelUptoRow, standIns := [], harness := (true, "59a6580ba1d0846a128a8e75f5c4b47691ae490bee968c680ded1e483d2b1189"), looks := false }, kinds := [], alts := [], laidByText := true, laidKinds := [.data, .pinned], laidTests := true, laidLooks := .later }
def FnAdvanceBytesMatchesLineModelUptoCardSaid : Prop := Claim7.holds Tryd.pinned (.plain (OpenSpec.upto fnAdvanceBytesMatchesLineModelSpec)) fnAdvanceBytesMatchesLineModelUptoCard
end Rows
end Go.Proofs.YtkciffbedngdnaaDoor
