/-
  DERIVED. GIVEN WITH THE SEED: THE CARDS: each row of YtljgaldndgbcjaaDoorRows.lean that lists a variable, with what it lists TIED to the program's text (the seventh form; the later family's looks); each row that meets fmt, with fmt's text TOLD by the authors' own Lean function (tested against real Go, not proved from fmt's source: count such statements apart). THE CARD IS WHAT COUNTS. Prove the row's statement (the work); the ties are given (YtljgaldndgbcjaaDoorTie.lean); close each card by the builder's one call (the guide's Derived/Test/ToyasCard.lean, 'card_holds'). Laid BY PROGRAM, IN A SANDBOX (cutbox-door.mjs). By AI agents, Wed Nov 11 2026. No macro, syntax, notation, axiom, sorry.
-/
import Derived.Test.YtljgaldndgbcjaaDoorRows
import GoSem.ClaimSeven
namespace Go.Proofs.YtljgaldndgbcjaaDoor
namespace Rows

/-- THE TIED CARD OF 'n011_102.FnLenAccumulateSymbolCount'. -/
def fnLenAccumulateSymbolCountCard : Claim7 := { stood := { row := fnLenAccumulateSymbolCountRow, standIns := [], harness := (true, "b688206de9111f7c8e4b64af7793f922d02a379e47a7f56953d14d7f0a75a4de"), looks := false }, kinds := [], alts := [], laidByText := true, laidKinds := [.data], laidTests := true, laidLooks := .later }
def FnLenAccumulateSymbolCountCardSaid : Prop := Claim7.holds Tryd.pinned (.plain (OpenSpec.ofChange fnLenAccumulateSymbolCountSpec)) fnLenAccumulateSymbolCountCard

/-- THE SECOND FORM's CARD OF 'n011_102.FnLenAccumulateSymbolCount'. -/
def fnLenAccumulateSymbolCountUptoCard : Claim7 := { stood := { row := fnLenAccumulateSymbolCountUptoRow, standIns := [], harness := (true, "b688206de9111f7c8e4b64af7793f922d02a379e47a7f56953d14d7f0a75a4de"), looks := false }, kinds := [], alts := [], laidByText := true, laidKinds := [.data], laidTests := true, laidLooks := .later }
def FnLenAccumulateSymbolCountUptoCardSaid : Prop := Claim7.holds Tryd.pinned (.plain (OpenSpec.upto fnLenAccumulateSymbolCountSpec)) fnLenAccumulateSymbolCountUptoCard
end Rows
end Go.Proofs.YtljgaldndgbcjaaDoor
