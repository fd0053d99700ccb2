/-
  DERIVED. GIVEN WITH THE SEED: THE CARDS: each row of YthbmffocgccniaaDoorRows.lean that lists a variable, with what it lists TIED to the program's text (the seventh form; the later family's looks); each row that meets fmt, with fmt's text TOLD by the authors' own Lean function (tested against real Go, not proved from fmt's source: count such statements apart). THE CARD IS WHAT COUNTS. Prove the row's statement (the work); the ties are given (YthbmffocgccniaaDoorTie.lean); close each card by the builder's one call (the guide's Derived/Test/ToyasCard.lean, 'card_holds'). Laid BY PROGRAM, IN A SANDBOX (cutbox-door.mjs). By AI agents, Wed Nov 11 2026. No macro, syntax, notation, axiom, sorry.
-/
import Derived.Test.YthbmffocgccniaaDoorRows
import GoSem.ClaimSeven
namespace Go.Proofs.YthbmffocgccniaaDoor
namespace Rows

/-- THE TIED CARD OF 'n011_2003.FnTop3'. -/
def fnTop3Card : Claim7 := { stood := { row := fnTop3Row, standIns := [], harness := (true, "b1eb08346ced0051212149a5e34a7b01c1ac3571be03ed2d25537f2c7d882fd8"), looks := false }, kinds := [], alts := [], laidByText := true, laidKinds := [.widerDeep], laidTests := true, laidLooks := .later }
def FnTop3CardSaid : Prop := Claim7.holds Tryd.pinned (.plain (OpenSpec.ofChange fnTop3Spec)) fnTop3Card

/-- THE SECOND FORM's CARD OF 'n011_2003.FnTop3'. -/
def fnTop3UptoCard : Claim7 := { stood := { row := fnTop3UptoRow, standIns := [], harness := (true, "b1eb08346ced0051212149a5e34a7b01c1ac3571be03ed2d25537f2c7d882fd8"), looks := false }, kinds := [], alts := [], laidByText := true, laidKinds := [.widerDeep], laidTests := true, laidLooks := .later }
def FnTop3UptoCardSaid : Prop := Claim7.holds Tryd.pinned (.plain (OpenSpec.upto fnTop3Spec)) fnTop3UptoCard
end Rows
end Go.Proofs.YthbmffocgccniaaDoor
