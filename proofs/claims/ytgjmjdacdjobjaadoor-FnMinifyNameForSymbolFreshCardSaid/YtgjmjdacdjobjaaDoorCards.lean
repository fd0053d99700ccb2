/-
  DERIVED. GIVEN WITH THE SEED: THE CARDS: each row of YtgjmjdacdjobjaaDoorRows.lean that lists a variable, with what it lists TIED to the program's text (the seventh form; the later family's looks); each row that meets fmt, with fmt's text TOLD by the authors' own Lean function (tested against real Go, not proved from fmt's source: count such statements apart). THE CARD IS WHAT COUNTS. Prove the row's statement (the work); the ties are given (YtgjmjdacdjobjaaDoorTie.lean); close each card by the builder's one call (the guide's Derived/Test/ToyasCard.lean, 'card_holds'). Laid BY PROGRAM, IN A SANDBOX (cutbox-door.mjs). By AI agents, Wed Nov 11 2026. No macro, syntax, notation, axiom, sorry.
-/
import Derived.Test.YtgjmjdacdjobjaaDoorRows
import GoSem.ClaimSeven
namespace Go.Proofs.YtgjmjdacdjobjaaDoor
namespace Rows

/-- THE TIED CARD OF 'n011_102.FnMinifyNameForSymbolFresh'. -/
def fnMinifyNameForSymbolFreshCard : Claim7 := { stood := { row := fnMinifyNameForSymbolFreshRow, standIns := [], harness := (true, "6fc171e980c32729864eaae8201d410de18b653ea2a66520f0911fb8f4041901"), looks := false }, kinds := [], alts := [], laidByText := true, laidKinds := [.data], laidTests := true, laidLooks := .later }
def FnMinifyNameForSymbolFreshCardSaid : Prop := Claim7.holds Tryd.pinned (.plain (OpenSpec.ofChange fnMinifyNameForSymbolFreshSpec)) fnMinifyNameForSymbolFreshCard

/-- THE SECOND FORM's CARD OF 'n011_102.FnMinifyNameForSymbolFresh'. -/
def fnMinifyNameForSymbolFreshUptoCard : Claim7 := { stood := { row := fnMinifyNameForSymbolFreshUptoRow, standIns := [], harness := (true, "6fc171e980c32729864eaae8201d410de18b653ea2a66520f0911fb8f4041901"), looks := false }, kinds := [], alts := [], laidByText := true, laidKinds := [.data], laidTests := true, laidLooks := .later }
def FnMinifyNameForSymbolFreshUptoCardSaid : Prop := Claim7.holds Tryd.pinned (.plain (OpenSpec.upto fnMinifyNameForSymbolFreshSpec)) fnMinifyNameForSymbolFreshUptoCard
end Rows
end Go.Proofs.YtgjmjdacdjobjaaDoor
