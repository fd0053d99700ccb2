/-
  DERIVED. GIVEN WITH THE SEED: THE CARDS: each row of YtmnijgjadlfaaaaDoorRows.lean that lists a variable, with what it lists TIED to the program's text (the seventh form; the later family's looks); each row that meets fmt, with fmt's text TOLD by the authors' own Lean function (tested against real Go, not proved from fmt's source: count such statements apart). THE CARD IS WHAT COUNTS. Prove the row's statement (the work); the ties are given (YtmnijgjadlfaaaaDoorTie.lean); close each card by the builder's one call (the guide's Derived/Test/ToyasCard.lean, 'card_holds'). Laid BY PROGRAM, IN A SANDBOX (cutbox-door.mjs). By AI agents, Wed Nov 11 2026. No macro, syntax, notation, axiom, sorry.
-/
import Derived.Test.YtmnijgjadlfaaaaDoorRows
import GoSem.ClaimSeven
namespace Go.Proofs.YtmnijgjadlfaaaaDoor
namespace Rows

/-- THE TIED CARD OF 'n011_29.FnNumberRenamerFreshKeepsOriginalNames'. -/
def fnNumberRenamerFreshKeepsOriginalNamesCard : Claim7 := { stood := { row := fnNumberRenamerFreshKeepsOriginalNamesRow, standIns := [], harness := (true, "47a94166668715c549b2f44e931c091203db12c0b29e38e4943cc65de94bd5aa"), looks := false }, kinds := [], alts := [], laidByText := true, laidKinds := [.data], laidTests := true, laidLooks := .later }
def FnNumberRenamerFreshKeepsOriginalNamesCardSaid : Prop := Claim7.holds Tryd.pinned (.plain (OpenSpec.ofChange fnNumberRenamerFreshKeepsOriginalNamesSpec)) fnNumberRenamerFreshKeepsOriginalNamesCard

/-- THE TIED CARD OF 'n011_29.FnNameForSymbolFollowsLinks'. -/
def fnNameForSymbolFollowsLinksCard : Claim7 := { stood := { row := fnNameForSymbolFollowsLinksRow, standIns := [], harness := (true, "47a94166668715c549b2f44e931c091203db12c0b29e38e4943cc65de94bd5aa"), looks := false }, kinds := [], alts := [], laidByText := true, laidKinds := [.data], laidTests := true, laidLooks := .later }
def FnNameForSymbolFollowsLinksCardSaid : Prop := Claim7.holds Tryd.pinned (.plain (OpenSpec.ofChange fnNameForSymbolFollowsLinksSpec)) fnNameForSymbolFollowsLinksCard

/-- THE SECOND FORM's CARD OF 'n011_29.FnNumberRenamerFreshKeepsOriginalNames'. -/
def fnNumberRenamerFreshKeepsOriginalNamesUptoCard : Claim7 := { stood := { row := fnNumberRenamerFreshKeepsOriginalNamesUptoRow, standIns := [], harness := (true, "47a94166668715c549b2f44e931c091203db12c0b29e38e4943cc65de94bd5aa"), looks := false }, kinds := [], alts := [], laidByText := true, laidKinds := [.data], laidTests := true, laidLooks := .later }
def FnNumberRenamerFreshKeepsOriginalNamesUptoCardSaid : Prop := Claim7.holds Tryd.pinned (.plain (OpenSpec.upto fnNumberRenamerFreshKeepsOriginalNamesSpec)) fnNumberRenamerFreshKeepsOriginalNamesUptoCard

/-- THE SECOND FORM's CARD OF 'n011_29.FnNameForSymbolFollowsLinks'. -/
def fnNameForSymbolFollowsLinksUptoCard : Claim7 := { stood := { row := fnNameForSymbolFollowsLinksUptoRow, standIns := [], harness := (true, "47a94166668715c549b2f44e931c091203db12c0b29e38e4943cc65de94bd5aa"), looks := false }, kinds := [], alts := [], laidByText := true, laidKinds := [.data], laidTests := true, laidLooks := .later }
def FnNameForSymbolFollowsLinksUptoCardSaid : Prop := Claim7.holds Tryd.pinned (.plain (OpenSpec.upto fnNameForSymbolFollowsLinksSpec)) fnNameForSymbolFollowsLinksUptoCard
end Rows
end Go.Proofs.YtmnijgjadlfaaaaDoor
