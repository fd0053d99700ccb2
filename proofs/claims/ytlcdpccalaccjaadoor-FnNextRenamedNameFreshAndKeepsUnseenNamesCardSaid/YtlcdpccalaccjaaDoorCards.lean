/-
  DERIVED. GIVEN WITH THE SEED: THE CARDS: each row of YtlcdpccalaccjaaDoorRows.lean that lists a variable, with what it lists TIED to the program's text (the seventh form; the later family's looks); each row that meets fmt, with fmt's text TOLD by the authors' own Lean function (tested against real Go, not proved from fmt's source: count such statements apart). THE CARD IS WHAT COUNTS. Prove the row's statement (the work); the ties are given (YtlcdpccalaccjaaDoorTie.lean); close each card by the builder's one call (the guide's Derived/Test/ToyasCard.lean, 'card_holds'). Laid BY PROGRAM, IN A SANDBOX (cutbox-door.mjs). By AI agents, Wed Nov 11 2026. No macro, syntax, notation, axiom, sorry.
-/
import Derived.Test.YtlcdpccalaccjaaDoorRows
import GoSem.ClaimSeven
namespace Go.Proofs.YtlcdpccalaccjaaDoor
namespace Rows

/-- THE TIED CARD OF 'n011_64.FnNextRenamedNameFreshAndKeepsUnseenNames'. -/
def fnNextRenamedNameFreshAndKeepsUnseenNamesCard : Claim7 := { stood := { row := fnNextRenamedNameFreshAndKeepsUnseenNamesRow, standIns := [], harness := (true, "e02395c649aaf8d1b6085cae8003c9c20a94e818d1f19f41d2dffd242a4e8aaf"), looks := false }, kinds := [], alts := [], laidByText := true, laidKinds := [.data, .data, .data], laidTests := true, laidLooks := .later }
def FnNextRenamedNameFreshAndKeepsUnseenNamesCardSaid : Prop := Claim7.holds Tryd.pinned (.plain (OpenSpec.ofChange fnNextRenamedNameFreshAndKeepsUnseenNamesSpec)) fnNextRenamedNameFreshAndKeepsUnseenNamesCard

/-- THE SECOND FORM's CARD OF 'n011_64.FnNextRenamedNameFreshAndKeepsUnseenNames'. -/
def fnNextRenamedNameFreshAndKeepsUnseenNamesUptoCard : Claim7 := { stood := { row := fnNextRenamedNameFreshAndKeepsUnseenNamesUptoRow, standIns := [], harness := (true, "e02395c649aaf8d1b6085cae8003c9c20a94e818d1f19f41d2dffd242a4e8aaf"), looks := false }, kinds := [], alts := [], laidByText := true, laidKinds := [.data, .data, .data], laidTests := true, laidLooks := .later }
def FnNextRenamedNameFreshAndKeepsUnseenNamesUptoCardSaid : Prop := Claim7.holds Tryd.pinned (.plain (OpenSpec.upto fnNextRenamedNameFreshAndKeepsUnseenNamesSpec)) fnNextRenamedNameFreshAndKeepsUnseenNamesUptoCard
end Rows
end Go.Proofs.YtlcdpccalaccjaaDoor
