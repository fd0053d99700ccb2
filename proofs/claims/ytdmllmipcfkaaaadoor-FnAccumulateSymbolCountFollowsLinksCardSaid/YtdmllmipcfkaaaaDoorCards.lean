/-
  DERIVED. GIVEN WITH THE SEED: THE CARDS: each row of YtdmllmipcfkaaaaDoorRows.lean that lists a variable, with what it lists TIED to the program's text (the seventh form; the later family's looks); each row that meets fmt, with fmt's text TOLD by the authors' own Lean function (tested against real Go, not proved from fmt's source: count such statements apart). THE CARD IS WHAT COUNTS. Prove the row's statement (the work); the ties are given (YtdmllmipcfkaaaaDoorTie.lean); close each card by the builder's one call (the guide's Derived/Test/ToyasCard.lean, 'card_holds'). Laid BY PROGRAM, IN A SANDBOX (cutbox-door.mjs). By AI agents, Wed Nov 11 2026. No macro, syntax, notation, axiom, sorry.
-/
import Derived.Test.YtdmllmipcfkaaaaDoorRows
import GoSem.ClaimSeven
namespace Go.Proofs.YtdmllmipcfkaaaaDoor
namespace Rows

/-- THE TIED CARD OF 'n011_287.FnAccumulateSymbolCountFollowsLinks'. -/
def fnAccumulateSymbolCountFollowsLinksCard : Claim7 := { stood := { row := fnAccumulateSymbolCountFollowsLinksRow, standIns := [], harness := (true, "c9ca8f2dd0a97f03a802609dc3903f29e08b8f42ac7f88de76005445ab29dc76"), looks := false }, kinds := [], alts := [], laidByText := true, laidKinds := [.data], laidTests := true, laidLooks := .later }
def FnAccumulateSymbolCountFollowsLinksCardSaid : Prop := Claim7.holds Tryd.pinned (.plain (OpenSpec.ofChange fnAccumulateSymbolCountFollowsLinksSpec)) fnAccumulateSymbolCountFollowsLinksCard

/-- THE SECOND FORM's CARD OF 'n011_287.FnAccumulateSymbolCountFollowsLinks'. -/
def fnAccumulateSymbolCountFollowsLinksUptoCard : Claim7 := { stood := { row := fnAccumulateSymbolCountFollowsLinksUptoRow, standIns := [], harness := (true, "c9ca8f2dd0a97f03a802609dc3903f29e08b8f42ac7f88de76005445ab29dc76"), looks := false }, kinds := [], alts := [], laidByText := true, laidKinds := [.data], laidTests := true, laidLooks := .later }
def FnAccumulateSymbolCountFollowsLinksUptoCardSaid : Prop := Claim7.holds Tryd.pinned (.plain (OpenSpec.upto fnAccumulateSymbolCountFollowsLinksSpec)) fnAccumulateSymbolCountFollowsLinksUptoCard
end Rows
end Go.Proofs.YtdmllmipcfkaaaaDoor
