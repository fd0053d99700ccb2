/-
  DERIVED. GIVEN WITH THE SEED: THE CARDS: each row of YtgdcpladehcegaaDoorRows.lean that lists a variable, with what it lists TIED to the program's text (the seventh form; the later family's looks); each row that meets fmt, with fmt's text TOLD by the authors' own Lean function (tested against real Go, not proved from fmt's source: count such statements apart). THE CARD IS WHAT COUNTS. Prove the row's statement (the work); the ties are given (YtgdcpladehcegaaDoorTie.lean); close each card by the builder's one call (the guide's Derived/Test/ToyasCard.lean, 'card_holds'). Laid BY PROGRAM, IN A SANDBOX (cutbox-door.mjs). By AI agents, Wed Nov 11 2026. No macro, syntax, notation, axiom, sorry.
-/
import Derived.Test.YtgdcpladehcegaaDoorRows
import GoSem.ClaimSeven
namespace Go.Proofs.YtgdcpladehcegaaDoor
namespace Rows

/-- THE TIED CARD OF 'n011_313.FnFreshChunkIsOnlyLineBreaks'. -/
def fnFreshChunkIsOnlyLineBreaksCard : Claim7 := { stood := { row := fnFreshChunkIsOnlyLineBreaksRow, standIns := [], harness := (true, "190939292ed858e844c4e75e0d150a77152623d6fb3837a80aa61b9d91ad0ae8"), looks := false }, kinds := [], alts := [], laidByText := true, laidKinds := [.widerDeep], laidTests := true, laidLooks := .later }
def FnFreshChunkIsOnlyLineBreaksCardSaid : Prop := Claim7.holds Tryd.pinned (.plain (OpenSpec.ofChange fnFreshChunkIsOnlyLineBreaksSpec)) fnFreshChunkIsOnlyLineBreaksCard

/-- THE TIED CARD OF 'n011_313.FnEmptyInputMapEmitsNoSegments'. -/
def fnEmptyInputMapEmitsNoSegmentsCard : Claim7 := { stood := { row := fnEmptyInputMapEmitsNoSegmentsRow, standIns := [], harness := (true, "190939292ed858e844c4e75e0d150a77152623d6fb3837a80aa61b9d91ad0ae8"), looks := false }, kinds := [], alts := [], laidByText := true, laidKinds := [.widerDeep], laidTests := true, laidLooks := .later }
def FnEmptyInputMapEmitsNoSegmentsCardSaid : Prop := Claim7.holds Tryd.pinned (.plain (OpenSpec.ofChange fnEmptyInputMapEmitsNoSegmentsSpec)) fnEmptyInputMapEmitsNoSegmentsCard

/-- THE SECOND FORM's CARD OF 'n011_313.FnFreshChunkIsOnlyLineBreaks'. -/
def fnFreshChunkIsOnlyLineBreaksUptoCard : Claim7 := { stood := { row := fnFreshChunkIsOnlyLineBreaksUptoRow, standIns := [], harness := (true, "190939292ed858e844c4e75e0d150a77152623d6fb3837a80aa61b9d91ad0ae8"), looks := false }, kinds := [], alts := [], laidByText := true, laidKinds := [.widerDeep], laidTests := true, laidLooks := .later }
def FnFreshChunkIsOnlyLineBreaksUptoCardSaid : Prop := Claim7.holds Tryd.pinned (.plain (OpenSpec.upto fnFreshChunkIsOnlyLineBreaksSpec)) fnFreshChunkIsOnlyLineBreaksUptoCard

/-- THE SECOND FORM's CARD OF 'n011_313.FnEmptyInputMapEmitsNoSegments'. -/
def fnEmptyInputMapEmitsNoSegmentsUptoCard : Claim7 := { stood := { row := fnEmptyInputMapEmitsNoSegmentsUptoRow, standIns := [], harness := (true, "190939292ed858e844c4e75e0d150a77152623d6fb3837a80aa61b9d91ad0ae8"), looks := false }, kinds := [], alts := [], laidByText := true, laidKinds := [.widerDeep], laidTests := true, laidLooks := .later }
def FnEmptyInputMapEmitsNoSegmentsUptoCardSaid : Prop := Claim7.holds Tryd.pinned (.plain (OpenSpec.upto fnEmptyInputMapEmitsNoSegmentsSpec)) fnEmptyInputMapEmitsNoSegmentsUptoCard
end Rows
end Go.Proofs.YtgdcpladehcegaaDoor
