/-
  DERIVED. GIVEN WITH THE SEED: THE CARDS: each row of YtanhijhhceakjaaDoorRows.lean that lists a variable, with what it lists TIED to the program's text (the seventh form; the later family's looks); each row that meets fmt, with fmt's text TOLD by the authors' own Lean function (tested against real Go, not proved from fmt's source: count such statements apart). THE CARD IS WHAT COUNTS. Prove the row's statement (the work); the ties are given (YtanhijhhceakjaaDoorTie.lean); close each card by the builder's one call (the guide's Derived/Test/ToyasCard.lean, 'card_holds'). Laid BY PROGRAM, IN A SANDBOX (cutbox-door.mjs). By AI agents, Wed Nov 11 2026. No macro, syntax, notation, axiom, sorry.
-/
import Derived.Test.YtanhijhhceakjaaDoorRows
import GoSem.ClaimSeven
namespace Go.Proofs.YtanhijhhceakjaaDoor
namespace Rows

/-- THE TIED CARD OF 'n011_122.FnCompareSemverSignMatchesModel'. -/
def fnCompareSemverSignMatchesModelCard : Claim7 := { stood := { row := fnCompareSemverSignMatchesModelRow, standIns := [], harness := (true, "6abbca41a0b07024ba5ab02b48702f68f2ab04d9e0e57b66a6fc50731b6052ac"), looks := true }, kinds := [], alts := [], laidByText := true, laidKinds := [.data, .data, .data, .sentinel, .sentinel], laidTests := true, laidLooks := .later }
def FnCompareSemverSignMatchesModelCardSaid : Prop := Claim7.holds Tryd.pinned (.plain (OpenSpec.ofChange fnCompareSemverSignMatchesModelSpec)) fnCompareSemverSignMatchesModelCard

/-- THE TIED CARD OF 'n011_122.FnCompareSemverAntisymmetricAndReflexive'. -/
def fnCompareSemverAntisymmetricAndReflexiveCard : Claim7 := { stood := { row := fnCompareSemverAntisymmetricAndReflexiveRow, standIns := [], harness := (true, "6abbca41a0b07024ba5ab02b48702f68f2ab04d9e0e57b66a6fc50731b6052ac"), looks := true }, kinds := [], alts := [], laidByText := true, laidKinds := [.data, .data, .data, .sentinel, .sentinel], laidTests := true, laidLooks := .later }
def FnCompareSemverAntisymmetricAndReflexiveCardSaid : Prop := Claim7.holds Tryd.pinned (.plain (OpenSpec.ofChange fnCompareSemverAntisymmetricAndReflexiveSpec)) fnCompareSemverAntisymmetricAndReflexiveCard

/-- THE TIED CARD OF 'n011_156.FnPreReleasePartToNumberZeroPaddedRoundTrip'. -/
def fnPreReleasePartToNumberZeroPaddedRoundTripCard : Claim7 := { stood := { row := fnPreReleasePartToNumberZeroPaddedRoundTripRow, standIns := [], harness := (true, "6abbca41a0b07024ba5ab02b48702f68f2ab04d9e0e57b66a6fc50731b6052ac"), looks := true }, kinds := [], alts := [], laidByText := true, laidKinds := [.data, .data, .data, .sentinel, .sentinel], laidTests := true, laidLooks := .later }
def FnPreReleasePartToNumberZeroPaddedRoundTripCardSaid : Prop := Claim7.holds Tryd.pinned (.plain (OpenSpec.ofChange fnPreReleasePartToNumberZeroPaddedRoundTripSpec)) fnPreReleasePartToNumberZeroPaddedRoundTripCard

/-- THE TIED CARD OF 'n011_156.FnPreReleasePartToNumberSpec'. -/
def fnPreReleasePartToNumberSpecCard : Claim7 := { stood := { row := fnPreReleasePartToNumberSpecRow, standIns := [], harness := (true, "6abbca41a0b07024ba5ab02b48702f68f2ab04d9e0e57b66a6fc50731b6052ac"), looks := true }, kinds := [], alts := [], laidByText := true, laidKinds := [.data, .data, .data, .sentinel, .sentinel], laidTests := true, laidLooks := .later }
def FnPreReleasePartToNumberSpecCardSaid : Prop := Claim7.holds Tryd.pinned (.plain (OpenSpec.ofChange fnPreReleasePartToNumberSpecSpec)) fnPreReleasePartToNumberSpecCard

/-- THE SECOND FORM's CARD OF 'n011_122.FnCompareSemverSignMatchesModel'. -/
def fnCompareSemverSignMatchesModelUptoCard : Claim7 := { stood := { row := fnCompareSemverSignMatchesModelUptoRow, standIns := [], harness := (true, "6abbca41a0b07024ba5ab02b48702f68f2ab04d9e0e57b66a6fc50731b6052ac"), looks := true }, kinds := [], alts := [], laidByText := true, laidKinds := [.data, .data, .data, .sentinel, .sentinel], laidTests := true, laidLooks := .later }
def FnCompareSemverSignMatchesModelUptoCardSaid : Prop := Claim7.holds Tryd.pinned (.plain (OpenSpec.upto fnCompareSemverSignMatchesModelSpec)) fnCompareSemverSignMatchesModelUptoCard

/-- THE SECOND FORM's CARD OF 'n011_122.FnCompareSemverAntisymmetricAndReflexive'. -/
def fnCompareSemverAntisymmetricAndReflexiveUptoCard : Claim7 := { stood := { row := fnCompareSemverAntisymmetricAndReflexiveUptoRow, standIns := [], harness := (true, "6abbca41a0b07024ba5ab02b48702f68f2ab04d9e0e57b66a6fc50731b6052ac"), looks := true }, kinds := [], alts := [], laidByText := true, laidKinds := [.data, .data, .data, .sentinel, .sentinel], laidTests := true, laidLooks := .later }
def FnCompareSemverAntisymmetricAndReflexiveUptoCardSaid : Prop := Claim7.holds Tryd.pinned (.plain (OpenSpec.upto fnCompareSemverAntisymmetricAndReflexiveSpec)) fnCompareSemverAntisymmetricAndReflexiveUptoCard

/-- THE SECOND FORM's CARD OF 'n011_156.FnPreReleasePartToNumberZeroPaddedRoundTrip'. -/
def fnPreReleasePartToNumberZeroPaddedRoundTripUptoCard : Claim7 := { stood := { row := fnPreReleasePartToNumberZeroPaddedRoundTripUptoRow, standIns := [], harness := (true, "6abbca41a0b07024ba5ab02b48702f68f2ab04d9e0e57b66a6fc50731b6052ac"), looks := true }, kinds := [], alts := [], laidByText := true, laidKinds := [.data, .data, .data, .sentinel, .sentinel], laidTests := true, laidLooks := .later }
def FnPreReleasePartToNumberZeroPaddedRoundTripUptoCardSaid : Prop := Claim7.holds Tryd.pinned (.plain (OpenSpec.upto fnPreReleasePartToNumberZeroPaddedRoundTripSpec)) fnPreReleasePartToNumberZeroPaddedRoundTripUptoCard

/-- THE SECOND FORM's CARD OF 'n011_156.FnPreReleasePartToNumberSpec'. -/
def fnPreReleasePartToNumberSpecUptoCard : Claim7 := { stood := { row := fnPreReleasePartToNumberSpecUptoRow, standIns := [], harness := (true, "6abbca41a0b07024ba5ab02b48702f68f2ab04d9e0e57b66a6fc50731b6052ac"), looks := true }, kinds := [], alts := [], laidByText := true, laidKinds := [.data, .data, .data, .sentinel, .sentinel], laidTests := true, laidLooks := .later }
def FnPreReleasePartToNumberSpecUptoCardSaid : Prop := Claim7.holds Tryd.pinned (.plain (OpenSpec.upto fnPreReleasePartToNumberSpecSpec)) fnPreReleasePartToNumberSpecUptoCard
end Rows
end Go.Proofs.YtanhijhhceakjaaDoor
