/-
  DERIVED. GIVEN WITH THE SEED: THE CARDS: each row of Qxb6602496aDoorRows.lean that lists a variable, with what it lists TIED to the program's text (the seventh form; the later family's looks); each row that meets fmt, with fmt's text TOLD by the authors' own Lean function (tested against real Go, not proved from fmt's source: count such statements apart). THE CARD IS WHAT COUNTS. Prove the row's statement (the work); the ties are given (Qxb6602496aDoorTie.lean); close each card by the builder's one call (the guide's Derived/Test/ToyasCard.lean, 'card_holds'). Laid BY PROGRAM, IN A SANDBOX (cutbox-door.mjs). By AI agents, Wed Nov 11 2026. No macro, syntax, notation, axiom, sorry.
-/
import Derived.Test.Qxb6602496aDoorRows
import GoSem.ClaimSeven
namespace Go.Proofs.Qxb6602496aDoor
namespace Rows

/-- THE TIED CARD OF 'zzlaws_internal_decimal_b1.FnParseExactPlaceValues'. -/
def fnParseExactPlaceValuesCard : Claim7 := { stood := { row := fnParseExactPlaceValuesRow, standIns := [], harness := (true, "e8440baec2c8e759a21971a539b482c86017f1b8cb7cf80a55e45ce26b04e342"), looks := true }, kinds := [], alts := [], laidByText := true, laidKinds := [.data, .data, .data, .data, .sentinel, .sentinel, .pinned], laidTests := true, laidLooks := .later }
def FnParseExactPlaceValuesCardSaid : Prop := Claim7.holds Tryd.pinned (.plain (OpenSpec.ofChange fnParseExactPlaceValuesSpec)) fnParseExactPlaceValuesCard

/-- THE TIED CARD OF 'zzlaws_internal_decimal_b1.FnParseMinusNegates'. -/
def fnParseMinusNegatesCard : Claim7 := { stood := { row := fnParseMinusNegatesRow, standIns := [], harness := (true, "e8440baec2c8e759a21971a539b482c86017f1b8cb7cf80a55e45ce26b04e342"), looks := true }, kinds := [], alts := [], laidByText := true, laidKinds := [.data, .data, .data, .data, .sentinel, .sentinel, .pinned], laidTests := true, laidLooks := .later }
def FnParseMinusNegatesCardSaid : Prop := Claim7.holds Tryd.pinned (.plain (OpenSpec.ofChange fnParseMinusNegatesSpec)) fnParseMinusNegatesCard

/-- THE TIED CARD OF 'zzlaws_internal_decimal_b1.FnStringParseRoundTrip'. -/
def fnStringParseRoundTripCard : Claim7 := { stood := { row := fnStringParseRoundTripRow, standIns := [], harness := (true, "e8440baec2c8e759a21971a539b482c86017f1b8cb7cf80a55e45ce26b04e342"), looks := true }, kinds := [], alts := [], laidByText := true, laidKinds := [.data, .data, .data, .data, .sentinel, .sentinel, .pinned], laidTests := true, laidLooks := .later }
def FnStringParseRoundTripCardSaid : Prop := Claim7.holds Tryd.pinned (.plain (OpenSpec.ofChange fnStringParseRoundTripSpec)) fnStringParseRoundTripCard

/-- THE TIED CARD OF 'zzlaws_internal_decimal_b1.FnStringInjective'. -/
def fnStringInjectiveCard : Claim7 := { stood := { row := fnStringInjectiveRow, standIns := [], harness := (true, "e8440baec2c8e759a21971a539b482c86017f1b8cb7cf80a55e45ce26b04e342"), looks := true }, kinds := [], alts := [], laidByText := true, laidKinds := [.data, .data, .data], laidTests := true, laidLooks := .later }
def FnStringInjectiveCardSaid : Prop := Claim7.holds Tryd.pinned (.plain (OpenSpec.ofChange fnStringInjectiveSpec)) fnStringInjectiveCard
end Rows
end Go.Proofs.Qxb6602496aDoor
