/-
  DERIVED. GIVEN WITH THE SEED: THE CARDS: each row of Qxb6606095aDoorRows.lean that lists a variable, with what it lists TIED to the program's text (the seventh form; the later family's looks); each row that meets fmt, with fmt's text TOLD by the authors' own Lean function (tested against real Go, not proved from fmt's source: count such statements apart). THE CARD IS WHAT COUNTS. Prove the row's statement (the work); the ties are given (Qxb6606095aDoorTie.lean); close each card by the builder's one call (the guide's Derived/Test/ToyasCard.lean, 'card_holds'). Laid BY PROGRAM, IN A SANDBOX (cutbox-door.mjs). By AI agents, Wed Nov 11 2026. No macro, syntax, notation, axiom, sorry.
-/
import Derived.Test.Qxb6606095aDoorRows
import GoSem.ClaimSeven
namespace Go.Proofs.Qxb6606095aDoor
namespace Rows

/-- THE TIED CARD OF 'zzlaws_internal_decimal_b1.FnDecimalParseMatchesModel'. -/
def fnDecimalParseMatchesModelCard : Claim7 := { stood := { row := fnDecimalParseMatchesModelRow, standIns := [], harness := (true, "e50fe8c0e3120d1ee1538a888285c247198afa98e246547f3dff56aecc87995a"), looks := true }, kinds := [], alts := [], laidByText := true, laidKinds := [.data, .data, .data, .data, .sentinel, .sentinel, .pinned], laidTests := true, laidLooks := .later }
def FnDecimalParseMatchesModelCardSaid : Prop := Claim7.holds Tryd.pinned (.plain (OpenSpec.ofChange fnDecimalParseMatchesModelSpec)) fnDecimalParseMatchesModelCard

/-- THE TIED CARD OF 'zzlaws_internal_decimal_b1.FnDecimalParseNegation'. -/
def fnDecimalParseNegationCard : Claim7 := { stood := { row := fnDecimalParseNegationRow, standIns := [], harness := (true, "e50fe8c0e3120d1ee1538a888285c247198afa98e246547f3dff56aecc87995a"), looks := true }, kinds := [], alts := [], laidByText := true, laidKinds := [.data, .data, .data, .data, .sentinel, .sentinel, .pinned], laidTests := true, laidLooks := .later }
def FnDecimalParseNegationCardSaid : Prop := Claim7.holds Tryd.pinned (.plain (OpenSpec.ofChange fnDecimalParseNegationSpec)) fnDecimalParseNegationCard

/-- THE TIED CARD OF 'zzlaws_internal_decimal_b1.FnDecimalFloatTextMatchesModel'. -/
def fnDecimalFloatTextMatchesModelCard : Claim7 := { stood := { row := fnDecimalFloatTextMatchesModelRow, standIns := [], harness := (true, "e50fe8c0e3120d1ee1538a888285c247198afa98e246547f3dff56aecc87995a"), looks := true }, kinds := [], alts := [], laidByText := true, laidKinds := [.data, .data, .data], laidTests := true, laidLooks := .later }
def FnDecimalFloatTextMatchesModelCardSaid : Prop := Claim7.holds Tryd.pinned (.plain (OpenSpec.ofChange fnDecimalFloatTextMatchesModelSpec)) fnDecimalFloatTextMatchesModelCard

/-- THE TIED CARD OF 'zzlaws_internal_decimal_b1.FnDecimalFloatTextParseRoundTrip'. -/
def fnDecimalFloatTextParseRoundTripCard : Claim7 := { stood := { row := fnDecimalFloatTextParseRoundTripRow, standIns := [], harness := (true, "e50fe8c0e3120d1ee1538a888285c247198afa98e246547f3dff56aecc87995a"), looks := true }, kinds := [], alts := [], laidByText := true, laidKinds := [.data, .data, .data, .data, .sentinel, .sentinel, .pinned], laidTests := true, laidLooks := .later }
def FnDecimalFloatTextParseRoundTripCardSaid : Prop := Claim7.holds Tryd.pinned (.plain (OpenSpec.ofChange fnDecimalFloatTextParseRoundTripSpec)) fnDecimalFloatTextParseRoundTripCard
end Rows
end Go.Proofs.Qxb6606095aDoor
