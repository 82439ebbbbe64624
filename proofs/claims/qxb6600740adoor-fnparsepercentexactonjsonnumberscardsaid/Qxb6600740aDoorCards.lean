/-
  DERIVED. GIVEN WITH THE SEED: THE CARDS: each row of Qxb6600740aDoorRows.lean that lists a variable, with what it lists TIED to the program's text (the seventh form; the later family's looks); each row that meets fmt, with fmt's text TOLD by the authors' own Lean function (tested against real Go, not proved from fmt's source: count such statements apart). THE CARD IS WHAT COUNTS. Prove the row's statement (the work); the ties are given (Qxb6600740aDoorTie.lean); close each card by the builder's one call (the guide's Derived/Test/ToyasCard.lean, 'card_holds'). Laid BY PROGRAM, IN A SANDBOX (cutbox-door.mjs). By AI agents, Wed Nov 11 2026. No macro, syntax, notation, axiom, sorry.
-/
import Derived.Test.Qxb6600740aDoorRows
import GoSem.ClaimSeven
namespace Go.Proofs.Qxb6600740aDoor
namespace Rows

/-- THE TIED CARD OF 'zzlaws_flags_b1.FnParsePercentExactOnJSONNumbers'. -/
def fnParsePercentExactOnJSONNumbersCard : Claim7 := { stood := { row := fnParsePercentExactOnJSONNumbersRow, standIns := [], harness := (true, "5597ff972c0149e881e6f6ea0d8fc080ce069d98dc1f0a2aa5c15d4daf47a69c"), looks := true }, kinds := [], alts := [], laidByText := true, laidKinds := [.data, .data, .data, .data, .sentinel, .sentinel, .pinned], laidTests := true, laidLooks := .later }
def FnParsePercentExactOnJSONNumbersCardSaid : Prop := Claim7.holds Tryd.pinned (.plain (OpenSpec.ofChange fnParsePercentExactOnJSONNumbersSpec)) fnParsePercentExactOnJSONNumbersCard

/-- THE TIED CARD OF 'zzlaws_flags_b1.FnParsePercentRoundTrip'. -/
def fnParsePercentRoundTripCard : Claim7 := { stood := { row := fnParsePercentRoundTripRow, standIns := [], harness := (true, "5597ff972c0149e881e6f6ea0d8fc080ce069d98dc1f0a2aa5c15d4daf47a69c"), looks := true }, kinds := [], alts := [], laidByText := true, laidKinds := [.data, .data, .data, .data, .sentinel, .sentinel, .pinned], laidTests := true, laidLooks := .later }
def FnParsePercentRoundTripCardSaid : Prop := Claim7.holds Tryd.pinned (.plain (OpenSpec.ofChange fnParsePercentRoundTripSpec)) fnParsePercentRoundTripCard

/-- THE TIED CARD OF 'zzlaws_flags_b1.FnParsePercentMinusTable'. -/
def fnParsePercentMinusTableCard : Claim7 := { stood := { row := fnParsePercentMinusTableRow, standIns := [], harness := (true, "5597ff972c0149e881e6f6ea0d8fc080ce069d98dc1f0a2aa5c15d4daf47a69c"), looks := true }, kinds := [], alts := [], laidByText := true, laidKinds := [.data, .data, .data, .data, .sentinel, .sentinel, .pinned], laidTests := true, laidLooks := .later }
def FnParsePercentMinusTableCardSaid : Prop := Claim7.holds Tryd.pinned (.plain (OpenSpec.ofChange fnParsePercentMinusTableSpec)) fnParsePercentMinusTableCard
end Rows
end Go.Proofs.Qxb6600740aDoor
