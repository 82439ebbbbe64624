/-
  DERIVED. GIVEN WITH THE SEED: THE CARDS: each row of Qxb6600692aDoorRows.lean that lists a variable, with what it lists TIED to the program's text (the seventh form; the later family's looks); each row that meets fmt, with fmt's text TOLD by the authors' own Lean function (tested against real Go, not proved from fmt's source: count such statements apart). THE CARD IS WHAT COUNTS. Prove the row's statement (the work); the ties are given (Qxb6600692aDoorTie.lean); close each card by the builder's one call (the guide's Derived/Test/ToyasCard.lean, 'card_holds'). Laid BY PROGRAM, IN A SANDBOX (cutbox-door.mjs). By AI agents, Wed Nov 11 2026. No macro, syntax, notation, axiom, sorry.
-/
import Derived.Test.Qxb6600692aDoorRows
import GoSem.ClaimSeven
namespace Go.Proofs.Qxb6600692aDoor
namespace Rows

/-- THE TIED CARD OF 'zzlaws_pkg_decimal_b1.FnAppendFixedValueUnchangedByZeroPadding'. -/
def fnAppendFixedValueUnchangedByZeroPaddingCard : Claim7 := { stood := { row := fnAppendFixedValueUnchangedByZeroPaddingRow, standIns := [], harness := (true, "485e781b6bcb67914856e027a1ef1178b2e4091d56f8a3137b060ad0d9172d5d"), looks := false }, kinds := [], alts := [], laidByText := true, laidKinds := [.data, .pinned], laidTests := true, laidLooks := .later }
def FnAppendFixedValueUnchangedByZeroPaddingCardSaid : Prop := Claim7.holds Tryd.pinned (.plain (OpenSpec.ofChange fnAppendFixedValueUnchangedByZeroPaddingSpec)) fnAppendFixedValueUnchangedByZeroPaddingCard

/-- THE TIED CARD OF 'zzlaws_pkg_decimal_b1.FnCanonicalMatchesScanModel'. -/
def fnCanonicalMatchesScanModelCard : Claim7 := { stood := { row := fnCanonicalMatchesScanModelRow, standIns := [], harness := (true, "485e781b6bcb67914856e027a1ef1178b2e4091d56f8a3137b060ad0d9172d5d"), looks := false }, kinds := [], alts := [], laidByText := true, laidKinds := [.data, .pinned], laidTests := true, laidLooks := .later }
def FnCanonicalMatchesScanModelCardSaid : Prop := Claim7.holds Tryd.pinned (.plain (OpenSpec.ofChange fnCanonicalMatchesScanModelSpec)) fnCanonicalMatchesScanModelCard

/-- THE TIED CARD OF 'zzlaws_pkg_decimal_b1.FnCanonicalNegationAddsOneMinus'. -/
def fnCanonicalNegationAddsOneMinusCard : Claim7 := { stood := { row := fnCanonicalNegationAddsOneMinusRow, standIns := [], harness := (true, "485e781b6bcb67914856e027a1ef1178b2e4091d56f8a3137b060ad0d9172d5d"), looks := false }, kinds := [], alts := [], laidByText := true, laidKinds := [.data, .pinned], laidTests := true, laidLooks := .later }
def FnCanonicalNegationAddsOneMinusCardSaid : Prop := Claim7.holds Tryd.pinned (.plain (OpenSpec.ofChange fnCanonicalNegationAddsOneMinusSpec)) fnCanonicalNegationAddsOneMinusCard

/-- THE TIED CARD OF 'zzlaws_pkg_decimal_b1.FnCanonicalIdempotentOnDigits'. -/
def fnCanonicalIdempotentOnDigitsCard : Claim7 := { stood := { row := fnCanonicalIdempotentOnDigitsRow, standIns := [], harness := (true, "485e781b6bcb67914856e027a1ef1178b2e4091d56f8a3137b060ad0d9172d5d"), looks := false }, kinds := [], alts := [], laidByText := true, laidKinds := [.data, .pinned], laidTests := true, laidLooks := .later }
def FnCanonicalIdempotentOnDigitsCardSaid : Prop := Claim7.holds Tryd.pinned (.plain (OpenSpec.ofChange fnCanonicalIdempotentOnDigitsSpec)) fnCanonicalIdempotentOnDigitsCard
end Rows
end Go.Proofs.Qxb6600692aDoor
