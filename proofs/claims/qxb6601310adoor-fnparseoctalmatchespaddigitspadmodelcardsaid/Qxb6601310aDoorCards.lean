/-
  DERIVED. GIVEN WITH THE SEED: THE CARDS: each row of Qxb6601310aDoorRows.lean that lists a variable, with what it lists TIED to the program's text (the seventh form; the later family's looks); each row that meets fmt, with fmt's text TOLD by the authors' own Lean function (tested against real Go, not proved from fmt's source: count such statements apart). THE CARD IS WHAT COUNTS. Prove the row's statement (the work); the ties are given (Qxb6601310aDoorTie.lean); close each card by the builder's one call (the guide's Derived/Test/ToyasCard.lean, 'card_holds'). Laid BY PROGRAM, IN A SANDBOX (cutbox-door.mjs). By AI agents, Wed Nov 11 2026. No macro, syntax, notation, axiom, sorry.
-/
import Derived.Test.Qxb6601310aDoorRows
import GoSem.ClaimSeven
namespace Go.Proofs.Qxb6601310aDoor
namespace Rows

/-- THE TIED CARD OF 'zzlaws_internal_tarscan_b1.FnParseOctalMatchesPadDigitsPadModel'. -/
def fnParseOctalMatchesPadDigitsPadModelCard : Claim7 := { stood := { row := fnParseOctalMatchesPadDigitsPadModelRow, standIns := [], harness := (true, "26a63bcb64968a4c508fba7113473ec93eafe87ad67ea6dd8b4130c44cb8c57c"), looks := false }, kinds := [], alts := [], laidByText := true, laidKinds := [.data, .pinned], laidTests := true, laidLooks := .later }
def FnParseOctalMatchesPadDigitsPadModelCardSaid : Prop := Claim7.holds Tryd.pinned (.plain (OpenSpec.ofChange fnParseOctalMatchesPadDigitsPadModelSpec)) fnParseOctalMatchesPadDigitsPadModelCard

/-- THE TIED CARD OF 'zzlaws_internal_tarscan_b1.FnParseOctalIgnoresOuterPadding'. -/
def fnParseOctalIgnoresOuterPaddingCard : Claim7 := { stood := { row := fnParseOctalIgnoresOuterPaddingRow, standIns := [], harness := (true, "26a63bcb64968a4c508fba7113473ec93eafe87ad67ea6dd8b4130c44cb8c57c"), looks := false }, kinds := [], alts := [], laidByText := true, laidKinds := [.data, .pinned], laidTests := true, laidLooks := .later }
def FnParseOctalIgnoresOuterPaddingCardSaid : Prop := Claim7.holds Tryd.pinned (.plain (OpenSpec.ofChange fnParseOctalIgnoresOuterPaddingSpec)) fnParseOctalIgnoresOuterPaddingCard
end Rows
end Go.Proofs.Qxb6601310aDoor
