/-
  DERIVED. GIVEN WITH THE SEED: THE CARDS: each row of Qxb6600831aDoorRows.lean that lists a variable, with what it lists TIED to the program's text (the seventh form; the later family's looks); each row that meets fmt, with fmt's text TOLD by the authors' own Lean function (tested against real Go, not proved from fmt's source: count such statements apart). THE CARD IS WHAT COUNTS. Prove the row's statement (the work); the ties are given (Qxb6600831aDoorTie.lean); close each card by the builder's one call (the guide's Derived/Test/ToyasCard.lean, 'card_holds'). Laid BY PROGRAM, IN A SANDBOX (cutbox-door.mjs). By AI agents, Wed Nov 11 2026. No macro, syntax, notation, axiom, sorry.
-/
import Derived.Test.Qxb6600831aDoorRows
import GoSem.ClaimSeven
namespace Go.Proofs.Qxb6600831aDoor
namespace Rows

/-- THE TIED CARD OF 'zzlaws_root_b1.FnHeaderNameExact'. -/
def fnHeaderNameExactCard : Claim7 := { stood := { row := fnHeaderNameExactRow, standIns := [], harness := (true, "94a86eae0c728c50670cab4894d92c9143ab1620c6f063a9d3c41f2333c809e6"), looks := false }, kinds := [], alts := [], laidByText := true, laidKinds := [.data, .pinned], laidTests := true, laidLooks := .later }
def FnHeaderNameExactCardSaid : Prop := Claim7.holds Tryd.pinned (.plain (OpenSpec.ofChange fnHeaderNameExactSpec)) fnHeaderNameExactCard

/-- THE TIED CARD OF 'zzlaws_root_b1.FnHeaderNameReadsEscapedSubsection'. -/
def fnHeaderNameReadsEscapedSubsectionCard : Claim7 := { stood := { row := fnHeaderNameReadsEscapedSubsectionRow, standIns := [], harness := (true, "94a86eae0c728c50670cab4894d92c9143ab1620c6f063a9d3c41f2333c809e6"), looks := false }, kinds := [], alts := [], laidByText := true, laidKinds := [.data, .pinned], laidTests := true, laidLooks := .later }
def FnHeaderNameReadsEscapedSubsectionCardSaid : Prop := Claim7.holds Tryd.pinned (.plain (OpenSpec.ofChange fnHeaderNameReadsEscapedSubsectionSpec)) fnHeaderNameReadsEscapedSubsectionCard

/-- THE TIED CARD OF 'zzlaws_root_b1.FnHeaderNameShrinksAndSettles'. -/
def fnHeaderNameShrinksAndSettlesCard : Claim7 := { stood := { row := fnHeaderNameShrinksAndSettlesRow, standIns := [], harness := (true, "94a86eae0c728c50670cab4894d92c9143ab1620c6f063a9d3c41f2333c809e6"), looks := false }, kinds := [], alts := [], laidByText := true, laidKinds := [.data, .pinned], laidTests := true, laidLooks := .later }
def FnHeaderNameShrinksAndSettlesCardSaid : Prop := Claim7.holds Tryd.pinned (.plain (OpenSpec.ofChange fnHeaderNameShrinksAndSettlesSpec)) fnHeaderNameShrinksAndSettlesCard
end Rows
end Go.Proofs.Qxb6600831aDoor
