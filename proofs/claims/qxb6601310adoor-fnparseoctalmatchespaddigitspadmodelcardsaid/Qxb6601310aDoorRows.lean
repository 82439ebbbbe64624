/-
  NARROWER THAN 'FOR EVERY INPUT', by the rows' own cells (each row's printed sentence says how): FnParseOctalMatchesPadDigitsPadModel: laid · FnParseOctalIgnoresOuterPadding: laid.
  DERIVED. THE GIVEN ROWS OF THIS SEAT. 2 by the template 'for every input the law returns true; each argument reads behind the call as it read before'; 0 by the template 'total and deterministic' (their statements: Qxb6601310aDoorTotals.lean).
  GIVEN WITH THE SEED: the statements are not yours to turn. If you find one false, say at which input.
  Laid BY PROGRAM, IN A SANDBOX (cutbox-rows.mjs): the forced cells as the released guide's own fill.sh prints them over the translation 5076d274ff53948d… (all of the seat's roots in one cut). By AI agents, Wed Nov 11 2026. No macro, syntax, notation, axiom, sorry.
-/
import Derived.Test.Qxb6601310aDoorChecked
import GoSem.PinnedTables
import GoSem.Claim
import GoSem.ClaimJoined
import GoSem.ClaimMapViews
import Derived.JoinedTies
import Derived.KernelRfl
namespace Go.Proofs.Qxb6601310aDoor
/- THE CELL 'sum', in the pinned program and in every row, IS THE sha256 OF THE DUMP (.gsa) THAT Qxb6601310aDoorProg.lean LOADS. Nothing in Lean hashes anything: it is a label: what it is worth is what the hold of that sum in a sandbox is worth. -/
noncomputable def Tryd.pinned : Pinned := { name := "qxb6601310adoor", sum := "5076d274ff53948d6d7a36606817cfff2235823bfd81775d131ad2fa35991652", checked := Tryd.checked }
namespace Rows
def none {H : Type} : Left H := { results := [], args := [] }

/- WHAT THE LISTED PACKAGE-LEVEL VARIABLES READ AS WHEN THE CALL BEGINS. Each datum BY PROGRAM (the guide's laid-datum.mjs) off the statement by which the dump's own 'gosem.cut.vars' lays the variable. In a bare row this is a premise. The card (Qxb6601310aDoorCards.lean) ties it to the program's text. -/
def laid_unicode_utf8_acceptRanges {H : Type} : DataW H := .agg [.agg [.lit (.int .u8 128), .lit (.int .u8 191)], .agg [.lit (.int .u8 160), .lit (.int .u8 191)], .agg [.lit (.int .u8 128), .lit (.int .u8 159)], .agg [.lit (.int .u8 144), .lit (.int .u8 191)], .agg [.lit (.int .u8 128), .lit (.int .u8 143)], .agg [.lit (.int .u8 0), .lit (.int .u8 0)], .agg [.lit (.int .u8 0), .lit (.int .u8 0)], .agg [.lit (.int .u8 0), .lit (.int .u8 0)], .agg [.lit (.int .u8 0), .lit (.int .u8 0)], .agg [.lit (.int .u8 0), .lit (.int .u8 0)], .agg [.lit (.int .u8 0), .lit (.int .u8 0)], .agg [.lit (.int .u8 0), .lit (.int .u8 0)], .agg [.lit (.int .u8 0), .lit (.int .u8 0)], .agg [.lit (.int .u8 0), .lit (.int .u8 0)], .agg [.lit (.int .u8 0), .lit (.int .u8 0)], .agg [.lit (.int .u8 0), .lit (.int .u8 0)]]
/-- One of Go's own tables, pinned by name: the form's constant. -/
def laid_unicode_utf8_first : DataW Unit := Go.Pinned.utf8First

/-- 'zzlaws_internal_tarscan_b1.FnParseOctalMatchesPadDigitsPadModel': WHATEVER THE INPUT: true; the input reads as it did. -/
def fnParseOctalMatchesPadDigitsPadModelSpec : ChangeSpec := { name := "fnParseOctalMatchesPadDigitsPadModel", fn := fun _ => fun
  | [d] => { results := [.lit (.bool true)], args := [d] }
  | _ => none }
def fnParseOctalMatchesPadDigitsPadModelRow : OpenClaim := { program := "qxb6601310adoor", sum := "5076d274ff53948d6d7a36606817cfff2235823bfd81775d131ad2fa35991652", func := "example.com/seamline/seamline/zzlaws_internal_tarscan_b1.FnParseOctalMatchesPadDigitsPadModel", spec := "fnParseOctalMatchesPadDigitsPadModel", named := ["unicode/utf8.first", "unicode/utf8.acceptRanges"], apart := false, laid := [("unicode/utf8.acceptRanges", laid_unicode_utf8_acceptRanges), ("unicode/utf8.first", laid_unicode_utf8_first)] }
def FnParseOctalMatchesPadDigitsPadModelSaid : Prop := fnParseOctalMatchesPadDigitsPadModelRow.holds Tryd.pinned (OpenSpec.ofChange fnParseOctalMatchesPadDigitsPadModelSpec)

/-- ITS FALSE NEIGHBOUR: 'it returns false'. Refute it at one input. -/
def fnParseOctalMatchesPadDigitsPadModelWrong : ChangeSpec := { name := "fnParseOctalMatchesPadDigitsPadModel", fn := fun _ => fun
  | [d] => { results := [.lit (.bool false)], args := [d] }
  | _ => none }
def FnParseOctalMatchesPadDigitsPadModelWrongFalsely : Prop := fnParseOctalMatchesPadDigitsPadModelRow.holds Tryd.pinned (OpenSpec.ofChange fnParseOctalMatchesPadDigitsPadModelWrong)

/-- 'zzlaws_internal_tarscan_b1.FnParseOctalIgnoresOuterPadding': WHATEVER THE INPUT: true; the input reads as it did. -/
def fnParseOctalIgnoresOuterPaddingSpec : ChangeSpec := { name := "fnParseOctalIgnoresOuterPadding", fn := fun _ => fun
  | [d1, d2, d3] => { results := [.lit (.bool true)], args := [d1, d2, d3] }
  | _ => none }
def fnParseOctalIgnoresOuterPaddingRow : OpenClaim := { program := "qxb6601310adoor", sum := "5076d274ff53948d6d7a36606817cfff2235823bfd81775d131ad2fa35991652", func := "example.com/seamline/seamline/zzlaws_internal_tarscan_b1.FnParseOctalIgnoresOuterPadding", spec := "fnParseOctalIgnoresOuterPadding", named := ["unicode/utf8.first", "unicode/utf8.acceptRanges"], apart := false, laid := [("unicode/utf8.acceptRanges", laid_unicode_utf8_acceptRanges), ("unicode/utf8.first", laid_unicode_utf8_first)] }
def FnParseOctalIgnoresOuterPaddingSaid : Prop := fnParseOctalIgnoresOuterPaddingRow.holds Tryd.pinned (OpenSpec.ofChange fnParseOctalIgnoresOuterPaddingSpec)

/-- ITS FALSE NEIGHBOUR: 'it returns false'. Refute it at one input. -/
def fnParseOctalIgnoresOuterPaddingWrong : ChangeSpec := { name := "fnParseOctalIgnoresOuterPadding", fn := fun _ => fun
  | [d1, d2, d3] => { results := [.lit (.bool false)], args := [d1, d2, d3] }
  | _ => none }
def FnParseOctalIgnoresOuterPaddingWrongFalsely : Prop := fnParseOctalIgnoresOuterPaddingRow.holds Tryd.pinned (OpenSpec.ofChange fnParseOctalIgnoresOuterPaddingWrong)

end Rows
end Go.Proofs.Qxb6601310aDoor
