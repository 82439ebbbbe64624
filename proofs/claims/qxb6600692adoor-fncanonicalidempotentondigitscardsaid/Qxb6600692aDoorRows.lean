/-
  NARROWER THAN 'FOR EVERY INPUT', by the rows' own cells (each row's printed sentence says how): FnAppendFixedValueUnchangedByZeroPadding: laid · FnCanonicalMatchesScanModel: laid · FnCanonicalNegationAddsOneMinus: laid · FnCanonicalIdempotentOnDigits: laid.
  DERIVED. THE GIVEN ROWS OF THIS SEAT. 4 by the template 'for every input the law returns true; each argument reads behind the call as it read before'; 0 by the template 'total and deterministic' (their statements: Qxb6600692aDoorTotals.lean).
  GIVEN WITH THE SEED: the statements are not yours to turn. If you find one false, say at which input.
  Laid BY PROGRAM, IN A SANDBOX (cutbox-rows.mjs): the forced cells as the released guide's own fill.sh prints them over the translation c4c4b3777baedaf0… (all of the seat's roots in one cut). By AI agents, Wed Nov 11 2026. No macro, syntax, notation, axiom, sorry.
-/
import Derived.Test.Qxb6600692aDoorChecked
import GoSem.PinnedTables
import GoSem.Claim
import GoSem.ClaimJoined
import GoSem.ClaimMapViews
import Derived.JoinedTies
import Derived.KernelRfl
namespace Go.Proofs.Qxb6600692aDoor
/- THE CELL 'sum', in the pinned program and in every row, IS THE sha256 OF THE DUMP (.gsa) THAT Qxb6600692aDoorProg.lean LOADS. Nothing in Lean hashes anything: it is a label: what it is worth is what the hold of that sum in a sandbox is worth. -/
noncomputable def Tryd.pinned : Pinned := { name := "qxb6600692adoor", sum := "c4c4b3777baedaf09fdaf5fdd677a2849bbc272a11deaaa674f88c3736652371", checked := Tryd.checked }
namespace Rows
def none {H : Type} : Left H := { results := [], args := [] }

/- WHAT THE LISTED PACKAGE-LEVEL VARIABLES READ AS WHEN THE CALL BEGINS. Each datum BY PROGRAM (the guide's laid-datum.mjs) off the statement by which the dump's own 'gosem.cut.vars' lays the variable. In a bare row this is a premise. The card (Qxb6600692aDoorCards.lean) ties it to the program's text. -/
def laid_unicode_utf8_acceptRanges {H : Type} : DataW H := .agg [.agg [.lit (.int .u8 128), .lit (.int .u8 191)], .agg [.lit (.int .u8 160), .lit (.int .u8 191)], .agg [.lit (.int .u8 128), .lit (.int .u8 159)], .agg [.lit (.int .u8 144), .lit (.int .u8 191)], .agg [.lit (.int .u8 128), .lit (.int .u8 143)], .agg [.lit (.int .u8 0), .lit (.int .u8 0)], .agg [.lit (.int .u8 0), .lit (.int .u8 0)], .agg [.lit (.int .u8 0), .lit (.int .u8 0)], .agg [.lit (.int .u8 0), .lit (.int .u8 0)], .agg [.lit (.int .u8 0), .lit (.int .u8 0)], .agg [.lit (.int .u8 0), .lit (.int .u8 0)], .agg [.lit (.int .u8 0), .lit (.int .u8 0)], .agg [.lit (.int .u8 0), .lit (.int .u8 0)], .agg [.lit (.int .u8 0), .lit (.int .u8 0)], .agg [.lit (.int .u8 0), .lit (.int .u8 0)], .agg [.lit (.int .u8 0), .lit (.int .u8 0)]]
/-- One of Go's own tables, pinned by name: the form's constant. -/
def laid_unicode_utf8_first : DataW Unit := Go.Pinned.utf8First

/-- 'zzlaws_pkg_decimal_b1.FnAppendFixedValueUnchangedByZeroPadding': WHATEVER THE INPUT: true; the input reads as it did. -/
def fnAppendFixedValueUnchangedByZeroPaddingSpec : ChangeSpec := { name := "fnAppendFixedValueUnchangedByZeroPadding", fn := fun _ => fun
  | [d1, d2, d3] => { results := [.lit (.bool true)], args := [d1, d2, d3] }
  | _ => none }
def fnAppendFixedValueUnchangedByZeroPaddingRow : OpenClaim := { program := "qxb6600692adoor", sum := "c4c4b3777baedaf09fdaf5fdd677a2849bbc272a11deaaa674f88c3736652371", func := "example.com/vestwright/vestwright/zzlaws_pkg_decimal_b1.FnAppendFixedValueUnchangedByZeroPadding", spec := "fnAppendFixedValueUnchangedByZeroPadding", inPlace := ["internal/bytealg.IndexByteString", "internal/bytealg.IndexString", "internal/abi.NoEscape"], named := ["unicode/utf8.first", "unicode/utf8.acceptRanges", "internal/bytealg.MaxLen"], apart := false, laid := [("unicode/utf8.acceptRanges", laid_unicode_utf8_acceptRanges), ("unicode/utf8.first", laid_unicode_utf8_first)] }
def FnAppendFixedValueUnchangedByZeroPaddingSaid : Prop := fnAppendFixedValueUnchangedByZeroPaddingRow.holds Tryd.pinned (OpenSpec.ofChange fnAppendFixedValueUnchangedByZeroPaddingSpec)

/-- ITS FALSE NEIGHBOUR: 'it returns false'. Refute it at one input. -/
def fnAppendFixedValueUnchangedByZeroPaddingWrong : ChangeSpec := { name := "fnAppendFixedValueUnchangedByZeroPadding", fn := fun _ => fun
  | [d1, d2, d3] => { results := [.lit (.bool false)], args := [d1, d2, d3] }
  | _ => none }
def FnAppendFixedValueUnchangedByZeroPaddingWrongFalsely : Prop := fnAppendFixedValueUnchangedByZeroPaddingRow.holds Tryd.pinned (OpenSpec.ofChange fnAppendFixedValueUnchangedByZeroPaddingWrong)

/-- 'zzlaws_pkg_decimal_b1.FnCanonicalMatchesScanModel': WHATEVER THE INPUT: true; the input reads as it did. -/
def fnCanonicalMatchesScanModelSpec : ChangeSpec := { name := "fnCanonicalMatchesScanModel", fn := fun _ => fun
  | [d1, d2, d3] => { results := [.lit (.bool true)], args := [d1, d2, d3] }
  | _ => none }
def fnCanonicalMatchesScanModelRow : OpenClaim := { program := "qxb6600692adoor", sum := "c4c4b3777baedaf09fdaf5fdd677a2849bbc272a11deaaa674f88c3736652371", func := "example.com/vestwright/vestwright/zzlaws_pkg_decimal_b1.FnCanonicalMatchesScanModel", spec := "fnCanonicalMatchesScanModel", inPlace := ["internal/bytealg.IndexByteString", "internal/bytealg.IndexString", "internal/abi.NoEscape"], named := ["unicode/utf8.first", "unicode/utf8.acceptRanges", "internal/bytealg.MaxLen"], apart := false, laid := [("unicode/utf8.acceptRanges", laid_unicode_utf8_acceptRanges), ("unicode/utf8.first", laid_unicode_utf8_first)] }
def FnCanonicalMatchesScanModelSaid : Prop := fnCanonicalMatchesScanModelRow.holds Tryd.pinned (OpenSpec.ofChange fnCanonicalMatchesScanModelSpec)

/-- ITS FALSE NEIGHBOUR: 'it returns false'. Refute it at one input. -/
def fnCanonicalMatchesScanModelWrong : ChangeSpec := { name := "fnCanonicalMatchesScanModel", fn := fun _ => fun
  | [d1, d2, d3] => { results := [.lit (.bool false)], args := [d1, d2, d3] }
  | _ => none }
def FnCanonicalMatchesScanModelWrongFalsely : Prop := fnCanonicalMatchesScanModelRow.holds Tryd.pinned (OpenSpec.ofChange fnCanonicalMatchesScanModelWrong)

/-- 'zzlaws_pkg_decimal_b1.FnCanonicalNegationAddsOneMinus': WHATEVER THE INPUT: true; the input reads as it did. -/
def fnCanonicalNegationAddsOneMinusSpec : ChangeSpec := { name := "fnCanonicalNegationAddsOneMinus", fn := fun _ => fun
  | [d1, d2] => { results := [.lit (.bool true)], args := [d1, d2] }
  | _ => none }
def fnCanonicalNegationAddsOneMinusRow : OpenClaim := { program := "qxb6600692adoor", sum := "c4c4b3777baedaf09fdaf5fdd677a2849bbc272a11deaaa674f88c3736652371", func := "example.com/vestwright/vestwright/zzlaws_pkg_decimal_b1.FnCanonicalNegationAddsOneMinus", spec := "fnCanonicalNegationAddsOneMinus", inPlace := ["internal/bytealg.IndexByteString", "internal/bytealg.IndexString", "internal/abi.NoEscape"], named := ["unicode/utf8.first", "unicode/utf8.acceptRanges", "internal/bytealg.MaxLen"], apart := false, laid := [("unicode/utf8.acceptRanges", laid_unicode_utf8_acceptRanges), ("unicode/utf8.first", laid_unicode_utf8_first)] }
def FnCanonicalNegationAddsOneMinusSaid : Prop := fnCanonicalNegationAddsOneMinusRow.holds Tryd.pinned (OpenSpec.ofChange fnCanonicalNegationAddsOneMinusSpec)

/-- ITS FALSE NEIGHBOUR: 'it returns false'. Refute it at one input. -/
def fnCanonicalNegationAddsOneMinusWrong : ChangeSpec := { name := "fnCanonicalNegationAddsOneMinus", fn := fun _ => fun
  | [d1, d2] => { results := [.lit (.bool false)], args := [d1, d2] }
  | _ => none }
def FnCanonicalNegationAddsOneMinusWrongFalsely : Prop := fnCanonicalNegationAddsOneMinusRow.holds Tryd.pinned (OpenSpec.ofChange fnCanonicalNegationAddsOneMinusWrong)

/-- 'zzlaws_pkg_decimal_b1.FnCanonicalIdempotentOnDigits': WHATEVER THE INPUT: true; the input reads as it did. -/
def fnCanonicalIdempotentOnDigitsSpec : ChangeSpec := { name := "fnCanonicalIdempotentOnDigits", fn := fun _ => fun
  | [d1, d2, d3] => { results := [.lit (.bool true)], args := [d1, d2, d3] }
  | _ => none }
def fnCanonicalIdempotentOnDigitsRow : OpenClaim := { program := "qxb6600692adoor", sum := "c4c4b3777baedaf09fdaf5fdd677a2849bbc272a11deaaa674f88c3736652371", func := "example.com/vestwright/vestwright/zzlaws_pkg_decimal_b1.FnCanonicalIdempotentOnDigits", spec := "fnCanonicalIdempotentOnDigits", inPlace := ["internal/bytealg.IndexByteString", "internal/bytealg.IndexString", "internal/abi.NoEscape"], named := ["unicode/utf8.first", "unicode/utf8.acceptRanges", "internal/bytealg.MaxLen"], apart := false, laid := [("unicode/utf8.acceptRanges", laid_unicode_utf8_acceptRanges), ("unicode/utf8.first", laid_unicode_utf8_first)] }
def FnCanonicalIdempotentOnDigitsSaid : Prop := fnCanonicalIdempotentOnDigitsRow.holds Tryd.pinned (OpenSpec.ofChange fnCanonicalIdempotentOnDigitsSpec)

/-- ITS FALSE NEIGHBOUR: 'it returns false'. Refute it at one input. -/
def fnCanonicalIdempotentOnDigitsWrong : ChangeSpec := { name := "fnCanonicalIdempotentOnDigits", fn := fun _ => fun
  | [d1, d2, d3] => { results := [.lit (.bool false)], args := [d1, d2, d3] }
  | _ => none }
def FnCanonicalIdempotentOnDigitsWrongFalsely : Prop := fnCanonicalIdempotentOnDigitsRow.holds Tryd.pinned (OpenSpec.ofChange fnCanonicalIdempotentOnDigitsWrong)

end Rows
end Go.Proofs.Qxb6600692aDoor
