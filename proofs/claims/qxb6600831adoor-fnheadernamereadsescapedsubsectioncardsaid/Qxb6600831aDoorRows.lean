/-
  NARROWER THAN 'FOR EVERY INPUT', by the rows' own cells (each row's printed sentence says how): FnHeaderNameExact: laid · FnHeaderNameReadsEscapedSubsection: laid · FnHeaderNameShrinksAndSettles: laid.
  DERIVED. THE GIVEN ROWS OF THIS SEAT. 3 by the template 'for every input the law returns true; each argument reads behind the call as it read before'; 0 by the template 'total and deterministic' (their statements: Qxb6600831aDoorTotals.lean).
  GIVEN WITH THE SEED: the statements are not yours to turn. If you find one false, say at which input.
  Laid BY PROGRAM, IN A SANDBOX (cutbox-rows.mjs): the forced cells as the released guide's own fill.sh prints them over the translation d0886988749a8e90… (all of the seat's roots in one cut). By AI agents, Wed Nov 11 2026. No macro, syntax, notation, axiom, sorry.
-/
import Derived.Test.Qxb6600831aDoorChecked
import GoSem.PinnedTables
import GoSem.Claim
import GoSem.ClaimJoined
import GoSem.ClaimMapViews
import Derived.JoinedTies
import Derived.KernelRfl
namespace Go.Proofs.Qxb6600831aDoor
/- THE CELL 'sum', in the pinned program and in every row, IS THE sha256 OF THE DUMP (.gsa) THAT Qxb6600831aDoorProg.lean LOADS. Nothing in Lean hashes anything: it is a label: what it is worth is what the hold of that sum in a sandbox is worth. -/
noncomputable def Tryd.pinned : Pinned := { name := "qxb6600831adoor", sum := "d0886988749a8e9086b3152e12ebe1fb45c1084a88c7aee98debb57ced6c6aef", checked := Tryd.checked }
namespace Rows
def none {H : Type} : Left H := { results := [], args := [] }

/- WHAT THE LISTED PACKAGE-LEVEL VARIABLES READ AS WHEN THE CALL BEGINS. Each datum BY PROGRAM (the guide's laid-datum.mjs) off the statement by which the dump's own 'gosem.cut.vars' lays the variable. In a bare row this is a premise. The card (Qxb6600831aDoorCards.lean) ties it to the program's text. -/
def laid_unicode_utf8_acceptRanges {H : Type} : DataW H := .agg [.agg [.lit (.int .u8 128), .lit (.int .u8 191)], .agg [.lit (.int .u8 160), .lit (.int .u8 191)], .agg [.lit (.int .u8 128), .lit (.int .u8 159)], .agg [.lit (.int .u8 144), .lit (.int .u8 191)], .agg [.lit (.int .u8 128), .lit (.int .u8 143)], .agg [.lit (.int .u8 0), .lit (.int .u8 0)], .agg [.lit (.int .u8 0), .lit (.int .u8 0)], .agg [.lit (.int .u8 0), .lit (.int .u8 0)], .agg [.lit (.int .u8 0), .lit (.int .u8 0)], .agg [.lit (.int .u8 0), .lit (.int .u8 0)], .agg [.lit (.int .u8 0), .lit (.int .u8 0)], .agg [.lit (.int .u8 0), .lit (.int .u8 0)], .agg [.lit (.int .u8 0), .lit (.int .u8 0)], .agg [.lit (.int .u8 0), .lit (.int .u8 0)], .agg [.lit (.int .u8 0), .lit (.int .u8 0)], .agg [.lit (.int .u8 0), .lit (.int .u8 0)]]
/-- One of Go's own tables, pinned by name: the form's constant. -/
def laid_unicode_utf8_first : DataW Unit := Go.Pinned.utf8First

/-- 'zzlaws_root_b1.FnHeaderNameExact': WHATEVER THE INPUT: true; the input reads as it did. -/
def fnHeaderNameExactSpec : ChangeSpec := { name := "fnHeaderNameExact", fn := fun _ => fun
  | [d1, d2, d3] => { results := [.lit (.bool true)], args := [d1, d2, d3] }
  | _ => none }
def fnHeaderNameExactRow : OpenClaim := { program := "qxb6600831adoor", sum := "d0886988749a8e9086b3152e12ebe1fb45c1084a88c7aee98debb57ced6c6aef", func := "example.com/keys-under-sections/keys-under-sections/zzlaws_root_b1.FnHeaderNameExact", spec := "fnHeaderNameExact", inPlace := ["internal/bytealg.IndexByteString", "internal/bytealg.IndexString", "internal/abi.NoEscape", "internal/bytealg.MakeNoZero"], named := ["unicode/utf8.first", "unicode/utf8.acceptRanges", "internal/bytealg.MaxLen"], apart := false, laid := [("unicode/utf8.acceptRanges", laid_unicode_utf8_acceptRanges), ("unicode/utf8.first", laid_unicode_utf8_first)] }
def FnHeaderNameExactSaid : Prop := fnHeaderNameExactRow.holds Tryd.pinned (OpenSpec.ofChange fnHeaderNameExactSpec)

/-- ITS FALSE NEIGHBOUR: 'it returns false'. Refute it at one input. -/
def fnHeaderNameExactWrong : ChangeSpec := { name := "fnHeaderNameExact", fn := fun _ => fun
  | [d1, d2, d3] => { results := [.lit (.bool false)], args := [d1, d2, d3] }
  | _ => none }
def FnHeaderNameExactWrongFalsely : Prop := fnHeaderNameExactRow.holds Tryd.pinned (OpenSpec.ofChange fnHeaderNameExactWrong)

/-- 'zzlaws_root_b1.FnHeaderNameReadsEscapedSubsection': WHATEVER THE INPUT: true; the input reads as it did. -/
def fnHeaderNameReadsEscapedSubsectionSpec : ChangeSpec := { name := "fnHeaderNameReadsEscapedSubsection", fn := fun _ => fun
  | [d1, d2, d3] => { results := [.lit (.bool true)], args := [d1, d2, d3] }
  | _ => none }
def fnHeaderNameReadsEscapedSubsectionRow : OpenClaim := { program := "qxb6600831adoor", sum := "d0886988749a8e9086b3152e12ebe1fb45c1084a88c7aee98debb57ced6c6aef", func := "example.com/keys-under-sections/keys-under-sections/zzlaws_root_b1.FnHeaderNameReadsEscapedSubsection", spec := "fnHeaderNameReadsEscapedSubsection", inPlace := ["internal/bytealg.IndexByteString", "internal/bytealg.IndexString", "internal/abi.NoEscape", "internal/bytealg.MakeNoZero"], named := ["unicode/utf8.first", "unicode/utf8.acceptRanges", "internal/bytealg.MaxLen"], apart := false, laid := [("unicode/utf8.acceptRanges", laid_unicode_utf8_acceptRanges), ("unicode/utf8.first", laid_unicode_utf8_first)] }
def FnHeaderNameReadsEscapedSubsectionSaid : Prop := fnHeaderNameReadsEscapedSubsectionRow.holds Tryd.pinned (OpenSpec.ofChange fnHeaderNameReadsEscapedSubsectionSpec)

/-- ITS FALSE NEIGHBOUR: 'it returns false'. Refute it at one input. -/
def fnHeaderNameReadsEscapedSubsectionWrong : ChangeSpec := { name := "fnHeaderNameReadsEscapedSubsection", fn := fun _ => fun
  | [d1, d2, d3] => { results := [.lit (.bool false)], args := [d1, d2, d3] }
  | _ => none }
def FnHeaderNameReadsEscapedSubsectionWrongFalsely : Prop := fnHeaderNameReadsEscapedSubsectionRow.holds Tryd.pinned (OpenSpec.ofChange fnHeaderNameReadsEscapedSubsectionWrong)

/-- 'zzlaws_root_b1.FnHeaderNameShrinksAndSettles': WHATEVER THE INPUT: true; the input reads as it did. -/
def fnHeaderNameShrinksAndSettlesSpec : ChangeSpec := { name := "fnHeaderNameShrinksAndSettles", fn := fun _ => fun
  | [d1, d2, d3] => { results := [.lit (.bool true)], args := [d1, d2, d3] }
  | _ => none }
def fnHeaderNameShrinksAndSettlesRow : OpenClaim := { program := "qxb6600831adoor", sum := "d0886988749a8e9086b3152e12ebe1fb45c1084a88c7aee98debb57ced6c6aef", func := "example.com/keys-under-sections/keys-under-sections/zzlaws_root_b1.FnHeaderNameShrinksAndSettles", spec := "fnHeaderNameShrinksAndSettles", inPlace := ["internal/bytealg.IndexByteString", "internal/bytealg.IndexString", "internal/abi.NoEscape", "internal/bytealg.MakeNoZero"], named := ["unicode/utf8.first", "unicode/utf8.acceptRanges", "internal/bytealg.MaxLen"], apart := false, laid := [("unicode/utf8.acceptRanges", laid_unicode_utf8_acceptRanges), ("unicode/utf8.first", laid_unicode_utf8_first)] }
def FnHeaderNameShrinksAndSettlesSaid : Prop := fnHeaderNameShrinksAndSettlesRow.holds Tryd.pinned (OpenSpec.ofChange fnHeaderNameShrinksAndSettlesSpec)

/-- ITS FALSE NEIGHBOUR: 'it returns false'. Refute it at one input. -/
def fnHeaderNameShrinksAndSettlesWrong : ChangeSpec := { name := "fnHeaderNameShrinksAndSettles", fn := fun _ => fun
  | [d1, d2, d3] => { results := [.lit (.bool false)], args := [d1, d2, d3] }
  | _ => none }
def FnHeaderNameShrinksAndSettlesWrongFalsely : Prop := fnHeaderNameShrinksAndSettlesRow.holds Tryd.pinned (OpenSpec.ofChange fnHeaderNameShrinksAndSettlesWrong)

end Rows
end Go.Proofs.Qxb6600831aDoor
