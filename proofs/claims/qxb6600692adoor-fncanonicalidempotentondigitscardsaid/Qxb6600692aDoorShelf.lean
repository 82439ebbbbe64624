/-
  The shelf's contracts at this seat's dump, in plain words (written by the kit's lay-shelf.mjs and lay-plain.mjs; the layings 166 and 167 by a small program after the same pattern, the empty interface's type 20 named), and the six contracts that the walks take.
-/
import Derived.Shelf.Strings.Builder1
import Derived.Shelf.Strings.Trim
import Derived.Shelf.Strings.BuilderF
import Derived.Shelf.Strings.BuilderK
import Derived.Test.Qxb6600692aDoorT2
namespace Go.Proofs
open Go.Shelf
def Tryd.lays169_ren : Go.Shelf.Ren := ⟨fun | 169 => 26 | n => n, fun | 70 => 39 | 9 => 9 | 0 => 0 | 72 => 41 | 37 => 22 | 127 => 54 | 3 => 3 | 5 => 5 | n => n, fun | n => n⟩
theorem Tryd.lays169 : Go.Proofs.Lays.n169 Tryd.prog Tryd.lays169_ren := {
  mixed := by kernel_rfl
  f169 := Tryd.func26.trans (congrArg some (by kernel_rfl))
  t0 := Tryd.underlying0
  a0 := Tryd.isAgg0
  z0 := Tryd.sizeOf0
  v0 := Tryd.zeroValue0
  t3 := Tryd.underlying3
  a3 := Tryd.isAgg3
  z3 := Tryd.sizeOf3
  v3 := Tryd.zeroValue3
  t9 := Tryd.underlying9
  a9 := Tryd.isAgg9
  z9 := Tryd.sizeOf9
  v9 := Tryd.zeroValue9
  t37 := Tryd.underlying22
  a37 := Tryd.isAgg22
  z37 := Tryd.sizeOf22
  v37 := Tryd.zeroValue22
  t70 := Tryd.underlying39
  a70 := Tryd.isAgg39
  z70 := Tryd.sizeOf39
  v70 := Tryd.zeroValue39
  t72 := Tryd.underlying41
  a72 := Tryd.isAgg41
  z72 := Tryd.sizeOf41
  v72 := Tryd.zeroValue41
  t127 := Tryd.underlying54
  a127 := Tryd.isAgg54
  z127 := Tryd.sizeOf54
  v127 := Tryd.zeroValue54 }
theorem Tryd.Builder_Extra_169 : Builder.Extra Tryd.prog Tryd.lays169_ren := {
  sizeBuilder := by kernel_rfl
  liesBuilder := by kernel_rfl
  t5 := Tryd.underlying5
  a5 := Tryd.isAgg5
  z5 := Tryd.sizeOf5
  v5 := Tryd.zeroValue5
  infoByte := by kernel_rfl
  cellsByte := by kernel_rfl
  sizeByte := by kernel_rfl
  neB5 := by decide }
def Tryd.lays161_ren : Go.Shelf.Ren := ⟨fun | 161 => 22 | 231 => 27 | 227 => 28 | 233 => 29 | 235 => 30 | 228 => 35 | 197 => 36 | 151 => 37 | 260 => 40 | 152 => 41 | 137 => 43 | 119 => 44 | 224 => 45 | 225 => 46 | 217 => 47 | 266 => 48 | n => n, fun | 9 => 9 | 4 => 4 | 3 => 3 | 5 => 5 | 117 => 50 | 116 => 49 | 0 => 0 | 124 => 53 | 105 => 56 | 21 => 21 | 119 => 62 | 46 => 63 | 139 => 66 | 138 => 65 | n => n, fun | 3 => 0 | 4 => 1 | n => n⟩
theorem Tryd.lays161 : Go.Proofs.Lays.n161 Tryd.prog Tryd.lays161_ren := {
  mixed := by kernel_rfl
  f119 := Tryd.func44.trans (congrArg some (by kernel_rfl))
  f137 := Tryd.func43.trans (congrArg some (by kernel_rfl))
  f151 := Tryd.func37.trans (congrArg some (by kernel_rfl))
  f152 := Tryd.func41.trans (congrArg some (by kernel_rfl))
  f161 := Tryd.func22.trans (congrArg some (by kernel_rfl))
  f197 := Tryd.func36.trans (congrArg some (by kernel_rfl))
  f217 := Tryd.func47.trans (congrArg some (by kernel_rfl))
  f224 := Tryd.func45.trans (congrArg some (by kernel_rfl))
  f225 := Tryd.func46.trans (congrArg some (by kernel_rfl))
  f227 := Tryd.func28.trans (congrArg some (by kernel_rfl))
  f228 := Tryd.func35.trans (congrArg some (by kernel_rfl))
  f231 := Tryd.func27.trans (congrArg some (by kernel_rfl))
  f233 := Tryd.func29.trans (congrArg some (by kernel_rfl))
  f235 := Tryd.func30.trans (congrArg some (by kernel_rfl))
  f260 := Tryd.func40.trans (congrArg some (by kernel_rfl))
  f266 := Tryd.func48.trans (congrArg some (by kernel_rfl))
  t0 := Tryd.underlying0
  a0 := Tryd.isAgg0
  z0 := Tryd.sizeOf0
  v0 := Tryd.zeroValue0
  t3 := Tryd.underlying3
  a3 := Tryd.isAgg3
  z3 := Tryd.sizeOf3
  v3 := Tryd.zeroValue3
  t4 := Tryd.underlying4
  a4 := Tryd.isAgg4
  z4 := Tryd.sizeOf4
  v4 := Tryd.zeroValue4
  t5 := Tryd.underlying5
  a5 := Tryd.isAgg5
  z5 := Tryd.sizeOf5
  v5 := Tryd.zeroValue5
  t9 := Tryd.underlying9
  a9 := Tryd.isAgg9
  z9 := Tryd.sizeOf9
  v9 := Tryd.zeroValue9
  t21 := Tryd.underlying21
  a21 := Tryd.isAgg21
  z21 := Tryd.sizeOf21
  v21 := Tryd.zeroValue21
  t46 := Tryd.underlying63
  a46 := Tryd.isAgg63
  z46 := Tryd.sizeOf63
  v46 := Tryd.zeroValue63
  t105 := Tryd.underlying56
  a105 := Tryd.isAgg56
  z105 := Tryd.sizeOf56
  v105 := Tryd.zeroValue56
  t116 := Tryd.underlying49
  a116 := Tryd.isAgg49
  z116 := Tryd.sizeOf49
  t117 := Tryd.underlying50
  a117 := Tryd.isAgg50
  z117 := Tryd.sizeOf50
  v117 := Tryd.zeroValue50
  t119 := Tryd.underlying62
  a119 := Tryd.isAgg62
  z119 := Tryd.sizeOf62
  t124 := Tryd.underlying53
  a124 := Tryd.isAgg53
  z124 := Tryd.sizeOf53
  v124 := Tryd.zeroValue53
  t138 := Tryd.underlying65
  a138 := Tryd.isAgg65
  z138 := Tryd.sizeOf65
  v138 := Tryd.zeroValue65
  t139 := Tryd.underlying66
  a139 := Tryd.isAgg66
  z139 := Tryd.sizeOf66
  v139 := Tryd.zeroValue66
  g3 := by kernel_rfl
  g4 := by kernel_rfl }
open Go.RowKit in
/-- strings.TrimLeft: "TrimLeft returns a slice of the string s with all leading Unicode code points contained in cutset removed.": AT A cutset OF ONE ASCII BYTE. The world is as it was. (LAID: no walk: one application.) -/
theorem Tryd.strings_TrimLeft_one (s : ByteArray) (c : UInt8) (hc : c.toNat < 128) (w : World) :
    Calls Tryd.prog 22 #[.string s, .string ⟨#[c]⟩] w fun e w' => e = .returned (.string ⟨(Lib.trimLeftB s.data.toList c).toArray⟩) ∧ w' = w := Any.strings_TrimLeft_one Tryd.lays161 s c hc w
def Tryd.lays162_ren : Go.Shelf.Ren := ⟨fun | 162 => 23 | 232 => 31 | 227 => 28 | 234 => 32 | 236 => 33 | 228 => 35 | 271 => 38 | 151 => 37 | 120 => 42 | 197 => 36 | 152 => 41 | 260 => 40 | 137 => 43 | 119 => 44 | 224 => 45 | 225 => 46 | 217 => 47 | 266 => 48 | n => n, fun | 9 => 9 | 4 => 4 | 3 => 3 | 5 => 5 | 117 => 50 | 116 => 49 | 0 => 0 | 124 => 53 | 21 => 21 | 105 => 56 | 46 => 63 | 119 => 62 | 139 => 66 | 138 => 65 | n => n, fun | 3 => 0 | 4 => 1 | n => n⟩
theorem Tryd.lays162 : Go.Proofs.Lays.n162 Tryd.prog Tryd.lays162_ren := {
  mixed := by kernel_rfl
  f119 := Tryd.func44.trans (congrArg some (by kernel_rfl))
  f120 := Tryd.func42.trans (congrArg some (by kernel_rfl))
  f137 := Tryd.func43.trans (congrArg some (by kernel_rfl))
  f151 := Tryd.func37.trans (congrArg some (by kernel_rfl))
  f152 := Tryd.func41.trans (congrArg some (by kernel_rfl))
  f162 := Tryd.func23.trans (congrArg some (by kernel_rfl))
  f197 := Tryd.func36.trans (congrArg some (by kernel_rfl))
  f217 := Tryd.func47.trans (congrArg some (by kernel_rfl))
  f224 := Tryd.func45.trans (congrArg some (by kernel_rfl))
  f225 := Tryd.func46.trans (congrArg some (by kernel_rfl))
  f227 := Tryd.func28.trans (congrArg some (by kernel_rfl))
  f228 := Tryd.func35.trans (congrArg some (by kernel_rfl))
  f232 := Tryd.func31.trans (congrArg some (by kernel_rfl))
  f234 := Tryd.func32.trans (congrArg some (by kernel_rfl))
  f236 := Tryd.func33.trans (congrArg some (by kernel_rfl))
  f260 := Tryd.func40.trans (congrArg some (by kernel_rfl))
  f266 := Tryd.func48.trans (congrArg some (by kernel_rfl))
  f271 := Tryd.func38.trans (congrArg some (by kernel_rfl))
  t0 := Tryd.underlying0
  a0 := Tryd.isAgg0
  z0 := Tryd.sizeOf0
  v0 := Tryd.zeroValue0
  t3 := Tryd.underlying3
  a3 := Tryd.isAgg3
  z3 := Tryd.sizeOf3
  v3 := Tryd.zeroValue3
  t4 := Tryd.underlying4
  a4 := Tryd.isAgg4
  z4 := Tryd.sizeOf4
  v4 := Tryd.zeroValue4
  t5 := Tryd.underlying5
  a5 := Tryd.isAgg5
  z5 := Tryd.sizeOf5
  v5 := Tryd.zeroValue5
  t9 := Tryd.underlying9
  a9 := Tryd.isAgg9
  z9 := Tryd.sizeOf9
  v9 := Tryd.zeroValue9
  t21 := Tryd.underlying21
  a21 := Tryd.isAgg21
  z21 := Tryd.sizeOf21
  v21 := Tryd.zeroValue21
  t46 := Tryd.underlying63
  a46 := Tryd.isAgg63
  z46 := Tryd.sizeOf63
  v46 := Tryd.zeroValue63
  t105 := Tryd.underlying56
  a105 := Tryd.isAgg56
  z105 := Tryd.sizeOf56
  v105 := Tryd.zeroValue56
  t116 := Tryd.underlying49
  a116 := Tryd.isAgg49
  z116 := Tryd.sizeOf49
  t117 := Tryd.underlying50
  a117 := Tryd.isAgg50
  z117 := Tryd.sizeOf50
  v117 := Tryd.zeroValue50
  t119 := Tryd.underlying62
  a119 := Tryd.isAgg62
  z119 := Tryd.sizeOf62
  t124 := Tryd.underlying53
  a124 := Tryd.isAgg53
  z124 := Tryd.sizeOf53
  v124 := Tryd.zeroValue53
  t138 := Tryd.underlying65
  a138 := Tryd.isAgg65
  z138 := Tryd.sizeOf65
  v138 := Tryd.zeroValue65
  t139 := Tryd.underlying66
  a139 := Tryd.isAgg66
  z139 := Tryd.sizeOf66
  v139 := Tryd.zeroValue66
  g3 := by kernel_rfl
  g4 := by kernel_rfl }
open Go.RowKit in
/-- strings.TrimRight: "TrimRight returns a slice of the string s, with all trailing Unicode code points contained in cutset removed.": AT A cutset OF ONE ASCII BYTE. The world is as it was. (LAID: no walk: one application.) -/
theorem Tryd.strings_TrimRight_one (s : ByteArray) (c : UInt8) (hc : c.toNat < 128) (w : World) (hs : s.size ≤ 9223372036854775807) :
    Calls Tryd.prog 23 #[.string s, .string ⟨#[c]⟩] w fun e w' => e = .returned (.string ⟨(Lib.trimRightB s.data.toList c).toArray⟩) ∧ w' = w := Any.strings_TrimRight_one Tryd.lays162 s c hc w hs
open Go.RowKit in
/-- (*strings.Builder).String: "String returns the accumulated string.": WHATEVER THE BUILDER HOLDS; THE FORM '_k': OVER 'Lib.IsBuilderF' (a builder that 'String()' may have read), AND WITH THE FRAME THAT REACHES ABOVE THE BUILDER: 'Lib.OthersKept': every block that is not b and is no row of uint8's stands as it stood: the iterator of a range among them. (LAID: no walk: one application.) -/
theorem Tryd.Builder_String_any_k (B b : Nat) (l : List UInt8) (w : World) (h : Lib.IsBuilderF 41 5 B b (Lib.byteCells l) w) (hBw : B ≤ w.heap.size) :
    Calls Tryd.prog 26 #[.pointer (some ⟨b, 0, none⟩)] w fun e w' => e = .returned (.string ⟨l.toArray⟩) ∧ (Lib.IsBuilderF 41 5 B b (Lib.byteCells l) w' ∧ Below B w w' ∧ Lib.OthersKept 5 (some b) w w') := Any.Builder_String_any_k Tryd.lays169 Tryd.Builder_Extra_169 B b l w h hBw
def Tryd.lays167_ren : Go.Shelf.Ren := ⟨fun | 167 => 24 | 240 => 34 | 276 => 39 | n => n, fun | 0 => 0 | 3 => 3 | 4 => 4 | 5 => 5 | 9 => 9 | 20 => 20 | 37 => 22 | 70 => 39 | 72 => 41 | 75 => 43 | 80 => 36 | 164 => 59 | n => n, fun  | n => n⟩
theorem Tryd.lays167 : Go.Proofs.Lays.n167 Tryd.prog Tryd.lays167_ren := {
  mixed := by kernel_rfl
  f167 := Tryd.func24.trans (congrArg some (by kernel_rfl))
  f240 := Tryd.func34.trans (congrArg some (by kernel_rfl))
  f276 := Tryd.func39.trans (congrArg some (by kernel_rfl))
  t0 := Tryd.underlying0
  a0 := Tryd.isAgg0
  z0 := Tryd.sizeOf0
  v0 := Tryd.zeroValue0
  t4 := Tryd.underlying4
  a4 := Tryd.isAgg4
  z4 := Tryd.sizeOf4
  v4 := Tryd.zeroValue4
  t5 := Tryd.underlying5
  a5 := Tryd.isAgg5
  z5 := Tryd.sizeOf5
  v5 := Tryd.zeroValue5
  t9 := Tryd.underlying9
  a9 := Tryd.isAgg9
  z9 := Tryd.sizeOf9
  v9 := Tryd.zeroValue9
  t20 := Tryd.underlying20
  a20 := Tryd.isAgg20
  z20 := Tryd.sizeOf20
  v20 := Tryd.zeroValue20
  t37 := Tryd.underlying22
  a37 := Tryd.isAgg22
  z37 := Tryd.sizeOf22
  v37 := Tryd.zeroValue22
  t70 := Tryd.underlying39
  a70 := Tryd.isAgg39
  z70 := Tryd.sizeOf39
  v70 := Tryd.zeroValue39
  t72 := Tryd.underlying41
  a72 := Tryd.isAgg41
  z72 := Tryd.sizeOf41
  v72 := Tryd.zeroValue41
  t75 := Tryd.underlying43
  a75 := Tryd.isAgg43
  z75 := Tryd.sizeOf43
  v75 := Tryd.zeroValue43
  t164 := Tryd.underlying59
  a164 := Tryd.isAgg59
  z164 := Tryd.sizeOf59
  v164 := Tryd.zeroValue59
}
def Tryd.lays166_ren : Go.Shelf.Ren := ⟨fun | 166 => 25 | 240 => 34 | 276 => 39 | n => n, fun | 0 => 0 | 3 => 3 | 4 => 4 | 5 => 5 | 9 => 9 | 20 => 20 | 37 => 22 | 70 => 39 | 72 => 41 | 75 => 43 | 80 => 36 | 164 => 59 | n => n, fun  | n => n⟩
theorem Tryd.lays166 : Go.Proofs.Lays.n166 Tryd.prog Tryd.lays166_ren := {
  mixed := by kernel_rfl
  f166 := Tryd.func25.trans (congrArg some (by kernel_rfl))
  f240 := Tryd.func34.trans (congrArg some (by kernel_rfl))
  f276 := Tryd.func39.trans (congrArg some (by kernel_rfl))
  t0 := Tryd.underlying0
  a0 := Tryd.isAgg0
  z0 := Tryd.sizeOf0
  v0 := Tryd.zeroValue0
  t3 := Tryd.underlying3
  a3 := Tryd.isAgg3
  z3 := Tryd.sizeOf3
  v3 := Tryd.zeroValue3
  t4 := Tryd.underlying4
  a4 := Tryd.isAgg4
  z4 := Tryd.sizeOf4
  v4 := Tryd.zeroValue4
  t9 := Tryd.underlying9
  a9 := Tryd.isAgg9
  z9 := Tryd.sizeOf9
  v9 := Tryd.zeroValue9
  t20 := Tryd.underlying20
  a20 := Tryd.isAgg20
  z20 := Tryd.sizeOf20
  v20 := Tryd.zeroValue20
  t37 := Tryd.underlying22
  a37 := Tryd.isAgg22
  z37 := Tryd.sizeOf22
  v37 := Tryd.zeroValue22
  t70 := Tryd.underlying39
  a70 := Tryd.isAgg39
  z70 := Tryd.sizeOf39
  v70 := Tryd.zeroValue39
  t72 := Tryd.underlying41
  a72 := Tryd.isAgg41
  z72 := Tryd.sizeOf41
  v72 := Tryd.zeroValue41
  t75 := Tryd.underlying43
  a75 := Tryd.isAgg43
  z75 := Tryd.sizeOf43
  v75 := Tryd.zeroValue43
  t164 := Tryd.underlying59
  a164 := Tryd.isAgg59
  z164 := Tryd.sizeOf59
  v164 := Tryd.zeroValue59
}
theorem Tryd.Builder_Extra_167 : Builder.Extra Tryd.prog Tryd.lays167_ren := {
  sizeBuilder := by kernel_rfl
  liesBuilder := by kernel_rfl
  t5 := Tryd.underlying5
  a5 := Tryd.isAgg5
  z5 := Tryd.sizeOf5
  v5 := Tryd.zeroValue5
  infoByte := by kernel_rfl
  cellsByte := by kernel_rfl
  sizeByte := by kernel_rfl
  neB5 := by decide
}
theorem Tryd.Builder_Extra_166 : Builder.Extra Tryd.prog Tryd.lays166_ren := {
  sizeBuilder := by kernel_rfl
  liesBuilder := by kernel_rfl
  t5 := Tryd.underlying5
  a5 := Tryd.isAgg5
  z5 := Tryd.sizeOf5
  v5 := Tryd.zeroValue5
  infoByte := by kernel_rfl
  cellsByte := by kernel_rfl
  sizeByte := by kernel_rfl
  neB5 := by decide
}
end Go.Proofs
namespace Go.Proofs.Qxb6600692aDoor
open Go.RowKit

theorem said22 : Said22 := fun s w => Tryd.strings_TrimLeft_one s 48 (by decide) w
theorem said23 : Said23 := fun s w hs => Tryd.strings_TrimRight_one s 48 (by decide) w hs
theorem said24 : Said24 := fun B b bs c w h hlen hBw =>
  (Any.Builder_WriteByte_k Tryd.lays167 Tryd.Builder_Extra_167 B b bs c w h hlen hBw).mono fun _ _ ⟨he, h1, h2, _⟩ => ⟨he, Or.inr h1, h2⟩
theorem said25 : Said25 := fun B b bs s w h hlen hBw =>
  (Any.Builder_WriteString_k Tryd.lays166 Tryd.Builder_Extra_166 B b bs s w h hlen hBw).mono fun _ _ ⟨he, h1, h2, _⟩ => ⟨he, Or.inr h1, h2⟩
theorem said26 : Said26 := fun B b l w h hBw =>
  (Tryd.Builder_String_any_k B b l w h hBw).mono fun _ _ ⟨he, _, h2, _⟩ => ⟨he, h2⟩
theorem said13 : Said13 := canon13 said22 said23 said24 said25 said26
end Go.Proofs.Qxb6600692aDoor
