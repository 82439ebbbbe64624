/-
  The shelf's contracts at this seat's dump, in plain words (written by the kit's lay-shelf.mjs and lay-plain.mjs, cut down to what the walks take; the layings 166 and 167 by a small program after the same pattern, the empty interface's type 20 named).
-/
import Derived.Shelf.Strings.SlTrimAscii
import Derived.Shelf.Strings.Trim
import Derived.Shelf.Strings.BuilderK
import Derived.Shelf.Strings.Builder2
import Derived.Shelf.Small.Strs
import Derived.Test.Qxb6600831aDoorProg
namespace Go.Proofs
open Go.Shelf
def Tryd.lays169_ren : Go.Shelf.Ren := ⟨fun | 169 => 19 | n => n, fun | 70 => 34 | 9 => 9 | 0 => 0 | 72 => 36 | 37 => 29 | 127 => 53 | 3 => 3 | 5 => 5 | n => n, fun | n => n⟩
theorem Tryd.lays169 : Go.Proofs.Lays.n169 Tryd.prog Tryd.lays169_ren := {
  mixed := by kernel_rfl
  f169 := Tryd.func19.trans (congrArg some (by kernel_rfl))
  t0 := Tryd.underlying0
  a0 := Tryd.isAgg0
  z0 := Tryd.sizeOf0
  v0 := Tryd.zeroValue0
  t3 := Tryd.underlying3
  a3 := Tryd.isAgg3
  z3 := Tryd.sizeOf3
  v3 := Tryd.zeroValue3
  t9 := Tryd.underlying9
  a9 := Tryd.isAgg9
  z9 := Tryd.sizeOf9
  v9 := Tryd.zeroValue9
  t37 := Tryd.underlying29
  a37 := Tryd.isAgg29
  z37 := Tryd.sizeOf29
  v37 := Tryd.zeroValue29
  t70 := Tryd.underlying34
  a70 := Tryd.isAgg34
  z70 := Tryd.sizeOf34
  v70 := Tryd.zeroValue34
  t72 := Tryd.underlying36
  a72 := Tryd.isAgg36
  z72 := Tryd.sizeOf36
  v72 := Tryd.zeroValue36
  t127 := Tryd.underlying53
  a127 := Tryd.isAgg53
  z127 := Tryd.sizeOf53
  v127 := Tryd.zeroValue53 }
theorem Tryd.Builder_Extra_169 : Builder.Extra Tryd.prog Tryd.lays169_ren := {
  sizeBuilder := by kernel_rfl
  liesBuilder := by kernel_rfl
  t5 := Tryd.underlying5
  a5 := Tryd.isAgg5
  z5 := Tryd.sizeOf5
  v5 := Tryd.zeroValue5
  infoByte := by kernel_rfl
  cellsByte := by kernel_rfl
  sizeByte := by kernel_rfl
  neB5 := by decide }
def Tryd.lays165_ren : Go.Shelf.Ren := ⟨fun | 165 => 16 | 240 => 26 | 241 => 27 | 276 => 32 | 277 => 33 | n => n, fun | 70 => 34 | 3 => 3 | 0 => 0 | 4 => 4 | 9 => 9 | 20 => 20 | 72 => 36 | 37 => 29 | 164 => 57 | 5 => 5 | n => n, fun | n => n⟩
theorem Tryd.lays165 : Go.Proofs.Lays.n165 Tryd.prog Tryd.lays165_ren := {
  mixed := by kernel_rfl
  f165 := Tryd.func16.trans (congrArg some (by kernel_rfl))
  f240 := Tryd.func26.trans (congrArg some (by kernel_rfl))
  f241 := Tryd.func27.trans (congrArg some (by kernel_rfl))
  f276 := Tryd.func32.trans (congrArg some (by kernel_rfl))
  f277 := Tryd.func33.trans (congrArg some (by kernel_rfl))
  t0 := Tryd.underlying0
  a0 := Tryd.isAgg0
  z0 := Tryd.sizeOf0
  v0 := Tryd.zeroValue0
  t3 := Tryd.underlying3
  a3 := Tryd.isAgg3
  z3 := Tryd.sizeOf3
  v3 := Tryd.zeroValue3
  t4 := Tryd.underlying4
  a4 := Tryd.isAgg4
  z4 := Tryd.sizeOf4
  v4 := Tryd.zeroValue4
  t9 := Tryd.underlying9
  a9 := Tryd.isAgg9
  z9 := Tryd.sizeOf9
  v9 := Tryd.zeroValue9
  t20 := Tryd.underlying20
  a20 := Tryd.isAgg20
  z20 := Tryd.sizeOf20
  v20 := Tryd.zeroValue20
  t37 := Tryd.underlying29
  a37 := Tryd.isAgg29
  z37 := Tryd.sizeOf29
  v37 := Tryd.zeroValue29
  t70 := Tryd.underlying34
  a70 := Tryd.isAgg34
  z70 := Tryd.sizeOf34
  v70 := Tryd.zeroValue34
  t72 := Tryd.underlying36
  a72 := Tryd.isAgg36
  z72 := Tryd.sizeOf36
  v72 := Tryd.zeroValue36
  t164 := Tryd.underlying57
  a164 := Tryd.isAgg57
  z164 := Tryd.sizeOf57
  v164 := Tryd.zeroValue57 }
theorem Tryd.Builder_Extra_165 : Builder.Extra Tryd.prog Tryd.lays165_ren := {
  sizeBuilder := by kernel_rfl
  liesBuilder := by kernel_rfl
  t5 := Tryd.underlying5
  a5 := Tryd.isAgg5
  z5 := Tryd.sizeOf5
  v5 := Tryd.zeroValue5
  infoByte := by kernel_rfl
  cellsByte := by kernel_rfl
  sizeByte := by kernel_rfl
  neB5 := by decide }
open Go.RowKit in
theorem Tryd.Builder_Grow_fresh (B b n : Nat) (w : World) (hB : B ≤ b) (hbk : w.heap[b]? = some (.cells #[.pointer none, .slice none 0 0] 36 (0, 0))) (hBw : B ≤ w.heap.size) (hn : n ≤ 281474976710656) :
    Calls Tryd.prog 16 #[.pointer (some ⟨b, 0, none⟩), .int .i64 n] w fun e w' => e = .returned (.tuple #[]) ∧ (Lib.BuilderAt 36 5 B b (.pointer (some ⟨b, 0, none⟩)) [] w' ∧ Below B w w') := Any.Builder_Grow_fresh Tryd.lays165 Tryd.Builder_Extra_165 B b n w hB hbk hBw hn
def Tryd.lays162_ren : Go.Shelf.Ren := ⟨fun | 162 => 14 | 232 => 21 | 227 => 22 | 234 => 23 | 236 => 24 | 228 => 28 | 271 => 29 | 151 => 30 | 120 => 34 | 197 => 35 | 152 => 36 | 260 => 37 | 137 => 15 | 119 => 38 | 224 => 39 | 225 => 40 | 217 => 25 | 266 => 31 | n => n, fun | 9 => 9 | 4 => 4 | 3 => 3 | 5 => 5 | 117 => 49 | 116 => 48 | 0 => 0 | 124 => 52 | 21 => 21 | 105 => 54 | 46 => 63 | 119 => 65 | 139 => 68 | 138 => 67 | n => n, fun | 3 => 1 | 4 => 2 | n => n⟩
theorem Tryd.lays162 : Go.Proofs.Lays.n162 Tryd.prog Tryd.lays162_ren := {
  mixed := by kernel_rfl
  f119 := Tryd.func38.trans (congrArg some (by kernel_rfl))
  f120 := Tryd.func34.trans (congrArg some (by kernel_rfl))
  f137 := Tryd.func15.trans (congrArg some (by kernel_rfl))
  f151 := Tryd.func30.trans (congrArg some (by kernel_rfl))
  f152 := Tryd.func36.trans (congrArg some (by kernel_rfl))
  f162 := Tryd.func14.trans (congrArg some (by kernel_rfl))
  f197 := Tryd.func35.trans (congrArg some (by kernel_rfl))
  f217 := Tryd.func25.trans (congrArg some (by kernel_rfl))
  f224 := Tryd.func39.trans (congrArg some (by kernel_rfl))
  f225 := Tryd.func40.trans (congrArg some (by kernel_rfl))
  f227 := Tryd.func22.trans (congrArg some (by kernel_rfl))
  f228 := Tryd.func28.trans (congrArg some (by kernel_rfl))
  f232 := Tryd.func21.trans (congrArg some (by kernel_rfl))
  f234 := Tryd.func23.trans (congrArg some (by kernel_rfl))
  f236 := Tryd.func24.trans (congrArg some (by kernel_rfl))
  f260 := Tryd.func37.trans (congrArg some (by kernel_rfl))
  f266 := Tryd.func31.trans (congrArg some (by kernel_rfl))
  f271 := Tryd.func29.trans (congrArg some (by kernel_rfl))
  t0 := Tryd.underlying0
  a0 := Tryd.isAgg0
  z0 := Tryd.sizeOf0
  v0 := Tryd.zeroValue0
  t3 := Tryd.underlying3
  a3 := Tryd.isAgg3
  z3 := Tryd.sizeOf3
  v3 := Tryd.zeroValue3
  t4 := Tryd.underlying4
  a4 := Tryd.isAgg4
  z4 := Tryd.sizeOf4
  v4 := Tryd.zeroValue4
  t5 := Tryd.underlying5
  a5 := Tryd.isAgg5
  z5 := Tryd.sizeOf5
  v5 := Tryd.zeroValue5
  t9 := Tryd.underlying9
  a9 := Tryd.isAgg9
  z9 := Tryd.sizeOf9
  v9 := Tryd.zeroValue9
  t21 := Tryd.underlying21
  a21 := Tryd.isAgg21
  z21 := Tryd.sizeOf21
  v21 := Tryd.zeroValue21
  t46 := Tryd.underlying63
  a46 := Tryd.isAgg63
  z46 := Tryd.sizeOf63
  v46 := Tryd.zeroValue63
  t105 := Tryd.underlying54
  a105 := Tryd.isAgg54
  z105 := Tryd.sizeOf54
  v105 := Tryd.zeroValue54
  t116 := Tryd.underlying48
  a116 := Tryd.isAgg48
  z116 := Tryd.sizeOf48
  t117 := Tryd.underlying49
  a117 := Tryd.isAgg49
  z117 := Tryd.sizeOf49
  v117 := Tryd.zeroValue49
  t119 := Tryd.underlying65
  a119 := Tryd.isAgg65
  z119 := Tryd.sizeOf65
  t124 := Tryd.underlying52
  a124 := Tryd.isAgg52
  z124 := Tryd.sizeOf52
  v124 := Tryd.zeroValue52
  t138 := Tryd.underlying67
  a138 := Tryd.isAgg67
  z138 := Tryd.sizeOf67
  v138 := Tryd.zeroValue67
  t139 := Tryd.underlying68
  a139 := Tryd.isAgg68
  z139 := Tryd.sizeOf68
  v139 := Tryd.zeroValue68
  g3 := by kernel_rfl
  g4 := by kernel_rfl }
open Go.RowKit in
theorem Tryd.strings_TrimRight_one (s : ByteArray) (c : UInt8) (hc : c.toNat < 128) (w : World) (hs : s.size ≤ 9223372036854775807) :
    Calls Tryd.prog 14 #[.string s, .string ⟨#[c]⟩] w fun e w' => e = .returned (.string ⟨(Lib.trimRightB s.data.toList c).toArray⟩) ∧ w' = w := Any.strings_TrimRight_one Tryd.lays162 s c hc w hs
def Tryd.lays137_ren : Go.Shelf.Ren := ⟨fun | 137 => 15 | 217 => 25 | 266 => 31 | n => n, fun | 9 => 9 | 5 => 5 | 3 => 3 | n => n, fun | n => n⟩
theorem Tryd.lays137 : Go.Proofs.Lays.n137 Tryd.prog Tryd.lays137_ren := {
  mixed := by kernel_rfl
  f137 := Tryd.func15.trans (congrArg some (by kernel_rfl))
  f217 := Tryd.func25.trans (congrArg some (by kernel_rfl))
  f266 := Tryd.func31.trans (congrArg some (by kernel_rfl))
  t3 := Tryd.underlying3
  a3 := Tryd.isAgg3
  z3 := Tryd.sizeOf3
  v3 := Tryd.zeroValue3
  t5 := Tryd.underlying5
  a5 := Tryd.isAgg5
  z5 := Tryd.sizeOf5
  v5 := Tryd.zeroValue5
  t9 := Tryd.underlying9
  a9 := Tryd.isAgg9
  z9 := Tryd.sizeOf9
  v9 := Tryd.zeroValue9 }
open Go.RowKit in
theorem Tryd.strings_IndexByte (s : ByteArray) (c : Int) (w : World) :
    Calls Tryd.prog 15 #[.string s, .int .u8 c] w fun e w' => e = .returned (.int .i64 (Lib.indexByte s.data.toList c.toNat.toUInt8)) ∧ w' = w := Any.strings_IndexByte Tryd.lays137 s c w
open Go.RowKit in
theorem Tryd.Builder_String_any_k (B b : Nat) (l : List UInt8) (w : World) (h : Lib.IsBuilderF 36 5 B b (Lib.byteCells l) w) (hBw : B ≤ w.heap.size) :
    Calls Tryd.prog 19 #[.pointer (some ⟨b, 0, none⟩)] w fun e w' => e = .returned (.string ⟨l.toArray⟩) ∧ (Lib.IsBuilderF 36 5 B b (Lib.byteCells l) w' ∧ Below B w w' ∧ Lib.OthersKept 5 (some b) w w') := Any.Builder_String_any_k Tryd.lays169 Tryd.Builder_Extra_169 B b l w h hBw
def Tryd.lays167_ren : Go.Shelf.Ren := ⟨fun | 167 => 18 | 240 => 26 | 276 => 32 | n => n, fun | 0 => 0 | 3 => 3 | 4 => 4 | 5 => 5 | 9 => 9 | 20 => 20 | 37 => 29 | 70 => 34 | 72 => 36 | 75 => 39 | 80 => 43 | 164 => 57 | n => n, fun  | n => n⟩
theorem Tryd.lays167 : Go.Proofs.Lays.n167 Tryd.prog Tryd.lays167_ren := {
  mixed := by kernel_rfl
  f167 := Tryd.func18.trans (congrArg some (by kernel_rfl))
  f240 := Tryd.func26.trans (congrArg some (by kernel_rfl))
  f276 := Tryd.func32.trans (congrArg some (by kernel_rfl))
  t0 := Tryd.underlying0
  a0 := Tryd.isAgg0
  z0 := Tryd.sizeOf0
  v0 := Tryd.zeroValue0
  t4 := Tryd.underlying4
  a4 := Tryd.isAgg4
  z4 := Tryd.sizeOf4
  v4 := Tryd.zeroValue4
  t5 := Tryd.underlying5
  a5 := Tryd.isAgg5
  z5 := Tryd.sizeOf5
  v5 := Tryd.zeroValue5
  t9 := Tryd.underlying9
  a9 := Tryd.isAgg9
  z9 := Tryd.sizeOf9
  v9 := Tryd.zeroValue9
  t20 := Tryd.underlying20
  a20 := Tryd.isAgg20
  z20 := Tryd.sizeOf20
  v20 := Tryd.zeroValue20
  t37 := Tryd.underlying29
  a37 := Tryd.isAgg29
  z37 := Tryd.sizeOf29
  v37 := Tryd.zeroValue29
  t70 := Tryd.underlying34
  a70 := Tryd.isAgg34
  z70 := Tryd.sizeOf34
  v70 := Tryd.zeroValue34
  t72 := Tryd.underlying36
  a72 := Tryd.isAgg36
  z72 := Tryd.sizeOf36
  v72 := Tryd.zeroValue36
  t75 := Tryd.underlying39
  a75 := Tryd.isAgg39
  z75 := Tryd.sizeOf39
  v75 := Tryd.zeroValue39
  t164 := Tryd.underlying57
  a164 := Tryd.isAgg57
  z164 := Tryd.sizeOf57
  v164 := Tryd.zeroValue57
}
def Tryd.lays166_ren : Go.Shelf.Ren := ⟨fun | 166 => 17 | 240 => 26 | 276 => 32 | n => n, fun | 0 => 0 | 3 => 3 | 4 => 4 | 5 => 5 | 9 => 9 | 20 => 20 | 37 => 29 | 70 => 34 | 72 => 36 | 75 => 39 | 80 => 43 | 164 => 57 | n => n, fun  | n => n⟩
theorem Tryd.lays166 : Go.Proofs.Lays.n166 Tryd.prog Tryd.lays166_ren := {
  mixed := by kernel_rfl
  f166 := Tryd.func17.trans (congrArg some (by kernel_rfl))
  f240 := Tryd.func26.trans (congrArg some (by kernel_rfl))
  f276 := Tryd.func32.trans (congrArg some (by kernel_rfl))
  t0 := Tryd.underlying0
  a0 := Tryd.isAgg0
  z0 := Tryd.sizeOf0
  v0 := Tryd.zeroValue0
  t3 := Tryd.underlying3
  a3 := Tryd.isAgg3
  z3 := Tryd.sizeOf3
  v3 := Tryd.zeroValue3
  t4 := Tryd.underlying4
  a4 := Tryd.isAgg4
  z4 := Tryd.sizeOf4
  v4 := Tryd.zeroValue4
  t9 := Tryd.underlying9
  a9 := Tryd.isAgg9
  z9 := Tryd.sizeOf9
  v9 := Tryd.zeroValue9
  t20 := Tryd.underlying20
  a20 := Tryd.isAgg20
  z20 := Tryd.sizeOf20
  v20 := Tryd.zeroValue20
  t37 := Tryd.underlying29
  a37 := Tryd.isAgg29
  z37 := Tryd.sizeOf29
  v37 := Tryd.zeroValue29
  t70 := Tryd.underlying34
  a70 := Tryd.isAgg34
  z70 := Tryd.sizeOf34
  v70 := Tryd.zeroValue34
  t72 := Tryd.underlying36
  a72 := Tryd.isAgg36
  z72 := Tryd.sizeOf36
  v72 := Tryd.zeroValue36
  t75 := Tryd.underlying39
  a75 := Tryd.isAgg39
  z75 := Tryd.sizeOf39
  v75 := Tryd.zeroValue39
  t164 := Tryd.underlying57
  a164 := Tryd.isAgg57
  z164 := Tryd.sizeOf57
  v164 := Tryd.zeroValue57
}
theorem Tryd.Builder_Extra_167 : Builder.Extra Tryd.prog Tryd.lays167_ren := {
  sizeBuilder := by kernel_rfl
  liesBuilder := by kernel_rfl
  t5 := Tryd.underlying5
  a5 := Tryd.isAgg5
  z5 := Tryd.sizeOf5
  v5 := Tryd.zeroValue5
  infoByte := by kernel_rfl
  cellsByte := by kernel_rfl
  sizeByte := by kernel_rfl
  neB5 := by decide
}
theorem Tryd.Builder_Extra_166 : Builder.Extra Tryd.prog Tryd.lays166_ren := {
  sizeBuilder := by kernel_rfl
  liesBuilder := by kernel_rfl
  t5 := Tryd.underlying5
  a5 := Tryd.isAgg5
  z5 := Tryd.sizeOf5
  v5 := Tryd.zeroValue5
  infoByte := by kernel_rfl
  cellsByte := by kernel_rfl
  sizeByte := by kernel_rfl
  neB5 := by decide
}
end Go.Proofs
namespace Go.Proofs.Qxb6600831aDoor
open Go.RowKit Go.Lib

theorem index15_34 (s : ByteArray) (w : World) :
    Calls Tryd.prog 15 #[.string s, .int .u8 34] w fun e w' => e = .returned (.int .i64 (Lib.indexByte s.data.toList 34)) ∧ w' = w := Tryd.strings_IndexByte s 34 w
theorem index15_92 (s : ByteArray) (w : World) :
    Calls Tryd.prog 15 #[.string s, .int .u8 92] w fun e w' => e = .returned (.int .i64 (Lib.indexByte s.data.toList 92)) ∧ w' = w := Tryd.strings_IndexByte s 92 w
theorem trim14 (s : ByteArray) (w : World) (hs : s.size ≤ 9223372036854775807) :
    Calls Tryd.prog 14 #[.string s, .string ⟨#[32, 9, 13]⟩] w fun e w' => e = .returned (.string ⟨(Lib.trimRightS s.data.toList [32, 9, 13]).toArray⟩) ∧ Below w.heap.size w w' :=
  Any.strings_TrimRight_laid Tryd.lays162 (by kernel_rfl) s ⟨#[32, 9, 13]⟩ w hs (by decide) (ascii_of_all (by decide))
theorem byte18 (B b : Nat) (bs : List Value) (c : Int) (w : World) (h : Lib.IsBuilderF 36 5 B b bs w) (hlen : bs.length + 1 ≤ 140737488355328) (hBw : B ≤ w.heap.size) :
    Calls Tryd.prog 18 #[.pointer (some ⟨b, 0, none⟩), .int .u8 c] w fun e w' => e = .returned .nilIface ∧ (Lib.IsBuilderF 36 5 B b (bs ++ [.int .u8 c]) w' ∧ Below B w w') :=
  (Any.Builder_WriteByte_k Tryd.lays167 Tryd.Builder_Extra_167 B b bs c w h hlen hBw).mono fun _ _ ⟨he, h1, h2, _⟩ => ⟨he, Or.inr h1, h2⟩
theorem str17 (B b : Nat) (bs : List Value) (s : ByteArray) (w : World) (h : Lib.IsBuilderF 36 5 B b bs w) (hlen : bs.length + s.size ≤ 140737488355328) (hBw : B ≤ w.heap.size) :
    Calls Tryd.prog 17 #[.pointer (some ⟨b, 0, none⟩), .string s] w fun e w' => e = .returned (.tuple #[.int .i64 s.size, .nilIface]) ∧ (Lib.IsBuilderF 36 5 B b (bs ++ Lib.strCells s) w' ∧ Below B w w') :=
  (Any.Builder_WriteString_k Tryd.lays166 Tryd.Builder_Extra_166 B b bs s w h hlen hBw).mono fun _ _ ⟨he, h1, h2, _⟩ => ⟨he, Or.inr h1, h2⟩
theorem str19 (B b : Nat) (l : List UInt8) (w : World) (h : Lib.IsBuilderF 36 5 B b (Lib.byteCells l) w) (hBw : B ≤ w.heap.size) :
    Calls Tryd.prog 19 #[.pointer (some ⟨b, 0, none⟩)] w fun e w' => e = .returned (.string ⟨l.toArray⟩) ∧ Below B w w' :=
  (Tryd.Builder_String_any_k B b l w h hBw).mono fun _ _ ⟨he, _, h2, _⟩ => ⟨he, h2⟩
theorem grow16 (B b n : Nat) (w : World) (hB : B ≤ b) (hbk : w.heap[b]? = some (.cells #[.pointer none, .slice none 0 0] 36 (0, 0))) (hBw : B ≤ w.heap.size) (hn : n ≤ 281474976710656) :
    Calls Tryd.prog 16 #[.pointer (some ⟨b, 0, none⟩), .int .i64 n] w fun e w' => e = .returned (.tuple #[]) ∧ (Lib.IsBuilderF 36 5 B b [] w' ∧ Below B w w') :=
  (Tryd.Builder_Grow_fresh B b n w hB hbk hBw hn).mono fun _ _ ⟨he, h1, h2⟩ => ⟨he, Lib.IsBuilderF.of (Or.inr h1), h2⟩
end Go.Proofs.Qxb6600831aDoor
