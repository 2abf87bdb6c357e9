import Derived.Shelf.Strings.Builder1
import Derived.Shelf.Strings.Builder2
import Derived.Shelf.Strings.TrimSpace
import Derived.Shelf.Small.Utf8
import Derived.Shelf.Small.Strs
import Derived.Shelf.Small.Wraps
import Derived.Shelf.Strings.BuilderF
import Derived.Shelf.Strings.BuilderK
import Derived.Shelf.Strings.Search1
import Derived.Shelf.Strings.Search2
import Derived.Shelf.Strings.Search3
import Derived.Shelf.Strings.Cut
import Derived.Shelf.Strings.Count
import Derived.Shelf.LaysM
import Derived.Shelf.Strings.Shaped
import Derived.Shelf.Strings.Prefix
import Derived.Shelf.Strings.Split
import Derived.Shelf.Strings.Replace
import Derived.Shelf.Strings.SplitShaped
import Derived.Shelf.Unicode.Latin
import Derived.Shelf.Strings.Runes
import Derived.Shelf.Strings.IndexAny
import Derived.Shelf.Strings.AsciiSet
import Derived.Shelf.Strings.IndexAnyAll
import Derived.Shelf.Unicode.DecodeSlow
import Derived.Shelf.Unicode.DecodeAny
import Derived.Shelf.Unicode.Is16White
import Derived.Shelf.Unicode.IsSpaceAny
import Derived.Shelf.Unicode.DecodeLast
import Derived.Shelf.Strings.TrimSpaceAny
import Derived.Shelf.Unicode.Is16Any
import Derived.Shelf.Unicode.Is32Any
import Derived.Shelf.Unicode.ExclAny
import Derived.Test.Qxb6606157aDoorProg
namespace Go.Proofs
open Go.Shelf
def Tryd.lays169_ren : Go.Shelf.Ren := ⟨fun | 169 => 34 | n => n, fun | 70 => 49 | 9 => 9 | 0 => 0 | 72 => 51 | 37 => 46 | 127 => 66 | 3 => 3 | 5 => 5 | n => n, fun | n => n⟩
theorem Tryd.lays169 : Go.Proofs.Lays.n169 Tryd.prog Tryd.lays169_ren := {
  mixed := by kernel_rfl
  f169 := Tryd.func34.trans (congrArg some (by kernel_rfl))
  t0 := Tryd.underlying0
  a0 := Tryd.isAgg0
  z0 := Tryd.sizeOf0
  v0 := Tryd.zeroValue0
  t3 := Tryd.underlying3
  a3 := Tryd.isAgg3
  z3 := Tryd.sizeOf3
  v3 := Tryd.zeroValue3
  t9 := Tryd.underlying9
  a9 := Tryd.isAgg9
  z9 := Tryd.sizeOf9
  v9 := Tryd.zeroValue9
  t37 := Tryd.underlying46
  a37 := Tryd.isAgg46
  z37 := Tryd.sizeOf46
  v37 := Tryd.zeroValue46
  t70 := Tryd.underlying49
  a70 := Tryd.isAgg49
  z70 := Tryd.sizeOf49
  v70 := Tryd.zeroValue49
  t72 := Tryd.underlying51
  a72 := Tryd.isAgg51
  z72 := Tryd.sizeOf51
  v72 := Tryd.zeroValue51
  t127 := Tryd.underlying66
  a127 := Tryd.isAgg66
  z127 := Tryd.sizeOf66
  v127 := Tryd.zeroValue66 }
theorem Tryd.Builder_Extra_169 : Builder.Extra Tryd.prog Tryd.lays169_ren := {
  sizeBuilder := by kernel_rfl
  liesBuilder := by kernel_rfl
  t5 := Tryd.underlying5
  a5 := Tryd.isAgg5
  z5 := Tryd.sizeOf5
  v5 := Tryd.zeroValue5
  infoByte := by kernel_rfl
  cellsByte := by kernel_rfl
  sizeByte := by kernel_rfl
  neB5 := by decide }
open Go.RowKit in
theorem Tryd.Builder_String (B b : Nat) (l : List UInt8) (w : World) (h : Lib.IsBuilder 51 5 B b (Lib.byteCells l) w) (h0 : l ≠ []) :
    Calls Tryd.prog 34 #[.pointer (some ⟨b, 0, none⟩)] w fun e w' => e = .returned (.string ⟨l.toArray⟩) ∧ Below B w w' := Any.Builder_String Tryd.lays169 Tryd.Builder_Extra_169 B b l w h h0
open Go.RowKit in
theorem Tryd.Builder_String_empty (B b : Nat) (w : World) (h : Lib.IsBuilder 51 5 B b [] w) (hBw : B ≤ w.heap.size) :
    Calls Tryd.prog 34 #[.pointer (some ⟨b, 0, none⟩)] w fun e w' => e = .returned (.string ⟨#[]⟩) ∧ Below B w w' := Any.Builder_String_empty Tryd.lays169 Tryd.Builder_Extra_169 B b w h hBw
open Go.RowKit in
theorem Tryd.Builder_String_any (B b : Nat) (l : List UInt8) (w : World) (h : Lib.IsBuilder 51 5 B b (Lib.byteCells l) w) (hBw : B ≤ w.heap.size) :
    Calls Tryd.prog 34 #[.pointer (some ⟨b, 0, none⟩)] w fun e w' => e = .returned (.string ⟨l.toArray⟩) ∧ Below B w w' := Any.Builder_String_any Tryd.lays169 Tryd.Builder_Extra_169 B b l w h hBw
def Tryd.lays241_ren : Go.Shelf.Ren := ⟨fun | 241 => 81 | 277 => 88 | n => n, fun | 70 => 49 | 3 => 3 | 0 => 0 | 72 => 51 | 37 => 46 | 5 => 5 | n => n, fun | n => n⟩
theorem Tryd.lays241 : Go.Proofs.Lays.n241 Tryd.prog Tryd.lays241_ren := {
  mixed := by kernel_rfl
  f241 := Tryd.func81.trans (congrArg some (by kernel_rfl))
  f277 := Tryd.func88.trans (congrArg some (by kernel_rfl))
  t0 := Tryd.underlying0
  a0 := Tryd.isAgg0
  z0 := Tryd.sizeOf0
  v0 := Tryd.zeroValue0
  t3 := Tryd.underlying3
  a3 := Tryd.isAgg3
  z3 := Tryd.sizeOf3
  v3 := Tryd.zeroValue3
  t37 := Tryd.underlying46
  a37 := Tryd.isAgg46
  z37 := Tryd.sizeOf46
  v37 := Tryd.zeroValue46
  t70 := Tryd.underlying49
  a70 := Tryd.isAgg49
  z70 := Tryd.sizeOf49
  v70 := Tryd.zeroValue49
  t72 := Tryd.underlying51
  a72 := Tryd.isAgg51
  z72 := Tryd.sizeOf51
  v72 := Tryd.zeroValue51 }
theorem Tryd.Builder_Extra_241 : Builder.Extra Tryd.prog Tryd.lays241_ren := {
  sizeBuilder := by kernel_rfl
  liesBuilder := by kernel_rfl
  t5 := Tryd.underlying5
  a5 := Tryd.isAgg5
  z5 := Tryd.sizeOf5
  v5 := Tryd.zeroValue5
  infoByte := by kernel_rfl
  cellsByte := by kernel_rfl
  sizeByte := by kernel_rfl
  neB5 := by decide }
open Go.RowKit in
theorem Tryd.Builder_grow_fresh (B b n : Nat) (w : World) (hB : B ≤ b) (hbk : w.heap[b]? = some (.cells #[.pointer (some ⟨b, 0, none⟩), .slice none 0 0] 51 (0, 0))) (hBw : B ≤ w.heap.size) (hn : n ≤ 281474976710656) :
    Calls Tryd.prog 81 #[.pointer (some ⟨b, 0, none⟩), .int .i64 n] w fun e w' => e = .returned (.tuple #[]) ∧ (Lib.BuilderAt 51 5 B b (.pointer (some ⟨b, 0, none⟩)) [] w' ∧ Below B w w') := Any.Builder_grow_fresh Tryd.lays241 Tryd.Builder_Extra_241 B b n w hB hbk hBw hn
def Tryd.lays165_ren : Go.Shelf.Ren := ⟨fun | 165 => 62 | 240 => 50 | 241 => 81 | 276 => 67 | 277 => 88 | n => n, fun | 70 => 49 | 3 => 3 | 0 => 0 | 4 => 4 | 9 => 9 | 20 => 20 | 72 => 51 | 37 => 46 | 164 => 82 | 5 => 5 | n => n, fun | n => n⟩
theorem Tryd.lays165 : Go.Proofs.Lays.n165 Tryd.prog Tryd.lays165_ren := {
  mixed := by kernel_rfl
  f165 := Tryd.func62.trans (congrArg some (by kernel_rfl))
  f240 := Tryd.func50.trans (congrArg some (by kernel_rfl))
  f241 := Tryd.func81.trans (congrArg some (by kernel_rfl))
  f276 := Tryd.func67.trans (congrArg some (by kernel_rfl))
  f277 := Tryd.func88.trans (congrArg some (by kernel_rfl))
  t0 := Tryd.underlying0
  a0 := Tryd.isAgg0
  z0 := Tryd.sizeOf0
  v0 := Tryd.zeroValue0
  t3 := Tryd.underlying3
  a3 := Tryd.isAgg3
  z3 := Tryd.sizeOf3
  v3 := Tryd.zeroValue3
  t4 := Tryd.underlying4
  a4 := Tryd.isAgg4
  z4 := Tryd.sizeOf4
  v4 := Tryd.zeroValue4
  t9 := Tryd.underlying9
  a9 := Tryd.isAgg9
  z9 := Tryd.sizeOf9
  v9 := Tryd.zeroValue9
  t20 := Tryd.underlying20
  a20 := Tryd.isAgg20
  z20 := Tryd.sizeOf20
  v20 := Tryd.zeroValue20
  t37 := Tryd.underlying46
  a37 := Tryd.isAgg46
  z37 := Tryd.sizeOf46
  v37 := Tryd.zeroValue46
  t70 := Tryd.underlying49
  a70 := Tryd.isAgg49
  z70 := Tryd.sizeOf49
  v70 := Tryd.zeroValue49
  t72 := Tryd.underlying51
  a72 := Tryd.isAgg51
  z72 := Tryd.sizeOf51
  v72 := Tryd.zeroValue51
  t164 := Tryd.underlying82
  a164 := Tryd.isAgg82
  z164 := Tryd.sizeOf82
  v164 := Tryd.zeroValue82 }
theorem Tryd.Builder_Extra_165 : Builder.Extra Tryd.prog Tryd.lays165_ren := {
  sizeBuilder := by kernel_rfl
  liesBuilder := by kernel_rfl
  t5 := Tryd.underlying5
  a5 := Tryd.isAgg5
  z5 := Tryd.sizeOf5
  v5 := Tryd.zeroValue5
  infoByte := by kernel_rfl
  cellsByte := by kernel_rfl
  sizeByte := by kernel_rfl
  neB5 := by decide }
open Go.RowKit in
theorem Tryd.Builder_Grow_fresh (B b n : Nat) (w : World) (hB : B ≤ b) (hbk : w.heap[b]? = some (.cells #[.pointer none, .slice none 0 0] 51 (0, 0))) (hBw : B ≤ w.heap.size) (hn : n ≤ 281474976710656) :
    Calls Tryd.prog 62 #[.pointer (some ⟨b, 0, none⟩), .int .i64 n] w fun e w' => e = .returned (.tuple #[]) ∧ (Lib.BuilderAt 51 5 B b (.pointer (some ⟨b, 0, none⟩)) [] w' ∧ Below B w w') := Any.Builder_Grow_fresh Tryd.lays165 Tryd.Builder_Extra_165 B b n w hB hbk hBw hn
def Tryd.lays163_ren : Go.Shelf.Ren := ⟨fun | 163 => 26 | 237 => 38 | 199 => 39 | 238 => 40 | 272 => 52 | 261 => 53 | 273 => 54 | 197 => 55 | 315 => 70 | 311 => 71 | 312 => 72 | 271 => 73 | 260 => 74 | 120 => 84 | n => n, fun | 9 => 9 | 37 => 46 | 3 => 3 | 0 => 0 | 5 => 5 | 4 => 4 | 40 => 55 | 119 => 56 | 21 => 21 | 51 => 67 | 141 => 69 | 105 => 71 | 196 => 87 | 193 => 84 | 198 => 90 | 49 => 88 | 194 => 85 | 201 => 93 | 226 => 103 | 46 => 44 | 227 => 104 | 139 => 107 | 138 => 106 | n => n, fun | 0 => 0 | 6 => 1 | 3 => 5 | 4 => 6 | n => n⟩
theorem Tryd.lays163 : Go.Proofs.Lays.n163 Tryd.prog Tryd.lays163_ren := {
  mixed := by kernel_rfl
  f120 := Tryd.func84.trans (congrArg some (by kernel_rfl))
  f163 := Tryd.func26.trans (congrArg some (by kernel_rfl))
  f197 := Tryd.func55.trans (congrArg some (by kernel_rfl))
  f199 := Tryd.func39.trans (congrArg some (by kernel_rfl))
  f237 := Tryd.func38.trans (congrArg some (by kernel_rfl))
  f238 := Tryd.func40.trans (congrArg some (by kernel_rfl))
  f260 := Tryd.func74.trans (congrArg some (by kernel_rfl))
  f261 := Tryd.func53.trans (congrArg some (by kernel_rfl))
  f271 := Tryd.func73.trans (congrArg some (by kernel_rfl))
  f272 := Tryd.func52.trans (congrArg some (by kernel_rfl))
  f273 := Tryd.func54.trans (congrArg some (by kernel_rfl))
  f311 := Tryd.func71.trans (congrArg some (by kernel_rfl))
  f312 := Tryd.func72.trans (congrArg some (by kernel_rfl))
  f315 := Tryd.func70.trans (congrArg some (by kernel_rfl))
  t0 := Tryd.underlying0
  a0 := Tryd.isAgg0
  z0 := Tryd.sizeOf0
  v0 := Tryd.zeroValue0
  t3 := Tryd.underlying3
  a3 := Tryd.isAgg3
  z3 := Tryd.sizeOf3
  v3 := Tryd.zeroValue3
  t4 := Tryd.underlying4
  a4 := Tryd.isAgg4
  z4 := Tryd.sizeOf4
  v4 := Tryd.zeroValue4
  t5 := Tryd.underlying5
  a5 := Tryd.isAgg5
  z5 := Tryd.sizeOf5
  v5 := Tryd.zeroValue5
  t9 := Tryd.underlying9
  a9 := Tryd.isAgg9
  z9 := Tryd.sizeOf9
  v9 := Tryd.zeroValue9
  t21 := Tryd.underlying21
  a21 := Tryd.isAgg21
  z21 := Tryd.sizeOf21
  v21 := Tryd.zeroValue21
  t37 := Tryd.underlying46
  a37 := Tryd.isAgg46
  z37 := Tryd.sizeOf46
  v37 := Tryd.zeroValue46
  t40 := Tryd.underlying55
  a40 := Tryd.isAgg55
  z40 := Tryd.sizeOf55
  v40 := Tryd.zeroValue55
  t46 := Tryd.underlying44
  a46 := Tryd.isAgg44
  z46 := Tryd.sizeOf44
  v46 := Tryd.zeroValue44
  t49 := Tryd.underlying88
  a49 := Tryd.isAgg88
  z49 := Tryd.sizeOf88
  v49 := Tryd.zeroValue88
  t51 := Tryd.underlying67
  a51 := Tryd.isAgg67
  z51 := Tryd.sizeOf67
  v51 := Tryd.zeroValue67
  t105 := Tryd.underlying71
  a105 := Tryd.isAgg71
  z105 := Tryd.sizeOf71
  v105 := Tryd.zeroValue71
  t119 := Tryd.underlying56
  a119 := Tryd.isAgg56
  z119 := Tryd.sizeOf56
  t138 := Tryd.underlying106
  a138 := Tryd.isAgg106
  z138 := Tryd.sizeOf106
  v138 := Tryd.zeroValue106
  t139 := Tryd.underlying107
  a139 := Tryd.isAgg107
  z139 := Tryd.sizeOf107
  v139 := Tryd.zeroValue107
  t141 := Tryd.underlying69
  a141 := Tryd.isAgg69
  z141 := Tryd.sizeOf69
  v141 := Tryd.zeroValue69
  t193 := Tryd.underlying84
  a193 := Tryd.isAgg84
  z193 := Tryd.sizeOf84
  v193 := Tryd.zeroValue84
  t194 := Tryd.underlying85
  a194 := Tryd.isAgg85
  z194 := Tryd.sizeOf85
  v194 := Tryd.zeroValue85
  t196 := Tryd.underlying87
  a196 := Tryd.isAgg87
  z196 := Tryd.sizeOf87
  v196 := Tryd.zeroValue87
  t198 := Tryd.underlying90
  a198 := Tryd.isAgg90
  z198 := Tryd.sizeOf90
  v198 := Tryd.zeroValue90
  t201 := Tryd.underlying93
  a201 := Tryd.isAgg93
  z201 := Tryd.sizeOf93
  v201 := Tryd.zeroValue93
  t226 := Tryd.underlying103
  a226 := Tryd.isAgg103
  z226 := Tryd.sizeOf103
  v226 := Tryd.zeroValue103
  t227 := Tryd.underlying104
  a227 := Tryd.isAgg104
  z227 := Tryd.sizeOf104
  v227 := Tryd.zeroValue104
  g0 := by kernel_rfl
  g3 := by kernel_rfl
  g4 := by kernel_rfl
  g6 := by kernel_rfl }
theorem Tryd.Space_Extra_163 : Space.Extra Tryd.prog Tryd.lays163_ren := {
  gNamed := by kernel_rfl }
open Go.RowKit in
theorem Tryd.strings_TrimSpace (s : ByteArray) (w : World) (hs : s.size ≤ 9223372036854775807) (hascii : ∀ (j : Nat) b, s.data.toList[j]? = some b → b.toNat < 128) (htab : Lib.TabIs Tryd.prog w "strings.asciiSpace" .u8 Lib.asciiSpaceTab) :
    Calls Tryd.prog 26 #[.string s] w fun e w' => e = .returned (.string ⟨(Lib.trimSpace s.data.toList).toArray⟩) ∧ w' = Lib.bytesWorld w 5 s := Any.strings_TrimSpace Tryd.lays163 Tryd.Space_Extra_163 s w hs hascii htab
def Tryd.lays119_ren : Go.Shelf.Ren := ⟨fun | 119 => 64 | n => n, fun | 21 => 21 | 4 => 4 | n => n, fun | n => n⟩
theorem Tryd.lays119 : Go.Proofs.Lays.n119 Tryd.prog Tryd.lays119_ren := {
  mixed := by kernel_rfl
  f119 := Tryd.func64.trans (congrArg some (by kernel_rfl))
  t4 := Tryd.underlying4
  a4 := Tryd.isAgg4
  z4 := Tryd.sizeOf4
  v4 := Tryd.zeroValue4
  t21 := Tryd.underlying21
  a21 := Tryd.isAgg21
  z21 := Tryd.sizeOf21
  v21 := Tryd.zeroValue21 }
theorem Tryd.utf8_ValidRune (r : Int) (w : World) :
    Calls Tryd.prog 64 #[.int .i32 r] w fun e w' => e = .returned (.bool (Lib.validRune r)) ∧ w' = w := Any.utf8_ValidRune Tryd.lays119 r w
def Tryd.lays120_ren : Go.Shelf.Ren := ⟨fun | 120 => 84 | n => n, fun | 5 => 5 | 4 => 4 | n => n, fun | n => n⟩
theorem Tryd.lays120 : Go.Proofs.Lays.n120 Tryd.prog Tryd.lays120_ren := {
  mixed := by kernel_rfl
  f120 := Tryd.func84.trans (congrArg some (by kernel_rfl))
  t4 := Tryd.underlying4
  a4 := Tryd.isAgg4
  z4 := Tryd.sizeOf4
  v4 := Tryd.zeroValue4
  t5 := Tryd.underlying5
  a5 := Tryd.isAgg5
  z5 := Tryd.sizeOf5
  v5 := Tryd.zeroValue5 }
theorem Tryd.utf8_RuneStart (b : Int) (w : World) (h0 : 0 ≤ b) (h1 : b < 256) :
    Calls Tryd.prog 84 #[.int .u8 b] w fun e w' => e = .returned (.bool (Lib.runeStart b)) ∧ w' = w := Any.utf8_RuneStart Tryd.lays120 b w h0 h1
def Tryd.lays137_ren : Go.Shelf.Ren := ⟨fun | 137 => 63 | 217 => 68 | 266 => 82 | n => n, fun | 9 => 9 | 5 => 5 | 3 => 3 | n => n, fun | n => n⟩
theorem Tryd.lays137 : Go.Proofs.Lays.n137 Tryd.prog Tryd.lays137_ren := {
  mixed := by kernel_rfl
  f137 := Tryd.func63.trans (congrArg some (by kernel_rfl))
  f217 := Tryd.func68.trans (congrArg some (by kernel_rfl))
  f266 := Tryd.func82.trans (congrArg some (by kernel_rfl))
  t3 := Tryd.underlying3
  a3 := Tryd.isAgg3
  z3 := Tryd.sizeOf3
  v3 := Tryd.zeroValue3
  t5 := Tryd.underlying5
  a5 := Tryd.isAgg5
  z5 := Tryd.sizeOf5
  v5 := Tryd.zeroValue5
  t9 := Tryd.underlying9
  a9 := Tryd.isAgg9
  z9 := Tryd.sizeOf9
  v9 := Tryd.zeroValue9 }
open Go.RowKit in
theorem Tryd.strings_IndexByte (s : ByteArray) (c : Int) (w : World) :
    Calls Tryd.prog 63 #[.string s, .int .u8 c] w fun e w' => e = .returned (.int .i64 (Lib.indexByte s.data.toList c.toNat.toUInt8)) ∧ w' = w := Any.strings_IndexByte Tryd.lays137 s c w
def Tryd.lays210_ren : Go.Shelf.Ren := ⟨fun | 210 => 36 | 206 => 49 | n => n, fun | 9 => 9 | 4 => 4 | 3 => 3 | n => n, fun | n => n⟩
theorem Tryd.lays210 : Go.Proofs.Lays.n210 Tryd.prog Tryd.lays210_ren := {
  mixed := by kernel_rfl
  f206 := Tryd.func49.trans (congrArg some (by kernel_rfl))
  f210 := Tryd.func36.trans (congrArg some (by kernel_rfl))
  t3 := Tryd.underlying3
  a3 := Tryd.isAgg3
  z3 := Tryd.sizeOf3
  v3 := Tryd.zeroValue3
  t4 := Tryd.underlying4
  a4 := Tryd.isAgg4
  z4 := Tryd.sizeOf4
  v4 := Tryd.zeroValue4
  t9 := Tryd.underlying9
  a9 := Tryd.isAgg9
  z9 := Tryd.sizeOf9
  v9 := Tryd.zeroValue9 }
open Go.RowKit in
theorem Tryd.stringslite_CutPrefix (s p : ByteArray) (w : World) :
    Calls Tryd.prog 36 #[.string s, .string p] w fun e w' => e = .returned (.tuple #[.string ⟨(Lib.trimPrefix s.data.toList p.data.toList).toArray⟩, .bool (Lib.hasPrefix s.data.toList p.data.toList)]) ∧ w' = w := Any.stringslite_CutPrefix Tryd.lays210 s p w
def Tryd.lays103_ren : Go.Shelf.Ren := ⟨fun | 103 => 24 | 210 => 36 | 206 => 49 | n => n, fun | 9 => 9 | 4 => 4 | 24 => 35 | 3 => 3 | n => n, fun | n => n⟩
theorem Tryd.lays103 : Go.Proofs.Lays.n103 Tryd.prog Tryd.lays103_ren := {
  mixed := by kernel_rfl
  f103 := Tryd.func24.trans (congrArg some (by kernel_rfl))
  f206 := Tryd.func49.trans (congrArg some (by kernel_rfl))
  f210 := Tryd.func36.trans (congrArg some (by kernel_rfl))
  t3 := Tryd.underlying3
  a3 := Tryd.isAgg3
  z3 := Tryd.sizeOf3
  v3 := Tryd.zeroValue3
  t4 := Tryd.underlying4
  a4 := Tryd.isAgg4
  z4 := Tryd.sizeOf4
  v4 := Tryd.zeroValue4
  t9 := Tryd.underlying9
  a9 := Tryd.isAgg9
  z9 := Tryd.sizeOf9
  v9 := Tryd.zeroValue9
  t24 := Tryd.underlying35
  a24 := Tryd.isAgg35
  z24 := Tryd.sizeOf35
  v24 := Tryd.zeroValue35 }
open Go.RowKit in
theorem Tryd.strings_CutPrefix (s p : ByteArray) (w : World) :
    Calls Tryd.prog 24 #[.string s, .string p] w fun e w' => e = .returned (.tuple #[.string ⟨(Lib.trimPrefix s.data.toList p.data.toList).toArray⟩, .bool (Lib.hasPrefix s.data.toList p.data.toList)]) ∧ w' = w := Any.strings_CutPrefix Tryd.lays103 s p w
open Go.RowKit in
theorem Tryd.Builder_String_f (B b : Nat) (l : List UInt8) (w : World) (h : Lib.IsBuilderF 51 5 B b (Lib.byteCells l) w) (h0 : l ≠ []) :
    Calls Tryd.prog 34 #[.pointer (some ⟨b, 0, none⟩)] w fun e w' => e = .returned (.string ⟨l.toArray⟩) ∧ (Lib.IsBuilderF 51 5 B b (Lib.byteCells l) w' ∧ Below B w w') := Any.Builder_String_f Tryd.lays169 Tryd.Builder_Extra_169 B b l w h h0
open Go.RowKit in
theorem Tryd.Builder_String_empty_f (B b : Nat) (w : World) (h : Lib.IsBuilderF 51 5 B b [] w) (hBw : B ≤ w.heap.size) :
    Calls Tryd.prog 34 #[.pointer (some ⟨b, 0, none⟩)] w fun e w' => e = .returned (.string ⟨#[]⟩) ∧ (Lib.IsBuilderF 51 5 B b [] w' ∧ Below B w w') := Any.Builder_String_empty_f Tryd.lays169 Tryd.Builder_Extra_169 B b w h hBw
open Go.RowKit in
theorem Tryd.Builder_String_any_f (B b : Nat) (l : List UInt8) (w : World) (h : Lib.IsBuilderF 51 5 B b (Lib.byteCells l) w) (hBw : B ≤ w.heap.size) :
    Calls Tryd.prog 34 #[.pointer (some ⟨b, 0, none⟩)] w fun e w' => e = .returned (.string ⟨l.toArray⟩) ∧ (Lib.IsBuilderF 51 5 B b (Lib.byteCells l) w' ∧ Below B w w') := Any.Builder_String_any_f Tryd.lays169 Tryd.Builder_Extra_169 B b l w h hBw
open Go.RowKit in
theorem Tryd.Builder_String_k (B b : Nat) (l : List UInt8) (w : World) (h : Lib.IsBuilderF 51 5 B b (Lib.byteCells l) w) (h0 : l ≠ []) :
    Calls Tryd.prog 34 #[.pointer (some ⟨b, 0, none⟩)] w fun e w' => e = .returned (.string ⟨l.toArray⟩) ∧ (Lib.IsBuilderF 51 5 B b (Lib.byteCells l) w' ∧ Below B w w' ∧ Lib.OthersKept 5 (some b) w w') := Any.Builder_String_k Tryd.lays169 Tryd.Builder_Extra_169 B b l w h h0
open Go.RowKit in
theorem Tryd.Builder_String_empty_k (B b : Nat) (w : World) (h : Lib.IsBuilderF 51 5 B b [] w) (hBw : B ≤ w.heap.size) :
    Calls Tryd.prog 34 #[.pointer (some ⟨b, 0, none⟩)] w fun e w' => e = .returned (.string ⟨#[]⟩) ∧ (Lib.IsBuilderF 51 5 B b [] w' ∧ Below B w w' ∧ Lib.OthersKept 5 (some b) w w') := Any.Builder_String_empty_k Tryd.lays169 Tryd.Builder_Extra_169 B b w h hBw
open Go.RowKit in
theorem Tryd.Builder_String_any_k (B b : Nat) (l : List UInt8) (w : World) (h : Lib.IsBuilderF 51 5 B b (Lib.byteCells l) w) (hBw : B ≤ w.heap.size) :
    Calls Tryd.prog 34 #[.pointer (some ⟨b, 0, none⟩)] w fun e w' => e = .returned (.string ⟨l.toArray⟩) ∧ (Lib.IsBuilderF 51 5 B b (Lib.byteCells l) w' ∧ Below B w w' ∧ Lib.OthersKept 5 (some b) w w') := Any.Builder_String_any_k Tryd.lays169 Tryd.Builder_Extra_169 B b l w h hBw
def Tryd.lays217_ren : Go.Shelf.Ren := ⟨fun | 217 => 68 | 266 => 82 | n => n, fun | 9 => 9 | 5 => 5 | 3 => 3 | n => n, fun | n => n⟩
theorem Tryd.lays217 : Go.Proofs.Lays.n217 Tryd.prog Tryd.lays217_ren := {
  mixed := by kernel_rfl
  f217 := Tryd.func68.trans (congrArg some (by kernel_rfl))
  f266 := Tryd.func82.trans (congrArg some (by kernel_rfl))
  t3 := Tryd.underlying3
  a3 := Tryd.isAgg3
  z3 := Tryd.sizeOf3
  v3 := Tryd.zeroValue3
  t5 := Tryd.underlying5
  a5 := Tryd.isAgg5
  z5 := Tryd.sizeOf5
  v5 := Tryd.zeroValue5
  t9 := Tryd.underlying9
  a9 := Tryd.isAgg9
  z9 := Tryd.sizeOf9
  v9 := Tryd.zeroValue9 }
open Go.RowKit Go.Lib in
theorem Tryd.stringslite_IndexByte (s : ByteArray) (c : Int) (w : World) :
    Calls Tryd.prog 68 #[.string s, .int .u8 c] w fun e w' => e = .returned (.int .i64 (Lib.indexByte s.data.toList c.toNat.toUInt8)) ∧ w' = w := Any.stringslite_IndexByte Tryd.lays217 s c w
def Tryd.lays224_ren : Go.Shelf.Ren := ⟨fun | 224 => 65 | n => n, fun | 3 => 3 | n => n, fun | n => n⟩
theorem Tryd.lays224 : Go.Proofs.Lays.n224 Tryd.prog Tryd.lays224_ren := {
  mixed := by kernel_rfl
  f224 := Tryd.func65.trans (congrArg some (by kernel_rfl))
  t3 := Tryd.underlying3
  a3 := Tryd.isAgg3
  z3 := Tryd.sizeOf3
  v3 := Tryd.zeroValue3 }
open Go.RowKit Go.Lib in
theorem Tryd.bytealg_Cutover (n : Int) (h0 : 0 ≤ n) (h1 : n < 4611686018427387904) (w : World) :
    Calls Tryd.prog 65 #[.int .i64 n] w fun e w' => e = .returned (.int .i64 ((n + 16) / 8)) ∧ w' = w := Any.bytealg_Cutover Tryd.lays224 n h0 h1 w
def Tryd.lays314_ren : Go.Shelf.Ren := ⟨fun | 314 => 83 | n => n, fun | 9 => 9 | 51 => 67 | 3 => 3 | 4 => 4 | 5 => 5 | 46 => 44 | n => n, fun | n => n⟩
theorem Tryd.lays314 : Go.Proofs.Lays.n314 Tryd.prog Tryd.lays314_ren := {
  mixed := by kernel_rfl
  f314 := Tryd.func83.trans (congrArg some (by kernel_rfl))
  t3 := Tryd.underlying3
  a3 := Tryd.isAgg3
  z3 := Tryd.sizeOf3
  v3 := Tryd.zeroValue3
  t4 := Tryd.underlying4
  a4 := Tryd.isAgg4
  z4 := Tryd.sizeOf4
  v4 := Tryd.zeroValue4
  t5 := Tryd.underlying5
  a5 := Tryd.isAgg5
  z5 := Tryd.sizeOf5
  v5 := Tryd.zeroValue5
  t9 := Tryd.underlying9
  a9 := Tryd.isAgg9
  z9 := Tryd.sizeOf9
  v9 := Tryd.zeroValue9
  t46 := Tryd.underlying44
  a46 := Tryd.isAgg44
  z46 := Tryd.sizeOf44
  v46 := Tryd.zeroValue44
  t51 := Tryd.underlying67
  a51 := Tryd.isAgg67
  z51 := Tryd.sizeOf67
  v51 := Tryd.zeroValue67 }
open Go.RowKit Go.Lib in
theorem Tryd.bytealg_hashStr (sep : ByteArray) (hs : sep.size < 4294967281) (w : World) :
    Calls Tryd.prog 83 #[.string sep] w fun e w' => e = .returned (.tuple #[.int .u32 (RK.H sep.data.toList % 4294967296), .int .u32 (16777619 ^ sep.size % 4294967296)]) ∧ w' = w := Any.bytealg_hashStr Tryd.lays314 sep hs w
def Tryd.lays267_ren : Go.Shelf.Ren := ⟨fun | 267 => 69 | 314 => 83 | n => n, fun | 9 => 9 | 3 => 3 | 146 => 101 | 51 => 67 | 4 => 4 | 5 => 5 | 46 => 44 | n => n, fun | n => n⟩
theorem Tryd.lays267 : Go.Proofs.Lays.n267 Tryd.prog Tryd.lays267_ren := {
  mixed := by kernel_rfl
  f267 := Tryd.func69.trans (congrArg some (by kernel_rfl))
  f314 := Tryd.func83.trans (congrArg some (by kernel_rfl))
  t3 := Tryd.underlying3
  a3 := Tryd.isAgg3
  z3 := Tryd.sizeOf3
  v3 := Tryd.zeroValue3
  t4 := Tryd.underlying4
  a4 := Tryd.isAgg4
  z4 := Tryd.sizeOf4
  v4 := Tryd.zeroValue4
  t5 := Tryd.underlying5
  a5 := Tryd.isAgg5
  z5 := Tryd.sizeOf5
  v5 := Tryd.zeroValue5
  t9 := Tryd.underlying9
  a9 := Tryd.isAgg9
  z9 := Tryd.sizeOf9
  v9 := Tryd.zeroValue9
  t46 := Tryd.underlying44
  a46 := Tryd.isAgg44
  z46 := Tryd.sizeOf44
  v46 := Tryd.zeroValue44
  t51 := Tryd.underlying67
  a51 := Tryd.isAgg67
  z51 := Tryd.sizeOf67
  v51 := Tryd.zeroValue67
  t146 := Tryd.underlying101
  a146 := Tryd.isAgg101
  z146 := Tryd.sizeOf101
  v146 := Tryd.zeroValue101 }
open Go.RowKit Go.Lib in
theorem Tryd.bytealg_IndexRabinKarp (s sep : ByteArray) (h1 : 1 ≤ sep.size) (h2 : sep.size ≤ s.size) (hs : s.size < 4294967281) (w : World) :
    Calls Tryd.prog 69 #[.string s, .string sep] w fun e w' => e = .returned (.int .i64 (Lib.index s.data.toList sep.data.toList)) ∧ w' = w := Any.bytealg_IndexRabinKarp Tryd.lays267 s sep h1 h2 hs w
def Tryd.lays219_ren : Go.Shelf.Ren := ⟨fun | 219 => 51 | 217 => 68 | 225 => 66 | 224 => 65 | 267 => 69 | 266 => 82 | 314 => 83 | n => n, fun | 9 => 9 | 3 => 3 | 4 => 4 | 5 => 5 | 46 => 44 | 146 => 101 | 51 => 67 | n => n, fun | 1 => 2 | n => n⟩
theorem Tryd.lays219 : Go.Proofs.Lays.n219 Tryd.prog Tryd.lays219_ren := {
  mixed := by kernel_rfl
  f217 := Tryd.func68.trans (congrArg some (by kernel_rfl))
  f219 := Tryd.func51.trans (congrArg some (by kernel_rfl))
  f224 := Tryd.func65.trans (congrArg some (by kernel_rfl))
  f225 := Tryd.func66.trans (congrArg some (by kernel_rfl))
  f266 := Tryd.func82.trans (congrArg some (by kernel_rfl))
  f267 := Tryd.func69.trans (congrArg some (by kernel_rfl))
  f314 := Tryd.func83.trans (congrArg some (by kernel_rfl))
  t3 := Tryd.underlying3
  a3 := Tryd.isAgg3
  z3 := Tryd.sizeOf3
  v3 := Tryd.zeroValue3
  t4 := Tryd.underlying4
  a4 := Tryd.isAgg4
  z4 := Tryd.sizeOf4
  v4 := Tryd.zeroValue4
  t5 := Tryd.underlying5
  a5 := Tryd.isAgg5
  z5 := Tryd.sizeOf5
  v5 := Tryd.zeroValue5
  t9 := Tryd.underlying9
  a9 := Tryd.isAgg9
  z9 := Tryd.sizeOf9
  v9 := Tryd.zeroValue9
  t46 := Tryd.underlying44
  a46 := Tryd.isAgg44
  z46 := Tryd.sizeOf44
  v46 := Tryd.zeroValue44
  t51 := Tryd.underlying67
  a51 := Tryd.isAgg67
  z51 := Tryd.sizeOf67
  v51 := Tryd.zeroValue67
  t146 := Tryd.underlying101
  a146 := Tryd.isAgg101
  z146 := Tryd.sizeOf101
  v146 := Tryd.zeroValue101
  g1 := by kernel_rfl }
open Go.RowKit Go.Lib in
theorem Tryd.stringslite_Index_one (s : ByteArray) (c : UInt8) (w : World) :
    Calls Tryd.prog 51 #[.string s, .string ⟨#[c]⟩] w fun e w' => e = .returned (.int .i64 (Lib.indexByte s.data.toList c)) ∧ w' = w := Any.stringslite_Index_one Tryd.lays219 s c w
open Go.RowKit Go.Lib in
theorem Tryd.stringslite_Index (s sub : ByteArray) (m : Int) (w : World) (hs : s.size < 4294967281) (hm : w.cell? ⟨2, 0, none⟩ = some (.int .i64 m)) :
    Calls Tryd.prog 51 #[.string s, .string sub] w fun e w' => e = .returned (.int .i64 (Lib.index s.data.toList sub.data.toList)) ∧ w' = w := Any.stringslite_Index Tryd.lays219 s sub m w hs hm
def Tryd.lays143_ren : Go.Shelf.Ren := ⟨fun | 143 => 41 | 219 => 51 | 217 => 68 | 225 => 66 | 224 => 65 | 267 => 69 | 266 => 82 | 314 => 83 | n => n, fun | 9 => 9 | 3 => 3 | 4 => 4 | 5 => 5 | 46 => 44 | 146 => 101 | 51 => 67 | n => n, fun | 1 => 2 | n => n⟩
theorem Tryd.lays143 : Go.Proofs.Lays.n143 Tryd.prog Tryd.lays143_ren := {
  mixed := by kernel_rfl
  f143 := Tryd.func41.trans (congrArg some (by kernel_rfl))
  f217 := Tryd.func68.trans (congrArg some (by kernel_rfl))
  f219 := Tryd.func51.trans (congrArg some (by kernel_rfl))
  f224 := Tryd.func65.trans (congrArg some (by kernel_rfl))
  f225 := Tryd.func66.trans (congrArg some (by kernel_rfl))
  f266 := Tryd.func82.trans (congrArg some (by kernel_rfl))
  f267 := Tryd.func69.trans (congrArg some (by kernel_rfl))
  f314 := Tryd.func83.trans (congrArg some (by kernel_rfl))
  t3 := Tryd.underlying3
  a3 := Tryd.isAgg3
  z3 := Tryd.sizeOf3
  v3 := Tryd.zeroValue3
  t4 := Tryd.underlying4
  a4 := Tryd.isAgg4
  z4 := Tryd.sizeOf4
  v4 := Tryd.zeroValue4
  t5 := Tryd.underlying5
  a5 := Tryd.isAgg5
  z5 := Tryd.sizeOf5
  v5 := Tryd.zeroValue5
  t9 := Tryd.underlying9
  a9 := Tryd.isAgg9
  z9 := Tryd.sizeOf9
  v9 := Tryd.zeroValue9
  t46 := Tryd.underlying44
  a46 := Tryd.isAgg44
  z46 := Tryd.sizeOf44
  v46 := Tryd.zeroValue44
  t51 := Tryd.underlying67
  a51 := Tryd.isAgg67
  z51 := Tryd.sizeOf67
  v51 := Tryd.zeroValue67
  t146 := Tryd.underlying101
  a146 := Tryd.isAgg101
  z146 := Tryd.sizeOf101
  v146 := Tryd.zeroValue101
  g1 := by kernel_rfl }
open Go.RowKit Go.Lib in
theorem Tryd.strings_Index_one (s : ByteArray) (c : UInt8) (w : World) :
    Calls Tryd.prog 41 #[.string s, .string ⟨#[c]⟩] w fun e w' => e = .returned (.int .i64 (Lib.indexByte s.data.toList c)) ∧ w' = w := Any.strings_Index_one Tryd.lays143 s c w
open Go.RowKit Go.Lib in
theorem Tryd.strings_Index (s sub : ByteArray) (m : Int) (w : World) (hs : s.size < 4294967281) (hm : w.cell? ⟨2, 0, none⟩ = some (.int .i64 m)) :
    Calls Tryd.prog 41 #[.string s, .string sub] w fun e w' => e = .returned (.int .i64 (Lib.index s.data.toList sub.data.toList)) ∧ w' = w := Any.strings_Index Tryd.lays143 s sub m w hs hm
def Tryd.lays144_ren : Go.Shelf.Ren := ⟨fun | 144 => 27 | 143 => 41 | 219 => 51 | 217 => 68 | 225 => 66 | 224 => 65 | 267 => 69 | 266 => 82 | 314 => 83 | n => n, fun | 9 => 9 | 4 => 4 | 3 => 3 | 5 => 5 | 46 => 44 | 146 => 101 | 51 => 67 | n => n, fun | 1 => 2 | n => n⟩
theorem Tryd.lays144 : Go.Proofs.Lays.n144 Tryd.prog Tryd.lays144_ren := {
  mixed := by kernel_rfl
  f143 := Tryd.func41.trans (congrArg some (by kernel_rfl))
  f144 := Tryd.func27.trans (congrArg some (by kernel_rfl))
  f217 := Tryd.func68.trans (congrArg some (by kernel_rfl))
  f219 := Tryd.func51.trans (congrArg some (by kernel_rfl))
  f224 := Tryd.func65.trans (congrArg some (by kernel_rfl))
  f225 := Tryd.func66.trans (congrArg some (by kernel_rfl))
  f266 := Tryd.func82.trans (congrArg some (by kernel_rfl))
  f267 := Tryd.func69.trans (congrArg some (by kernel_rfl))
  f314 := Tryd.func83.trans (congrArg some (by kernel_rfl))
  t3 := Tryd.underlying3
  a3 := Tryd.isAgg3
  z3 := Tryd.sizeOf3
  v3 := Tryd.zeroValue3
  t4 := Tryd.underlying4
  a4 := Tryd.isAgg4
  z4 := Tryd.sizeOf4
  v4 := Tryd.zeroValue4
  t5 := Tryd.underlying5
  a5 := Tryd.isAgg5
  z5 := Tryd.sizeOf5
  v5 := Tryd.zeroValue5
  t9 := Tryd.underlying9
  a9 := Tryd.isAgg9
  z9 := Tryd.sizeOf9
  v9 := Tryd.zeroValue9
  t46 := Tryd.underlying44
  a46 := Tryd.isAgg44
  z46 := Tryd.sizeOf44
  v46 := Tryd.zeroValue44
  t51 := Tryd.underlying67
  a51 := Tryd.isAgg67
  z51 := Tryd.sizeOf67
  v51 := Tryd.zeroValue67
  t146 := Tryd.underlying101
  a146 := Tryd.isAgg101
  z146 := Tryd.sizeOf101
  v146 := Tryd.zeroValue101
  g1 := by kernel_rfl }
open Go.RowKit Go.Lib in
theorem Tryd.strings_Contains_one (s : ByteArray) (c : UInt8) (w : World) :
    Calls Tryd.prog 27 #[.string s, .string ⟨#[c]⟩] w fun e w' => e = .returned (.bool (decide (0 ≤ Lib.indexByte s.data.toList c))) ∧ w' = w := Any.strings_Contains_one Tryd.lays144 s c w
open Go.RowKit Go.Lib in
theorem Tryd.strings_Contains (s sub : ByteArray) (m : Int) (w : World) (hs : s.size < 4294967281) (hm : w.cell? ⟨2, 0, none⟩ = some (.int .i64 m)) :
    Calls Tryd.prog 27 #[.string s, .string sub] w fun e w' => e = .returned (.bool (Lib.contains s.data.toList sub.data.toList)) ∧ w' = w := Any.strings_Contains Tryd.lays144 s sub m w hs hm
def Tryd.lays220_ren : Go.Shelf.Ren := ⟨fun | 220 => 37 | 219 => 51 | 217 => 68 | 225 => 66 | 224 => 65 | 267 => 69 | 266 => 82 | 314 => 83 | n => n, fun | 9 => 9 | 4 => 4 | 3 => 3 | 5 => 5 | 46 => 44 | 146 => 101 | 51 => 67 | n => n, fun | 1 => 2 | n => n⟩
theorem Tryd.lays220 : Go.Proofs.Lays.n220 Tryd.prog Tryd.lays220_ren := {
  mixed := by kernel_rfl
  f217 := Tryd.func68.trans (congrArg some (by kernel_rfl))
  f219 := Tryd.func51.trans (congrArg some (by kernel_rfl))
  f220 := Tryd.func37.trans (congrArg some (by kernel_rfl))
  f224 := Tryd.func65.trans (congrArg some (by kernel_rfl))
  f225 := Tryd.func66.trans (congrArg some (by kernel_rfl))
  f266 := Tryd.func82.trans (congrArg some (by kernel_rfl))
  f267 := Tryd.func69.trans (congrArg some (by kernel_rfl))
  f314 := Tryd.func83.trans (congrArg some (by kernel_rfl))
  t3 := Tryd.underlying3
  a3 := Tryd.isAgg3
  z3 := Tryd.sizeOf3
  v3 := Tryd.zeroValue3
  t4 := Tryd.underlying4
  a4 := Tryd.isAgg4
  z4 := Tryd.sizeOf4
  v4 := Tryd.zeroValue4
  t5 := Tryd.underlying5
  a5 := Tryd.isAgg5
  z5 := Tryd.sizeOf5
  v5 := Tryd.zeroValue5
  t9 := Tryd.underlying9
  a9 := Tryd.isAgg9
  z9 := Tryd.sizeOf9
  v9 := Tryd.zeroValue9
  t46 := Tryd.underlying44
  a46 := Tryd.isAgg44
  z46 := Tryd.sizeOf44
  v46 := Tryd.zeroValue44
  t51 := Tryd.underlying67
  a51 := Tryd.isAgg67
  z51 := Tryd.sizeOf67
  v51 := Tryd.zeroValue67
  t146 := Tryd.underlying101
  a146 := Tryd.isAgg101
  z146 := Tryd.sizeOf101
  v146 := Tryd.zeroValue101
  g1 := by kernel_rfl }
open Go.RowKit Go.Lib in
theorem Tryd.stringslite_Cut (s sep : ByteArray) (m : Int) (w : World) (hs : s.size < 4294967281) (hm : w.cell? ⟨2, 0, none⟩ = some (.int .i64 m)) :
    Calls Tryd.prog 37 #[.string s, .string sep] w fun e w' => e = .returned (.tuple #[.string ⟨(Lib.cut s.data.toList sep.data.toList).1.toArray⟩, .string ⟨(Lib.cut s.data.toList sep.data.toList).2.1.toArray⟩, .bool (Lib.cut s.data.toList sep.data.toList).2.2]) ∧ ∃ n, w' = w.drewN n := Any.stringslite_Cut Tryd.lays220 s sep m w hs hm
def Tryd.lays145_ren : Go.Shelf.Ren := ⟨fun | 145 => 25 | 220 => 37 | 219 => 51 | 217 => 68 | 225 => 66 | 224 => 65 | 267 => 69 | 266 => 82 | 314 => 83 | n => n, fun | 9 => 9 | 4 => 4 | 59 => 37 | 3 => 3 | 5 => 5 | 46 => 44 | 146 => 101 | 51 => 67 | n => n, fun | 1 => 2 | n => n⟩
theorem Tryd.lays145 : Go.Proofs.Lays.n145 Tryd.prog Tryd.lays145_ren := {
  mixed := by kernel_rfl
  f145 := Tryd.func25.trans (congrArg some (by kernel_rfl))
  f217 := Tryd.func68.trans (congrArg some (by kernel_rfl))
  f219 := Tryd.func51.trans (congrArg some (by kernel_rfl))
  f220 := Tryd.func37.trans (congrArg some (by kernel_rfl))
  f224 := Tryd.func65.trans (congrArg some (by kernel_rfl))
  f225 := Tryd.func66.trans (congrArg some (by kernel_rfl))
  f266 := Tryd.func82.trans (congrArg some (by kernel_rfl))
  f267 := Tryd.func69.trans (congrArg some (by kernel_rfl))
  f314 := Tryd.func83.trans (congrArg some (by kernel_rfl))
  t3 := Tryd.underlying3
  a3 := Tryd.isAgg3
  z3 := Tryd.sizeOf3
  v3 := Tryd.zeroValue3
  t4 := Tryd.underlying4
  a4 := Tryd.isAgg4
  z4 := Tryd.sizeOf4
  v4 := Tryd.zeroValue4
  t5 := Tryd.underlying5
  a5 := Tryd.isAgg5
  z5 := Tryd.sizeOf5
  v5 := Tryd.zeroValue5
  t9 := Tryd.underlying9
  a9 := Tryd.isAgg9
  z9 := Tryd.sizeOf9
  v9 := Tryd.zeroValue9
  t46 := Tryd.underlying44
  a46 := Tryd.isAgg44
  z46 := Tryd.sizeOf44
  v46 := Tryd.zeroValue44
  t51 := Tryd.underlying67
  a51 := Tryd.isAgg67
  z51 := Tryd.sizeOf67
  v51 := Tryd.zeroValue67
  t59 := Tryd.underlying37
  a59 := Tryd.isAgg37
  z59 := Tryd.sizeOf37
  v59 := Tryd.zeroValue37
  t146 := Tryd.underlying101
  a146 := Tryd.isAgg101
  z146 := Tryd.sizeOf101
  v146 := Tryd.zeroValue101
  g1 := by kernel_rfl }
open Go.RowKit Go.Lib in
theorem Tryd.strings_Cut (s sep : ByteArray) (m : Int) (w : World) (hs : s.size < 4294967281) (hm : w.cell? ⟨2, 0, none⟩ = some (.int .i64 m)) :
    Calls Tryd.prog 25 #[.string s, .string sep] w fun e w' => e = .returned (.tuple #[.string ⟨(Lib.cut s.data.toList sep.data.toList).1.toArray⟩, .string ⟨(Lib.cut s.data.toList sep.data.toList).2.1.toArray⟩, .bool (Lib.cut s.data.toList sep.data.toList).2.2]) ∧ ∃ n, w' = w.drewN n := Any.strings_Cut Tryd.lays145 s sep m w hs hm
def Tryd.lays138_ren : Go.Shelf.Ren := ⟨fun | 138 => 61 | 195 => 79 | 218 => 80 | 143 => 41 | 219 => 51 | 217 => 68 | 225 => 66 | 224 => 65 | 267 => 69 | 266 => 82 | 314 => 83 | n => n, fun | 9 => 9 | 3 => 3 | 4 => 4 | 5 => 5 | 0 => 0 | 46 => 44 | 146 => 101 | 51 => 67 | n => n, fun | 1 => 2 | n => n⟩
theorem Tryd.lays138 : Go.Proofs.Lays.n138 Tryd.prog Tryd.lays138_ren := {
  mixed := by kernel_rfl
  f138 := Tryd.func61.trans (congrArg some (by kernel_rfl))
  f143 := Tryd.func41.trans (congrArg some (by kernel_rfl))
  f195 := Tryd.func79.trans (congrArg some (by kernel_rfl))
  f217 := Tryd.func68.trans (congrArg some (by kernel_rfl))
  f218 := Tryd.func80.trans (congrArg some (by kernel_rfl))
  f219 := Tryd.func51.trans (congrArg some (by kernel_rfl))
  f224 := Tryd.func65.trans (congrArg some (by kernel_rfl))
  f225 := Tryd.func66.trans (congrArg some (by kernel_rfl))
  f266 := Tryd.func82.trans (congrArg some (by kernel_rfl))
  f267 := Tryd.func69.trans (congrArg some (by kernel_rfl))
  f314 := Tryd.func83.trans (congrArg some (by kernel_rfl))
  t0 := Tryd.underlying0
  a0 := Tryd.isAgg0
  z0 := Tryd.sizeOf0
  v0 := Tryd.zeroValue0
  t3 := Tryd.underlying3
  a3 := Tryd.isAgg3
  z3 := Tryd.sizeOf3
  v3 := Tryd.zeroValue3
  t4 := Tryd.underlying4
  a4 := Tryd.isAgg4
  z4 := Tryd.sizeOf4
  v4 := Tryd.zeroValue4
  t5 := Tryd.underlying5
  a5 := Tryd.isAgg5
  z5 := Tryd.sizeOf5
  v5 := Tryd.zeroValue5
  t9 := Tryd.underlying9
  a9 := Tryd.isAgg9
  z9 := Tryd.sizeOf9
  v9 := Tryd.zeroValue9
  t46 := Tryd.underlying44
  a46 := Tryd.isAgg44
  z46 := Tryd.sizeOf44
  v46 := Tryd.zeroValue44
  t51 := Tryd.underlying67
  a51 := Tryd.isAgg67
  z51 := Tryd.sizeOf67
  v51 := Tryd.zeroValue67
  t146 := Tryd.underlying101
  a146 := Tryd.isAgg101
  z146 := Tryd.sizeOf101
  v146 := Tryd.zeroValue101
  g1 := by kernel_rfl }
open Go.RowKit Go.Lib in
theorem Tryd.strings_Count_one (s : ByteArray) (c : UInt8) (w : World) :
    Calls Tryd.prog 61 #[.string s, .string ⟨#[c]⟩] w fun e w' => e = .returned (.int .i64 (Lib.countByte s.data.toList c)) ∧ w' = w := Any.strings_Count_one Tryd.lays138 s c w
open Go.RowKit Go.Lib in
theorem Tryd.strings_Count (s sub : ByteArray) (m : Int) (w : World) (hs : s.size < 4294967281) (hm : w.cell? ⟨2, 0, none⟩ = some (.int .i64 m)) (h2 : 2 ≤ sub.size) :
    Calls Tryd.prog 61 #[.string s, .string sub] w fun e w' => e = .returned (.int .i64 (Lib.countB s sub)) ∧ w' = w := Any.strings_Count Tryd.lays138 s sub m w hs hm h2
def Tryd.laysM219_ren : Go.Shelf.Ren := ⟨fun | 219 => 51 | 217 => 68 | 225 => 66 | 224 => 65 | 267 => 69 | 266 => 82 | 314 => 83 | n => n, fun | 9 => 9 | 3 => 3 | 4 => 4 | 5 => 5 | 46 => 44 | 146 => 101 | 51 => 67 | n => n, fun | 1 => 2 | n => n⟩
theorem Tryd.laysM219 : Go.Proofs.LaysM.n219 Tryd.prog Tryd.laysM219_ren := {
  mixed := by kernel_rfl
  f217 := Tryd.func68.trans (congrArg some (by kernel_rfl))
  f219 := Tryd.func51.trans (congrArg some (by kernel_rfl))
  f224 := Tryd.func65.trans (congrArg some (by kernel_rfl))
  f225 := Tryd.func66.trans (congrArg some (by kernel_rfl))
  f266 := Tryd.func82.trans (congrArg some (by kernel_rfl))
  f267 := Tryd.func69.trans (congrArg some (by kernel_rfl))
  f314 := Tryd.func83.trans (congrArg some (by kernel_rfl))
  t3 := Tryd.underlying3
  a3 := Tryd.isAgg3
  z3 := Tryd.sizeOf3
  v3 := Tryd.zeroValue3
  t4 := Tryd.underlying4
  a4 := Tryd.isAgg4
  z4 := Tryd.sizeOf4
  v4 := Tryd.zeroValue4
  t5 := Tryd.underlying5
  a5 := Tryd.isAgg5
  z5 := Tryd.sizeOf5
  v5 := Tryd.zeroValue5
  t9 := Tryd.underlying9
  a9 := Tryd.isAgg9
  z9 := Tryd.sizeOf9
  v9 := Tryd.zeroValue9
  t46 := Tryd.underlying44
  a46 := Tryd.isAgg44
  z46 := Tryd.sizeOf44
  v46 := Tryd.zeroValue44
  t51 := Tryd.underlying67
  a51 := Tryd.isAgg67
  z51 := Tryd.sizeOf67
  v51 := Tryd.zeroValue67
  t146 := Tryd.underlying101
  a146 := Tryd.isAgg101
  z146 := Tryd.sizeOf101
  v146 := Tryd.zeroValue101
  g1 := by kernel_rfl
  i3 := by kernel_rfl
  i4 := by kernel_rfl
  i5 := by kernel_rfl
  i9 := by kernel_rfl
  i46 := by kernel_rfl
  i51 := by kernel_rfl
  i146 := by kernel_rfl
  m1 := by kernel_rfl
  s1_3 := fun w h => Go.Proofs.cell_of_shapedOpen_int (zero := #[.int .i64 0]) (t := 3) h (of_decide_eq_true (by kernel_rfl)) (by kernel_rfl) rfl (by kernel_rfl) (by kernel_rfl) Tryd.underlying3 }
open Go.RowKit Go.Lib in
theorem Tryd.stringslite_Index_shaped (s sub : ByteArray) (w : World) (h : w.ShapedOpen Tryd.prog) (hs : s.size < 4294967281) :
    Calls Tryd.prog 51 #[.string s, .string sub] w fun e w' => e = .returned (.int .i64 (Lib.index s.data.toList sub.data.toList)) ∧ w' = w := Any.stringslite_Index_shaped Tryd.laysM219 s sub w h hs
def Tryd.laysM143_ren : Go.Shelf.Ren := ⟨fun | 143 => 41 | 219 => 51 | 217 => 68 | 225 => 66 | 224 => 65 | 267 => 69 | 266 => 82 | 314 => 83 | n => n, fun | 9 => 9 | 3 => 3 | 4 => 4 | 5 => 5 | 46 => 44 | 146 => 101 | 51 => 67 | n => n, fun | 1 => 2 | n => n⟩
theorem Tryd.laysM143 : Go.Proofs.LaysM.n143 Tryd.prog Tryd.laysM143_ren := {
  mixed := by kernel_rfl
  f143 := Tryd.func41.trans (congrArg some (by kernel_rfl))
  f217 := Tryd.func68.trans (congrArg some (by kernel_rfl))
  f219 := Tryd.func51.trans (congrArg some (by kernel_rfl))
  f224 := Tryd.func65.trans (congrArg some (by kernel_rfl))
  f225 := Tryd.func66.trans (congrArg some (by kernel_rfl))
  f266 := Tryd.func82.trans (congrArg some (by kernel_rfl))
  f267 := Tryd.func69.trans (congrArg some (by kernel_rfl))
  f314 := Tryd.func83.trans (congrArg some (by kernel_rfl))
  t3 := Tryd.underlying3
  a3 := Tryd.isAgg3
  z3 := Tryd.sizeOf3
  v3 := Tryd.zeroValue3
  t4 := Tryd.underlying4
  a4 := Tryd.isAgg4
  z4 := Tryd.sizeOf4
  v4 := Tryd.zeroValue4
  t5 := Tryd.underlying5
  a5 := Tryd.isAgg5
  z5 := Tryd.sizeOf5
  v5 := Tryd.zeroValue5
  t9 := Tryd.underlying9
  a9 := Tryd.isAgg9
  z9 := Tryd.sizeOf9
  v9 := Tryd.zeroValue9
  t46 := Tryd.underlying44
  a46 := Tryd.isAgg44
  z46 := Tryd.sizeOf44
  v46 := Tryd.zeroValue44
  t51 := Tryd.underlying67
  a51 := Tryd.isAgg67
  z51 := Tryd.sizeOf67
  v51 := Tryd.zeroValue67
  t146 := Tryd.underlying101
  a146 := Tryd.isAgg101
  z146 := Tryd.sizeOf101
  v146 := Tryd.zeroValue101
  g1 := by kernel_rfl
  i3 := by kernel_rfl
  i4 := by kernel_rfl
  i5 := by kernel_rfl
  i9 := by kernel_rfl
  i46 := by kernel_rfl
  i51 := by kernel_rfl
  i146 := by kernel_rfl
  m1 := by kernel_rfl
  s1_3 := fun w h => Go.Proofs.cell_of_shapedOpen_int (zero := #[.int .i64 0]) (t := 3) h (of_decide_eq_true (by kernel_rfl)) (by kernel_rfl) rfl (by kernel_rfl) (by kernel_rfl) Tryd.underlying3 }
open Go.RowKit Go.Lib in
theorem Tryd.strings_Index_shaped (s sub : ByteArray) (w : World) (h : w.ShapedOpen Tryd.prog) (hs : s.size < 4294967281) :
    Calls Tryd.prog 41 #[.string s, .string sub] w fun e w' => e = .returned (.int .i64 (Lib.index s.data.toList sub.data.toList)) ∧ w' = w := Any.strings_Index_shaped Tryd.laysM143 s sub w h hs
def Tryd.laysM144_ren : Go.Shelf.Ren := ⟨fun | 144 => 27 | 143 => 41 | 219 => 51 | 217 => 68 | 225 => 66 | 224 => 65 | 267 => 69 | 266 => 82 | 314 => 83 | n => n, fun | 9 => 9 | 4 => 4 | 3 => 3 | 5 => 5 | 46 => 44 | 146 => 101 | 51 => 67 | n => n, fun | 1 => 2 | n => n⟩
theorem Tryd.laysM144 : Go.Proofs.LaysM.n144 Tryd.prog Tryd.laysM144_ren := {
  mixed := by kernel_rfl
  f143 := Tryd.func41.trans (congrArg some (by kernel_rfl))
  f144 := Tryd.func27.trans (congrArg some (by kernel_rfl))
  f217 := Tryd.func68.trans (congrArg some (by kernel_rfl))
  f219 := Tryd.func51.trans (congrArg some (by kernel_rfl))
  f224 := Tryd.func65.trans (congrArg some (by kernel_rfl))
  f225 := Tryd.func66.trans (congrArg some (by kernel_rfl))
  f266 := Tryd.func82.trans (congrArg some (by kernel_rfl))
  f267 := Tryd.func69.trans (congrArg some (by kernel_rfl))
  f314 := Tryd.func83.trans (congrArg some (by kernel_rfl))
  t3 := Tryd.underlying3
  a3 := Tryd.isAgg3
  z3 := Tryd.sizeOf3
  v3 := Tryd.zeroValue3
  t4 := Tryd.underlying4
  a4 := Tryd.isAgg4
  z4 := Tryd.sizeOf4
  v4 := Tryd.zeroValue4
  t5 := Tryd.underlying5
  a5 := Tryd.isAgg5
  z5 := Tryd.sizeOf5
  v5 := Tryd.zeroValue5
  t9 := Tryd.underlying9
  a9 := Tryd.isAgg9
  z9 := Tryd.sizeOf9
  v9 := Tryd.zeroValue9
  t46 := Tryd.underlying44
  a46 := Tryd.isAgg44
  z46 := Tryd.sizeOf44
  v46 := Tryd.zeroValue44
  t51 := Tryd.underlying67
  a51 := Tryd.isAgg67
  z51 := Tryd.sizeOf67
  v51 := Tryd.zeroValue67
  t146 := Tryd.underlying101
  a146 := Tryd.isAgg101
  z146 := Tryd.sizeOf101
  v146 := Tryd.zeroValue101
  g1 := by kernel_rfl
  i3 := by kernel_rfl
  i4 := by kernel_rfl
  i5 := by kernel_rfl
  i9 := by kernel_rfl
  i46 := by kernel_rfl
  i51 := by kernel_rfl
  i146 := by kernel_rfl
  m1 := by kernel_rfl
  s1_3 := fun w h => Go.Proofs.cell_of_shapedOpen_int (zero := #[.int .i64 0]) (t := 3) h (of_decide_eq_true (by kernel_rfl)) (by kernel_rfl) rfl (by kernel_rfl) (by kernel_rfl) Tryd.underlying3 }
open Go.RowKit Go.Lib in
theorem Tryd.strings_Contains_shaped (s sub : ByteArray) (w : World) (h : w.ShapedOpen Tryd.prog) (hs : s.size < 4294967281) :
    Calls Tryd.prog 27 #[.string s, .string sub] w fun e w' => e = .returned (.bool (Lib.contains s.data.toList sub.data.toList)) ∧ w' = w := Any.strings_Contains_shaped Tryd.laysM144 s sub w h hs
def Tryd.laysM220_ren : Go.Shelf.Ren := ⟨fun | 220 => 37 | 219 => 51 | 217 => 68 | 225 => 66 | 224 => 65 | 267 => 69 | 266 => 82 | 314 => 83 | n => n, fun | 9 => 9 | 4 => 4 | 3 => 3 | 5 => 5 | 46 => 44 | 146 => 101 | 51 => 67 | n => n, fun | 1 => 2 | n => n⟩
theorem Tryd.laysM220 : Go.Proofs.LaysM.n220 Tryd.prog Tryd.laysM220_ren := {
  mixed := by kernel_rfl
  f217 := Tryd.func68.trans (congrArg some (by kernel_rfl))
  f219 := Tryd.func51.trans (congrArg some (by kernel_rfl))
  f220 := Tryd.func37.trans (congrArg some (by kernel_rfl))
  f224 := Tryd.func65.trans (congrArg some (by kernel_rfl))
  f225 := Tryd.func66.trans (congrArg some (by kernel_rfl))
  f266 := Tryd.func82.trans (congrArg some (by kernel_rfl))
  f267 := Tryd.func69.trans (congrArg some (by kernel_rfl))
  f314 := Tryd.func83.trans (congrArg some (by kernel_rfl))
  t3 := Tryd.underlying3
  a3 := Tryd.isAgg3
  z3 := Tryd.sizeOf3
  v3 := Tryd.zeroValue3
  t4 := Tryd.underlying4
  a4 := Tryd.isAgg4
  z4 := Tryd.sizeOf4
  v4 := Tryd.zeroValue4
  t5 := Tryd.underlying5
  a5 := Tryd.isAgg5
  z5 := Tryd.sizeOf5
  v5 := Tryd.zeroValue5
  t9 := Tryd.underlying9
  a9 := Tryd.isAgg9
  z9 := Tryd.sizeOf9
  v9 := Tryd.zeroValue9
  t46 := Tryd.underlying44
  a46 := Tryd.isAgg44
  z46 := Tryd.sizeOf44
  v46 := Tryd.zeroValue44
  t51 := Tryd.underlying67
  a51 := Tryd.isAgg67
  z51 := Tryd.sizeOf67
  v51 := Tryd.zeroValue67
  t146 := Tryd.underlying101
  a146 := Tryd.isAgg101
  z146 := Tryd.sizeOf101
  v146 := Tryd.zeroValue101
  g1 := by kernel_rfl
  i3 := by kernel_rfl
  i4 := by kernel_rfl
  i5 := by kernel_rfl
  i9 := by kernel_rfl
  i46 := by kernel_rfl
  i51 := by kernel_rfl
  i146 := by kernel_rfl
  m1 := by kernel_rfl
  s1_3 := fun w h => Go.Proofs.cell_of_shapedOpen_int (zero := #[.int .i64 0]) (t := 3) h (of_decide_eq_true (by kernel_rfl)) (by kernel_rfl) rfl (by kernel_rfl) (by kernel_rfl) Tryd.underlying3 }
open Go.RowKit Go.Lib in
theorem Tryd.stringslite_Cut_shaped (s sep : ByteArray) (w : World) (h : w.ShapedOpen Tryd.prog) (hs : s.size < 4294967281) :
    Calls Tryd.prog 37 #[.string s, .string sep] w fun e w' => e = .returned (.tuple #[.string ⟨(Lib.cut s.data.toList sep.data.toList).1.toArray⟩, .string ⟨(Lib.cut s.data.toList sep.data.toList).2.1.toArray⟩, .bool (Lib.cut s.data.toList sep.data.toList).2.2]) ∧ ∃ n, w' = w.drewN n := Any.stringslite_Cut_shaped Tryd.laysM220 s sep w h hs
def Tryd.laysM145_ren : Go.Shelf.Ren := ⟨fun | 145 => 25 | 220 => 37 | 219 => 51 | 217 => 68 | 225 => 66 | 224 => 65 | 267 => 69 | 266 => 82 | 314 => 83 | n => n, fun | 9 => 9 | 4 => 4 | 59 => 37 | 3 => 3 | 5 => 5 | 46 => 44 | 146 => 101 | 51 => 67 | n => n, fun | 1 => 2 | n => n⟩
theorem Tryd.laysM145 : Go.Proofs.LaysM.n145 Tryd.prog Tryd.laysM145_ren := {
  mixed := by kernel_rfl
  f145 := Tryd.func25.trans (congrArg some (by kernel_rfl))
  f217 := Tryd.func68.trans (congrArg some (by kernel_rfl))
  f219 := Tryd.func51.trans (congrArg some (by kernel_rfl))
  f220 := Tryd.func37.trans (congrArg some (by kernel_rfl))
  f224 := Tryd.func65.trans (congrArg some (by kernel_rfl))
  f225 := Tryd.func66.trans (congrArg some (by kernel_rfl))
  f266 := Tryd.func82.trans (congrArg some (by kernel_rfl))
  f267 := Tryd.func69.trans (congrArg some (by kernel_rfl))
  f314 := Tryd.func83.trans (congrArg some (by kernel_rfl))
  t3 := Tryd.underlying3
  a3 := Tryd.isAgg3
  z3 := Tryd.sizeOf3
  v3 := Tryd.zeroValue3
  t4 := Tryd.underlying4
  a4 := Tryd.isAgg4
  z4 := Tryd.sizeOf4
  v4 := Tryd.zeroValue4
  t5 := Tryd.underlying5
  a5 := Tryd.isAgg5
  z5 := Tryd.sizeOf5
  v5 := Tryd.zeroValue5
  t9 := Tryd.underlying9
  a9 := Tryd.isAgg9
  z9 := Tryd.sizeOf9
  v9 := Tryd.zeroValue9
  t46 := Tryd.underlying44
  a46 := Tryd.isAgg44
  z46 := Tryd.sizeOf44
  v46 := Tryd.zeroValue44
  t51 := Tryd.underlying67
  a51 := Tryd.isAgg67
  z51 := Tryd.sizeOf67
  v51 := Tryd.zeroValue67
  t59 := Tryd.underlying37
  a59 := Tryd.isAgg37
  z59 := Tryd.sizeOf37
  v59 := Tryd.zeroValue37
  t146 := Tryd.underlying101
  a146 := Tryd.isAgg101
  z146 := Tryd.sizeOf101
  v146 := Tryd.zeroValue101
  g1 := by kernel_rfl
  i3 := by kernel_rfl
  i4 := by kernel_rfl
  i5 := by kernel_rfl
  i9 := by kernel_rfl
  i46 := by kernel_rfl
  i51 := by kernel_rfl
  i59 := by kernel_rfl
  i146 := by kernel_rfl
  m1 := by kernel_rfl
  s1_3 := fun w h => Go.Proofs.cell_of_shapedOpen_int (zero := #[.int .i64 0]) (t := 3) h (of_decide_eq_true (by kernel_rfl)) (by kernel_rfl) rfl (by kernel_rfl) (by kernel_rfl) Tryd.underlying3 }
open Go.RowKit Go.Lib in
theorem Tryd.strings_Cut_shaped (s sep : ByteArray) (w : World) (h : w.ShapedOpen Tryd.prog) (hs : s.size < 4294967281) :
    Calls Tryd.prog 25 #[.string s, .string sep] w fun e w' => e = .returned (.tuple #[.string ⟨(Lib.cut s.data.toList sep.data.toList).1.toArray⟩, .string ⟨(Lib.cut s.data.toList sep.data.toList).2.1.toArray⟩, .bool (Lib.cut s.data.toList sep.data.toList).2.2]) ∧ ∃ n, w' = w.drewN n := Any.strings_Cut_shaped Tryd.laysM145 s sep w h hs
def Tryd.laysM138_ren : Go.Shelf.Ren := ⟨fun | 138 => 61 | 195 => 79 | 218 => 80 | 143 => 41 | 219 => 51 | 217 => 68 | 225 => 66 | 224 => 65 | 267 => 69 | 266 => 82 | 314 => 83 | n => n, fun | 9 => 9 | 3 => 3 | 4 => 4 | 5 => 5 | 0 => 0 | 46 => 44 | 146 => 101 | 51 => 67 | n => n, fun | 1 => 2 | n => n⟩
theorem Tryd.laysM138 : Go.Proofs.LaysM.n138 Tryd.prog Tryd.laysM138_ren := {
  mixed := by kernel_rfl
  f138 := Tryd.func61.trans (congrArg some (by kernel_rfl))
  f143 := Tryd.func41.trans (congrArg some (by kernel_rfl))
  f195 := Tryd.func79.trans (congrArg some (by kernel_rfl))
  f217 := Tryd.func68.trans (congrArg some (by kernel_rfl))
  f218 := Tryd.func80.trans (congrArg some (by kernel_rfl))
  f219 := Tryd.func51.trans (congrArg some (by kernel_rfl))
  f224 := Tryd.func65.trans (congrArg some (by kernel_rfl))
  f225 := Tryd.func66.trans (congrArg some (by kernel_rfl))
  f266 := Tryd.func82.trans (congrArg some (by kernel_rfl))
  f267 := Tryd.func69.trans (congrArg some (by kernel_rfl))
  f314 := Tryd.func83.trans (congrArg some (by kernel_rfl))
  t0 := Tryd.underlying0
  a0 := Tryd.isAgg0
  z0 := Tryd.sizeOf0
  v0 := Tryd.zeroValue0
  t3 := Tryd.underlying3
  a3 := Tryd.isAgg3
  z3 := Tryd.sizeOf3
  v3 := Tryd.zeroValue3
  t4 := Tryd.underlying4
  a4 := Tryd.isAgg4
  z4 := Tryd.sizeOf4
  v4 := Tryd.zeroValue4
  t5 := Tryd.underlying5
  a5 := Tryd.isAgg5
  z5 := Tryd.sizeOf5
  v5 := Tryd.zeroValue5
  t9 := Tryd.underlying9
  a9 := Tryd.isAgg9
  z9 := Tryd.sizeOf9
  v9 := Tryd.zeroValue9
  t46 := Tryd.underlying44
  a46 := Tryd.isAgg44
  z46 := Tryd.sizeOf44
  v46 := Tryd.zeroValue44
  t51 := Tryd.underlying67
  a51 := Tryd.isAgg67
  z51 := Tryd.sizeOf67
  v51 := Tryd.zeroValue67
  t146 := Tryd.underlying101
  a146 := Tryd.isAgg101
  z146 := Tryd.sizeOf101
  v146 := Tryd.zeroValue101
  g1 := by kernel_rfl
  i0 := by kernel_rfl
  i3 := by kernel_rfl
  i4 := by kernel_rfl
  i5 := by kernel_rfl
  i9 := by kernel_rfl
  i46 := by kernel_rfl
  i51 := by kernel_rfl
  i146 := by kernel_rfl
  m1 := by kernel_rfl
  s1_3 := fun w h => Go.Proofs.cell_of_shapedOpen_int (zero := #[.int .i64 0]) (t := 3) h (of_decide_eq_true (by kernel_rfl)) (by kernel_rfl) rfl (by kernel_rfl) (by kernel_rfl) Tryd.underlying3 }
open Go.RowKit Go.Lib in
theorem Tryd.strings_Count_shaped (s sub : ByteArray) (w : World) (h : w.ShapedOpen Tryd.prog) (hs : s.size < 4294967281) (h2 : 2 ≤ sub.size) :
    Calls Tryd.prog 61 #[.string s, .string sub] w fun e w' => e = .returned (.int .i64 (Lib.countB s sub)) ∧ w' = w := Any.strings_Count_shaped Tryd.laysM138 s sub w h hs h2
def Tryd.lays206_ren : Go.Shelf.Ren := ⟨fun | 206 => 49 | n => n, fun | 9 => 9 | 4 => 4 | 3 => 3 | n => n, fun | n => n⟩
theorem Tryd.lays206 : Go.Proofs.Lays.n206 Tryd.prog Tryd.lays206_ren := {
  mixed := by kernel_rfl
  f206 := Tryd.func49.trans (congrArg some (by kernel_rfl))
  t3 := Tryd.underlying3
  a3 := Tryd.isAgg3
  z3 := Tryd.sizeOf3
  v3 := Tryd.zeroValue3
  t4 := Tryd.underlying4
  a4 := Tryd.isAgg4
  z4 := Tryd.sizeOf4
  v4 := Tryd.zeroValue4
  t9 := Tryd.underlying9
  a9 := Tryd.isAgg9
  z9 := Tryd.sizeOf9
  v9 := Tryd.zeroValue9 }
open Go.RowKit Go.Lib in
theorem Tryd.stringslite_HasPrefix (s p : ByteArray) (w : World) :
    Calls Tryd.prog 49 #[.string s, .string p] w fun e w' => e = .returned (.bool (Lib.hasPrefix s.data.toList p.data.toList)) ∧ w' = w := Any.stringslite_HasPrefix Tryd.lays206 s p w
def Tryd.lays99_ren : Go.Shelf.Ren := ⟨fun | 99 => 32 | 206 => 49 | n => n, fun | 9 => 9 | 4 => 4 | 3 => 3 | n => n, fun | n => n⟩
theorem Tryd.lays99 : Go.Proofs.Lays.n99 Tryd.prog Tryd.lays99_ren := {
  mixed := by kernel_rfl
  f99 := Tryd.func32.trans (congrArg some (by kernel_rfl))
  f206 := Tryd.func49.trans (congrArg some (by kernel_rfl))
  t3 := Tryd.underlying3
  a3 := Tryd.isAgg3
  z3 := Tryd.sizeOf3
  v3 := Tryd.zeroValue3
  t4 := Tryd.underlying4
  a4 := Tryd.isAgg4
  z4 := Tryd.sizeOf4
  v4 := Tryd.zeroValue4
  t9 := Tryd.underlying9
  a9 := Tryd.isAgg9
  z9 := Tryd.sizeOf9
  v9 := Tryd.zeroValue9 }
open Go.RowKit Go.Lib in
theorem Tryd.strings_HasPrefix (s p : ByteArray) (w : World) :
    Calls Tryd.prog 32 #[.string s, .string p] w fun e w' => e = .returned (.bool (Lib.hasPrefix s.data.toList p.data.toList)) ∧ w' = w := Any.strings_HasPrefix Tryd.lays99 s p w
open Go.RowKit Go.Lib in
theorem Tryd.strings_Count_any (s sep : ByteArray) (m : Int) (w : World) (hs : s.size < 4294967281) (hm : w.cell? ⟨2, 0, none⟩ = some (.int .i64 m)) (h1 : 1 ≤ sep.size) :
    Calls Tryd.prog 61 #[.string s, .string sep] w fun e w' => e = .returned (.int .i64 (Lib.countB s sep)) ∧ w' = w := Any.strings_Count_any Tryd.lays138 s sep m w hs hm h1
def Tryd.lays154_ren : Go.Shelf.Ren := ⟨fun | 154 => 44 | 138 => 61 | 165 => 62 | 143 => 41 | 166 => 33 | 197 => 55 | 169 => 34 | 195 => 79 | 218 => 80 | 240 => 50 | 241 => 81 | 219 => 51 | 260 => 74 | 276 => 67 | 277 => 88 | 217 => 68 | 225 => 66 | 224 => 65 | 267 => 69 | 266 => 82 | 314 => 83 | n => n, fun | 9 => 9 | 3 => 3 | 4 => 4 | 72 => 51 | 0 => 0 | 76 => 41 | 105 => 71 | 21 => 21 | 5 => 5 | 70 => 49 | 20 => 20 | 37 => 46 | 75 => 40 | 127 => 66 | 164 => 82 | 46 => 44 | 119 => 56 | 139 => 107 | 138 => 106 | 146 => 101 | 51 => 67 | 80 => 52 | n => n, fun | 1 => 2 | 3 => 5 | 4 => 6 | n => n⟩
theorem Tryd.lays154 : Go.Proofs.Lays.n154 Tryd.prog Tryd.lays154_ren := {
  mixed := by kernel_rfl
  f138 := Tryd.func61.trans (congrArg some (by kernel_rfl))
  f143 := Tryd.func41.trans (congrArg some (by kernel_rfl))
  f154 := Tryd.func44.trans (congrArg some (by kernel_rfl))
  f165 := Tryd.func62.trans (congrArg some (by kernel_rfl))
  f166 := Tryd.func33.trans (congrArg some (by kernel_rfl))
  f169 := Tryd.func34.trans (congrArg some (by kernel_rfl))
  f195 := Tryd.func79.trans (congrArg some (by kernel_rfl))
  f197 := Tryd.func55.trans (congrArg some (by kernel_rfl))
  f217 := Tryd.func68.trans (congrArg some (by kernel_rfl))
  f218 := Tryd.func80.trans (congrArg some (by kernel_rfl))
  f219 := Tryd.func51.trans (congrArg some (by kernel_rfl))
  f224 := Tryd.func65.trans (congrArg some (by kernel_rfl))
  f225 := Tryd.func66.trans (congrArg some (by kernel_rfl))
  f240 := Tryd.func50.trans (congrArg some (by kernel_rfl))
  f241 := Tryd.func81.trans (congrArg some (by kernel_rfl))
  f260 := Tryd.func74.trans (congrArg some (by kernel_rfl))
  f266 := Tryd.func82.trans (congrArg some (by kernel_rfl))
  f267 := Tryd.func69.trans (congrArg some (by kernel_rfl))
  f276 := Tryd.func67.trans (congrArg some (by kernel_rfl))
  f277 := Tryd.func88.trans (congrArg some (by kernel_rfl))
  f314 := Tryd.func83.trans (congrArg some (by kernel_rfl))
  t0 := Tryd.underlying0
  a0 := Tryd.isAgg0
  z0 := Tryd.sizeOf0
  v0 := Tryd.zeroValue0
  t3 := Tryd.underlying3
  a3 := Tryd.isAgg3
  z3 := Tryd.sizeOf3
  v3 := Tryd.zeroValue3
  t4 := Tryd.underlying4
  a4 := Tryd.isAgg4
  z4 := Tryd.sizeOf4
  v4 := Tryd.zeroValue4
  t5 := Tryd.underlying5
  a5 := Tryd.isAgg5
  z5 := Tryd.sizeOf5
  v5 := Tryd.zeroValue5
  t9 := Tryd.underlying9
  a9 := Tryd.isAgg9
  z9 := Tryd.sizeOf9
  v9 := Tryd.zeroValue9
  t20 := Tryd.underlying20
  a20 := Tryd.isAgg20
  z20 := Tryd.sizeOf20
  v20 := Tryd.zeroValue20
  t21 := Tryd.underlying21
  a21 := Tryd.isAgg21
  z21 := Tryd.sizeOf21
  v21 := Tryd.zeroValue21
  t37 := Tryd.underlying46
  a37 := Tryd.isAgg46
  z37 := Tryd.sizeOf46
  v37 := Tryd.zeroValue46
  t46 := Tryd.underlying44
  a46 := Tryd.isAgg44
  z46 := Tryd.sizeOf44
  v46 := Tryd.zeroValue44
  t51 := Tryd.underlying67
  a51 := Tryd.isAgg67
  z51 := Tryd.sizeOf67
  v51 := Tryd.zeroValue67
  t70 := Tryd.underlying49
  a70 := Tryd.isAgg49
  z70 := Tryd.sizeOf49
  v70 := Tryd.zeroValue49
  t72 := Tryd.underlying51
  a72 := Tryd.isAgg51
  z72 := Tryd.sizeOf51
  v72 := Tryd.zeroValue51
  t75 := Tryd.underlying40
  a75 := Tryd.isAgg40
  z75 := Tryd.sizeOf40
  v75 := Tryd.zeroValue40
  t76 := Tryd.underlying41
  a76 := Tryd.isAgg41
  z76 := Tryd.sizeOf41
  v76 := Tryd.zeroValue41
  t105 := Tryd.underlying71
  a105 := Tryd.isAgg71
  z105 := Tryd.sizeOf71
  v105 := Tryd.zeroValue71
  t119 := Tryd.underlying56
  a119 := Tryd.isAgg56
  z119 := Tryd.sizeOf56
  t127 := Tryd.underlying66
  a127 := Tryd.isAgg66
  z127 := Tryd.sizeOf66
  v127 := Tryd.zeroValue66
  t138 := Tryd.underlying106
  a138 := Tryd.isAgg106
  z138 := Tryd.sizeOf106
  v138 := Tryd.zeroValue106
  t139 := Tryd.underlying107
  a139 := Tryd.isAgg107
  z139 := Tryd.sizeOf107
  v139 := Tryd.zeroValue107
  t146 := Tryd.underlying101
  a146 := Tryd.isAgg101
  z146 := Tryd.sizeOf101
  v146 := Tryd.zeroValue101
  t164 := Tryd.underlying82
  a164 := Tryd.isAgg82
  z164 := Tryd.sizeOf82
  v164 := Tryd.zeroValue82
  g1 := by kernel_rfl
  g3 := by kernel_rfl
  g4 := by kernel_rfl }
theorem Tryd.Builder_Extra_154 : Builder.Extra Tryd.prog Tryd.lays154_ren := {
  sizeBuilder := by kernel_rfl
  liesBuilder := by kernel_rfl
  t5 := Tryd.underlying5
  a5 := Tryd.isAgg5
  z5 := Tryd.sizeOf5
  v5 := Tryd.zeroValue5
  infoByte := by kernel_rfl
  cellsByte := by kernel_rfl
  sizeByte := by kernel_rfl
  neB5 := by decide }
open Go.RowKit Go.Lib in
theorem Tryd.strings_Replace_some (s old new : ByteArray) (n : Int) (m : Int) (w : World) (hs : s.size < 4294967281) (hm : w.cell? ⟨2, 0, none⟩ = some (.int .i64 m)) (h1 : 1 ≤ old.size) (hne : old ≠ new) (hn0 : n ≠ 0) (hc0 : Lib.countB s old ≠ 0) (hlen : s.size + Lib.countB s old * new.size ≤ 140737488355328) :
    Calls Tryd.prog 44 #[.string s, .string old, .string new, .int .i64 n] w fun e w' =>
      e = .returned (.string ⟨(Lib.replaceK old.data.toList new.data.toList (Lib.replaceNum s.data.toList old.data.toList n) s.data.toList).toArray⟩) ∧ Below w.heap.size w w' := Any.strings_Replace_some Tryd.lays154 Tryd.Builder_Extra_154 s old new n m w hs hm h1 hne hn0 hc0 hlen
open Go.RowKit Go.Lib in
theorem Tryd.strings_Replace_none (s old new : ByteArray) (n : Int) (w : World) (h : old = new ∨ n = 0) :
    Calls Tryd.prog 44 #[.string s, .string old, .string new, .int .i64 n] w fun e w' => e = .returned (.string s) ∧ w' = w := Any.strings_Replace_none Tryd.lays154 s old new n w h
open Go.RowKit Go.Lib in
theorem Tryd.strings_Replace_absent (s old new : ByteArray) (n : Int) (m : Int) (w : World) (hs : s.size < 4294967281) (hm : w.cell? ⟨2, 0, none⟩ = some (.int .i64 m)) (h1 : 1 ≤ old.size) (hne : old ≠ new) (hn0 : n ≠ 0) (hc0 : Lib.countB s old = 0) :
    Calls Tryd.prog 44 #[.string s, .string old, .string new, .int .i64 n] w fun e w' => e = .returned (.string s) ∧ w' = w := Any.strings_Replace_absent Tryd.lays154 s old new n m w hs hm h1 hne hn0 hc0
open Go.RowKit Go.Lib in
theorem Tryd.strings_Replace (s old new : ByteArray) (n : Int) (m : Int) (w : World) (hs : s.size < 4294967281) (hm : w.cell? ⟨2, 0, none⟩ = some (.int .i64 m)) (h1 : 1 ≤ old.size) (hlen : s.size + Lib.countB s old * new.size ≤ 140737488355328) :
    Calls Tryd.prog 44 #[.string s, .string old, .string new, .int .i64 n] w fun e w' =>
      e = .returned (.string ⟨(Lib.replace s.data.toList old.data.toList new.data.toList n).toArray⟩) ∧ Below w.heap.size w w' := Any.strings_Replace Tryd.lays154 Tryd.Builder_Extra_154 s old new n m w hs hm h1 hlen
def Tryd.lays155_ren : Go.Shelf.Ren := ⟨fun | 155 => 30 | 154 => 44 | 138 => 61 | 165 => 62 | 143 => 41 | 166 => 33 | 197 => 55 | 169 => 34 | 195 => 79 | 218 => 80 | 240 => 50 | 241 => 81 | 219 => 51 | 260 => 74 | 276 => 67 | 277 => 88 | 217 => 68 | 225 => 66 | 224 => 65 | 267 => 69 | 266 => 82 | 314 => 83 | n => n, fun | 9 => 9 | 3 => 3 | 4 => 4 | 72 => 51 | 0 => 0 | 76 => 41 | 105 => 71 | 21 => 21 | 5 => 5 | 70 => 49 | 20 => 20 | 37 => 46 | 75 => 40 | 127 => 66 | 164 => 82 | 46 => 44 | 119 => 56 | 139 => 107 | 138 => 106 | 146 => 101 | 51 => 67 | 80 => 52 | n => n, fun | 1 => 2 | 3 => 5 | 4 => 6 | n => n⟩
theorem Tryd.lays155 : Go.Proofs.Lays.n155 Tryd.prog Tryd.lays155_ren := {
  mixed := by kernel_rfl
  f138 := Tryd.func61.trans (congrArg some (by kernel_rfl))
  f143 := Tryd.func41.trans (congrArg some (by kernel_rfl))
  f154 := Tryd.func44.trans (congrArg some (by kernel_rfl))
  f155 := Tryd.func30.trans (congrArg some (by kernel_rfl))
  f165 := Tryd.func62.trans (congrArg some (by kernel_rfl))
  f166 := Tryd.func33.trans (congrArg some (by kernel_rfl))
  f169 := Tryd.func34.trans (congrArg some (by kernel_rfl))
  f195 := Tryd.func79.trans (congrArg some (by kernel_rfl))
  f197 := Tryd.func55.trans (congrArg some (by kernel_rfl))
  f217 := Tryd.func68.trans (congrArg some (by kernel_rfl))
  f218 := Tryd.func80.trans (congrArg some (by kernel_rfl))
  f219 := Tryd.func51.trans (congrArg some (by kernel_rfl))
  f224 := Tryd.func65.trans (congrArg some (by kernel_rfl))
  f225 := Tryd.func66.trans (congrArg some (by kernel_rfl))
  f240 := Tryd.func50.trans (congrArg some (by kernel_rfl))
  f241 := Tryd.func81.trans (congrArg some (by kernel_rfl))
  f260 := Tryd.func74.trans (congrArg some (by kernel_rfl))
  f266 := Tryd.func82.trans (congrArg some (by kernel_rfl))
  f267 := Tryd.func69.trans (congrArg some (by kernel_rfl))
  f276 := Tryd.func67.trans (congrArg some (by kernel_rfl))
  f277 := Tryd.func88.trans (congrArg some (by kernel_rfl))
  f314 := Tryd.func83.trans (congrArg some (by kernel_rfl))
  t0 := Tryd.underlying0
  a0 := Tryd.isAgg0
  z0 := Tryd.sizeOf0
  v0 := Tryd.zeroValue0
  t3 := Tryd.underlying3
  a3 := Tryd.isAgg3
  z3 := Tryd.sizeOf3
  v3 := Tryd.zeroValue3
  t4 := Tryd.underlying4
  a4 := Tryd.isAgg4
  z4 := Tryd.sizeOf4
  v4 := Tryd.zeroValue4
  t5 := Tryd.underlying5
  a5 := Tryd.isAgg5
  z5 := Tryd.sizeOf5
  v5 := Tryd.zeroValue5
  t9 := Tryd.underlying9
  a9 := Tryd.isAgg9
  z9 := Tryd.sizeOf9
  v9 := Tryd.zeroValue9
  t20 := Tryd.underlying20
  a20 := Tryd.isAgg20
  z20 := Tryd.sizeOf20
  v20 := Tryd.zeroValue20
  t21 := Tryd.underlying21
  a21 := Tryd.isAgg21
  z21 := Tryd.sizeOf21
  v21 := Tryd.zeroValue21
  t37 := Tryd.underlying46
  a37 := Tryd.isAgg46
  z37 := Tryd.sizeOf46
  v37 := Tryd.zeroValue46
  t46 := Tryd.underlying44
  a46 := Tryd.isAgg44
  z46 := Tryd.sizeOf44
  v46 := Tryd.zeroValue44
  t51 := Tryd.underlying67
  a51 := Tryd.isAgg67
  z51 := Tryd.sizeOf67
  v51 := Tryd.zeroValue67
  t70 := Tryd.underlying49
  a70 := Tryd.isAgg49
  z70 := Tryd.sizeOf49
  v70 := Tryd.zeroValue49
  t72 := Tryd.underlying51
  a72 := Tryd.isAgg51
  z72 := Tryd.sizeOf51
  v72 := Tryd.zeroValue51
  t75 := Tryd.underlying40
  a75 := Tryd.isAgg40
  z75 := Tryd.sizeOf40
  v75 := Tryd.zeroValue40
  t76 := Tryd.underlying41
  a76 := Tryd.isAgg41
  z76 := Tryd.sizeOf41
  v76 := Tryd.zeroValue41
  t105 := Tryd.underlying71
  a105 := Tryd.isAgg71
  z105 := Tryd.sizeOf71
  v105 := Tryd.zeroValue71
  t119 := Tryd.underlying56
  a119 := Tryd.isAgg56
  z119 := Tryd.sizeOf56
  t127 := Tryd.underlying66
  a127 := Tryd.isAgg66
  z127 := Tryd.sizeOf66
  v127 := Tryd.zeroValue66
  t138 := Tryd.underlying106
  a138 := Tryd.isAgg106
  z138 := Tryd.sizeOf106
  v138 := Tryd.zeroValue106
  t139 := Tryd.underlying107
  a139 := Tryd.isAgg107
  z139 := Tryd.sizeOf107
  v139 := Tryd.zeroValue107
  t146 := Tryd.underlying101
  a146 := Tryd.isAgg101
  z146 := Tryd.sizeOf101
  v146 := Tryd.zeroValue101
  t164 := Tryd.underlying82
  a164 := Tryd.isAgg82
  z164 := Tryd.sizeOf82
  v164 := Tryd.zeroValue82
  g1 := by kernel_rfl
  g3 := by kernel_rfl
  g4 := by kernel_rfl }
theorem Tryd.Builder_Extra_155 : Builder.Extra Tryd.prog Tryd.lays155_ren := {
  sizeBuilder := by kernel_rfl
  liesBuilder := by kernel_rfl
  t5 := Tryd.underlying5
  a5 := Tryd.isAgg5
  z5 := Tryd.sizeOf5
  v5 := Tryd.zeroValue5
  infoByte := by kernel_rfl
  cellsByte := by kernel_rfl
  sizeByte := by kernel_rfl
  neB5 := by decide }
open Go.RowKit Go.Lib in
theorem Tryd.strings_ReplaceAll (s old new : ByteArray) (m : Int) (w : World) (hs : s.size < 4294967281) (hm : w.cell? ⟨2, 0, none⟩ = some (.int .i64 m)) (h1 : 1 ≤ old.size) (hlen : s.size + Lib.countB s old * new.size ≤ 140737488355328) :
    Calls Tryd.prog 30 #[.string s, .string old, .string new] w fun e w' =>
      e = .returned (.string ⟨(Lib.replaceAll s.data.toList old.data.toList new.data.toList).toArray⟩) ∧ Below w.heap.size w w' := Any.strings_ReplaceAll Tryd.lays155 Tryd.Builder_Extra_155 s old new m w hs hm h1 hlen
def Tryd.laysM154_ren : Go.Shelf.Ren := ⟨fun | 154 => 44 | 138 => 61 | 165 => 62 | 143 => 41 | 166 => 33 | 197 => 55 | 169 => 34 | 195 => 79 | 218 => 80 | 240 => 50 | 241 => 81 | 219 => 51 | 260 => 74 | 276 => 67 | 277 => 88 | 217 => 68 | 225 => 66 | 224 => 65 | 267 => 69 | 266 => 82 | 314 => 83 | n => n, fun | 9 => 9 | 3 => 3 | 4 => 4 | 72 => 51 | 0 => 0 | 76 => 41 | 105 => 71 | 21 => 21 | 5 => 5 | 70 => 49 | 20 => 20 | 37 => 46 | 75 => 40 | 127 => 66 | 164 => 82 | 46 => 44 | 119 => 56 | 139 => 107 | 138 => 106 | 146 => 101 | 51 => 67 | 80 => 52 | n => n, fun | 1 => 2 | 3 => 5 | 4 => 6 | n => n⟩
theorem Tryd.laysM154 : Go.Proofs.LaysM.n154 Tryd.prog Tryd.laysM154_ren := {
  mixed := by kernel_rfl
  f138 := Tryd.func61.trans (congrArg some (by kernel_rfl))
  f143 := Tryd.func41.trans (congrArg some (by kernel_rfl))
  f154 := Tryd.func44.trans (congrArg some (by kernel_rfl))
  f165 := Tryd.func62.trans (congrArg some (by kernel_rfl))
  f166 := Tryd.func33.trans (congrArg some (by kernel_rfl))
  f169 := Tryd.func34.trans (congrArg some (by kernel_rfl))
  f195 := Tryd.func79.trans (congrArg some (by kernel_rfl))
  f197 := Tryd.func55.trans (congrArg some (by kernel_rfl))
  f217 := Tryd.func68.trans (congrArg some (by kernel_rfl))
  f218 := Tryd.func80.trans (congrArg some (by kernel_rfl))
  f219 := Tryd.func51.trans (congrArg some (by kernel_rfl))
  f224 := Tryd.func65.trans (congrArg some (by kernel_rfl))
  f225 := Tryd.func66.trans (congrArg some (by kernel_rfl))
  f240 := Tryd.func50.trans (congrArg some (by kernel_rfl))
  f241 := Tryd.func81.trans (congrArg some (by kernel_rfl))
  f260 := Tryd.func74.trans (congrArg some (by kernel_rfl))
  f266 := Tryd.func82.trans (congrArg some (by kernel_rfl))
  f267 := Tryd.func69.trans (congrArg some (by kernel_rfl))
  f276 := Tryd.func67.trans (congrArg some (by kernel_rfl))
  f277 := Tryd.func88.trans (congrArg some (by kernel_rfl))
  f314 := Tryd.func83.trans (congrArg some (by kernel_rfl))
  t0 := Tryd.underlying0
  a0 := Tryd.isAgg0
  z0 := Tryd.sizeOf0
  v0 := Tryd.zeroValue0
  t3 := Tryd.underlying3
  a3 := Tryd.isAgg3
  z3 := Tryd.sizeOf3
  v3 := Tryd.zeroValue3
  t4 := Tryd.underlying4
  a4 := Tryd.isAgg4
  z4 := Tryd.sizeOf4
  v4 := Tryd.zeroValue4
  t5 := Tryd.underlying5
  a5 := Tryd.isAgg5
  z5 := Tryd.sizeOf5
  v5 := Tryd.zeroValue5
  t9 := Tryd.underlying9
  a9 := Tryd.isAgg9
  z9 := Tryd.sizeOf9
  v9 := Tryd.zeroValue9
  t20 := Tryd.underlying20
  a20 := Tryd.isAgg20
  z20 := Tryd.sizeOf20
  v20 := Tryd.zeroValue20
  t21 := Tryd.underlying21
  a21 := Tryd.isAgg21
  z21 := Tryd.sizeOf21
  v21 := Tryd.zeroValue21
  t37 := Tryd.underlying46
  a37 := Tryd.isAgg46
  z37 := Tryd.sizeOf46
  v37 := Tryd.zeroValue46
  t46 := Tryd.underlying44
  a46 := Tryd.isAgg44
  z46 := Tryd.sizeOf44
  v46 := Tryd.zeroValue44
  t51 := Tryd.underlying67
  a51 := Tryd.isAgg67
  z51 := Tryd.sizeOf67
  v51 := Tryd.zeroValue67
  t70 := Tryd.underlying49
  a70 := Tryd.isAgg49
  z70 := Tryd.sizeOf49
  v70 := Tryd.zeroValue49
  t72 := Tryd.underlying51
  a72 := Tryd.isAgg51
  z72 := Tryd.sizeOf51
  v72 := Tryd.zeroValue51
  t75 := Tryd.underlying40
  a75 := Tryd.isAgg40
  z75 := Tryd.sizeOf40
  v75 := Tryd.zeroValue40
  t76 := Tryd.underlying41
  a76 := Tryd.isAgg41
  z76 := Tryd.sizeOf41
  v76 := Tryd.zeroValue41
  t105 := Tryd.underlying71
  a105 := Tryd.isAgg71
  z105 := Tryd.sizeOf71
  v105 := Tryd.zeroValue71
  t119 := Tryd.underlying56
  a119 := Tryd.isAgg56
  z119 := Tryd.sizeOf56
  t127 := Tryd.underlying66
  a127 := Tryd.isAgg66
  z127 := Tryd.sizeOf66
  v127 := Tryd.zeroValue66
  t138 := Tryd.underlying106
  a138 := Tryd.isAgg106
  z138 := Tryd.sizeOf106
  v138 := Tryd.zeroValue106
  t139 := Tryd.underlying107
  a139 := Tryd.isAgg107
  z139 := Tryd.sizeOf107
  v139 := Tryd.zeroValue107
  t146 := Tryd.underlying101
  a146 := Tryd.isAgg101
  z146 := Tryd.sizeOf101
  v146 := Tryd.zeroValue101
  t164 := Tryd.underlying82
  a164 := Tryd.isAgg82
  z164 := Tryd.sizeOf82
  v164 := Tryd.zeroValue82
  g1 := by kernel_rfl
  g3 := by kernel_rfl
  g4 := by kernel_rfl
  t80 := Tryd.underlying52
  a80 := Tryd.isAgg52
  z80 := Tryd.sizeOf52
  v80 := Tryd.zeroValue52
  i0 := by kernel_rfl
  i3 := by kernel_rfl
  i4 := by kernel_rfl
  i5 := by kernel_rfl
  i9 := by kernel_rfl
  i20 := by kernel_rfl
  i21 := by kernel_rfl
  i37 := by kernel_rfl
  i46 := by kernel_rfl
  i51 := by kernel_rfl
  i70 := by kernel_rfl
  i72 := by kernel_rfl
  i75 := by kernel_rfl
  i76 := by kernel_rfl
  i80 := by kernel_rfl
  i105 := by kernel_rfl
  i127 := by kernel_rfl
  i138 := by kernel_rfl
  i139 := by kernel_rfl
  i146 := by kernel_rfl
  i164 := by kernel_rfl
  m1 := by kernel_rfl
  s1_3 := fun w h => Go.Proofs.cell_of_shapedOpen_int (zero := #[.int .i64 0]) (t := 3) h (of_decide_eq_true (by kernel_rfl)) (by kernel_rfl) rfl (by kernel_rfl) (by kernel_rfl) Tryd.underlying3
  m3 := by kernel_rfl
  m4 := by kernel_rfl }
theorem Tryd.Builder_Extra_M154 : Builder.Extra Tryd.prog Tryd.laysM154_ren := {
  sizeBuilder := by kernel_rfl
  liesBuilder := by kernel_rfl
  t5 := Tryd.underlying5
  a5 := Tryd.isAgg5
  z5 := Tryd.sizeOf5
  v5 := Tryd.zeroValue5
  infoByte := by kernel_rfl
  cellsByte := by kernel_rfl
  sizeByte := by kernel_rfl
  neB5 := by decide }
open Go.RowKit Go.Lib in
theorem Tryd.strings_Replace_shaped (s old new : ByteArray) (n : Int) (w : World) (h : w.ShapedOpen Tryd.prog) (hs : s.size < 4294967281) (h1 : 1 ≤ old.size) (hlen : s.size + Lib.countB s old * new.size ≤ 140737488355328) :
    Calls Tryd.prog 44 #[.string s, .string old, .string new, .int .i64 n] w fun e w' =>
      e = .returned (.string ⟨(Lib.replace s.data.toList old.data.toList new.data.toList n).toArray⟩) ∧ Below w.heap.size w w' := Any.strings_Replace_shaped Tryd.laysM154 Tryd.Builder_Extra_M154 s old new n w h hs h1 hlen
def Tryd.laysM155_ren : Go.Shelf.Ren := ⟨fun | 155 => 30 | 154 => 44 | 138 => 61 | 165 => 62 | 143 => 41 | 166 => 33 | 197 => 55 | 169 => 34 | 195 => 79 | 218 => 80 | 240 => 50 | 241 => 81 | 219 => 51 | 260 => 74 | 276 => 67 | 277 => 88 | 217 => 68 | 225 => 66 | 224 => 65 | 267 => 69 | 266 => 82 | 314 => 83 | n => n, fun | 9 => 9 | 3 => 3 | 4 => 4 | 72 => 51 | 0 => 0 | 76 => 41 | 105 => 71 | 21 => 21 | 5 => 5 | 70 => 49 | 20 => 20 | 37 => 46 | 75 => 40 | 127 => 66 | 164 => 82 | 46 => 44 | 119 => 56 | 139 => 107 | 138 => 106 | 146 => 101 | 51 => 67 | 80 => 52 | n => n, fun | 1 => 2 | 3 => 5 | 4 => 6 | n => n⟩
theorem Tryd.laysM155 : Go.Proofs.LaysM.n155 Tryd.prog Tryd.laysM155_ren := {
  mixed := by kernel_rfl
  f138 := Tryd.func61.trans (congrArg some (by kernel_rfl))
  f143 := Tryd.func41.trans (congrArg some (by kernel_rfl))
  f154 := Tryd.func44.trans (congrArg some (by kernel_rfl))
  f155 := Tryd.func30.trans (congrArg some (by kernel_rfl))
  f165 := Tryd.func62.trans (congrArg some (by kernel_rfl))
  f166 := Tryd.func33.trans (congrArg some (by kernel_rfl))
  f169 := Tryd.func34.trans (congrArg some (by kernel_rfl))
  f195 := Tryd.func79.trans (congrArg some (by kernel_rfl))
  f197 := Tryd.func55.trans (congrArg some (by kernel_rfl))
  f217 := Tryd.func68.trans (congrArg some (by kernel_rfl))
  f218 := Tryd.func80.trans (congrArg some (by kernel_rfl))
  f219 := Tryd.func51.trans (congrArg some (by kernel_rfl))
  f224 := Tryd.func65.trans (congrArg some (by kernel_rfl))
  f225 := Tryd.func66.trans (congrArg some (by kernel_rfl))
  f240 := Tryd.func50.trans (congrArg some (by kernel_rfl))
  f241 := Tryd.func81.trans (congrArg some (by kernel_rfl))
  f260 := Tryd.func74.trans (congrArg some (by kernel_rfl))
  f266 := Tryd.func82.trans (congrArg some (by kernel_rfl))
  f267 := Tryd.func69.trans (congrArg some (by kernel_rfl))
  f276 := Tryd.func67.trans (congrArg some (by kernel_rfl))
  f277 := Tryd.func88.trans (congrArg some (by kernel_rfl))
  f314 := Tryd.func83.trans (congrArg some (by kernel_rfl))
  t0 := Tryd.underlying0
  a0 := Tryd.isAgg0
  z0 := Tryd.sizeOf0
  v0 := Tryd.zeroValue0
  t3 := Tryd.underlying3
  a3 := Tryd.isAgg3
  z3 := Tryd.sizeOf3
  v3 := Tryd.zeroValue3
  t4 := Tryd.underlying4
  a4 := Tryd.isAgg4
  z4 := Tryd.sizeOf4
  v4 := Tryd.zeroValue4
  t5 := Tryd.underlying5
  a5 := Tryd.isAgg5
  z5 := Tryd.sizeOf5
  v5 := Tryd.zeroValue5
  t9 := Tryd.underlying9
  a9 := Tryd.isAgg9
  z9 := Tryd.sizeOf9
  v9 := Tryd.zeroValue9
  t20 := Tryd.underlying20
  a20 := Tryd.isAgg20
  z20 := Tryd.sizeOf20
  v20 := Tryd.zeroValue20
  t21 := Tryd.underlying21
  a21 := Tryd.isAgg21
  z21 := Tryd.sizeOf21
  v21 := Tryd.zeroValue21
  t37 := Tryd.underlying46
  a37 := Tryd.isAgg46
  z37 := Tryd.sizeOf46
  v37 := Tryd.zeroValue46
  t46 := Tryd.underlying44
  a46 := Tryd.isAgg44
  z46 := Tryd.sizeOf44
  v46 := Tryd.zeroValue44
  t51 := Tryd.underlying67
  a51 := Tryd.isAgg67
  z51 := Tryd.sizeOf67
  v51 := Tryd.zeroValue67
  t70 := Tryd.underlying49
  a70 := Tryd.isAgg49
  z70 := Tryd.sizeOf49
  v70 := Tryd.zeroValue49
  t72 := Tryd.underlying51
  a72 := Tryd.isAgg51
  z72 := Tryd.sizeOf51
  v72 := Tryd.zeroValue51
  t75 := Tryd.underlying40
  a75 := Tryd.isAgg40
  z75 := Tryd.sizeOf40
  v75 := Tryd.zeroValue40
  t76 := Tryd.underlying41
  a76 := Tryd.isAgg41
  z76 := Tryd.sizeOf41
  v76 := Tryd.zeroValue41
  t105 := Tryd.underlying71
  a105 := Tryd.isAgg71
  z105 := Tryd.sizeOf71
  v105 := Tryd.zeroValue71
  t119 := Tryd.underlying56
  a119 := Tryd.isAgg56
  z119 := Tryd.sizeOf56
  t127 := Tryd.underlying66
  a127 := Tryd.isAgg66
  z127 := Tryd.sizeOf66
  v127 := Tryd.zeroValue66
  t138 := Tryd.underlying106
  a138 := Tryd.isAgg106
  z138 := Tryd.sizeOf106
  v138 := Tryd.zeroValue106
  t139 := Tryd.underlying107
  a139 := Tryd.isAgg107
  z139 := Tryd.sizeOf107
  v139 := Tryd.zeroValue107
  t146 := Tryd.underlying101
  a146 := Tryd.isAgg101
  z146 := Tryd.sizeOf101
  v146 := Tryd.zeroValue101
  t164 := Tryd.underlying82
  a164 := Tryd.isAgg82
  z164 := Tryd.sizeOf82
  v164 := Tryd.zeroValue82
  g1 := by kernel_rfl
  g3 := by kernel_rfl
  g4 := by kernel_rfl
  t80 := Tryd.underlying52
  a80 := Tryd.isAgg52
  z80 := Tryd.sizeOf52
  v80 := Tryd.zeroValue52
  i0 := by kernel_rfl
  i3 := by kernel_rfl
  i4 := by kernel_rfl
  i5 := by kernel_rfl
  i9 := by kernel_rfl
  i20 := by kernel_rfl
  i21 := by kernel_rfl
  i37 := by kernel_rfl
  i46 := by kernel_rfl
  i51 := by kernel_rfl
  i70 := by kernel_rfl
  i72 := by kernel_rfl
  i75 := by kernel_rfl
  i76 := by kernel_rfl
  i80 := by kernel_rfl
  i105 := by kernel_rfl
  i127 := by kernel_rfl
  i138 := by kernel_rfl
  i139 := by kernel_rfl
  i146 := by kernel_rfl
  i164 := by kernel_rfl
  m1 := by kernel_rfl
  s1_3 := fun w h => Go.Proofs.cell_of_shapedOpen_int (zero := #[.int .i64 0]) (t := 3) h (of_decide_eq_true (by kernel_rfl)) (by kernel_rfl) rfl (by kernel_rfl) (by kernel_rfl) Tryd.underlying3
  m3 := by kernel_rfl
  m4 := by kernel_rfl }
theorem Tryd.Builder_Extra_M155 : Builder.Extra Tryd.prog Tryd.laysM155_ren := {
  sizeBuilder := by kernel_rfl
  liesBuilder := by kernel_rfl
  t5 := Tryd.underlying5
  a5 := Tryd.isAgg5
  z5 := Tryd.sizeOf5
  v5 := Tryd.zeroValue5
  infoByte := by kernel_rfl
  cellsByte := by kernel_rfl
  sizeByte := by kernel_rfl
  neB5 := by decide }
open Go.RowKit Go.Lib in
theorem Tryd.strings_ReplaceAll_shaped (s old new : ByteArray) (w : World) (h : w.ShapedOpen Tryd.prog) (hs : s.size < 4294967281) (h1 : 1 ≤ old.size) (hlen : s.size + Lib.countB s old * new.size ≤ 140737488355328) :
    Calls Tryd.prog 30 #[.string s, .string old, .string new] w fun e w' =>
      e = .returned (.string ⟨(Lib.replaceAll s.data.toList old.data.toList new.data.toList).toArray⟩) ∧ Below w.heap.size w w' := Any.strings_ReplaceAll_shaped Tryd.laysM155 Tryd.Builder_Extra_M155 s old new w h hs h1 hlen
def Tryd.lays199_ren : Go.Shelf.Ren := ⟨fun | 199 => 39 | 261 => 53 | 311 => 71 | 312 => 72 | n => n, fun | 21 => 21 | 4 => 4 | 51 => 67 | 141 => 69 | 0 => 0 | 196 => 87 | 193 => 84 | 3 => 3 | 198 => 90 | 49 => 88 | 194 => 85 | 201 => 93 | 226 => 103 | 46 => 44 | 227 => 104 | n => n, fun | 6 => 1 | n => n⟩
theorem Tryd.lays199 : Go.Proofs.Lays.n199 Tryd.prog Tryd.lays199_ren := {
  mixed := by kernel_rfl
  f199 := Tryd.func39.trans (congrArg some (by kernel_rfl))
  f261 := Tryd.func53.trans (congrArg some (by kernel_rfl))
  f311 := Tryd.func71.trans (congrArg some (by kernel_rfl))
  f312 := Tryd.func72.trans (congrArg some (by kernel_rfl))
  t0 := Tryd.underlying0
  a0 := Tryd.isAgg0
  z0 := Tryd.sizeOf0
  v0 := Tryd.zeroValue0
  t3 := Tryd.underlying3
  a3 := Tryd.isAgg3
  z3 := Tryd.sizeOf3
  v3 := Tryd.zeroValue3
  t4 := Tryd.underlying4
  a4 := Tryd.isAgg4
  z4 := Tryd.sizeOf4
  v4 := Tryd.zeroValue4
  t21 := Tryd.underlying21
  a21 := Tryd.isAgg21
  z21 := Tryd.sizeOf21
  v21 := Tryd.zeroValue21
  t46 := Tryd.underlying44
  a46 := Tryd.isAgg44
  z46 := Tryd.sizeOf44
  v46 := Tryd.zeroValue44
  t49 := Tryd.underlying88
  a49 := Tryd.isAgg88
  z49 := Tryd.sizeOf88
  v49 := Tryd.zeroValue88
  t51 := Tryd.underlying67
  a51 := Tryd.isAgg67
  z51 := Tryd.sizeOf67
  v51 := Tryd.zeroValue67
  t141 := Tryd.underlying69
  a141 := Tryd.isAgg69
  z141 := Tryd.sizeOf69
  v141 := Tryd.zeroValue69
  t193 := Tryd.underlying84
  a193 := Tryd.isAgg84
  z193 := Tryd.sizeOf84
  v193 := Tryd.zeroValue84
  t194 := Tryd.underlying85
  a194 := Tryd.isAgg85
  z194 := Tryd.sizeOf85
  v194 := Tryd.zeroValue85
  t196 := Tryd.underlying87
  a196 := Tryd.isAgg87
  z196 := Tryd.sizeOf87
  v196 := Tryd.zeroValue87
  t198 := Tryd.underlying90
  a198 := Tryd.isAgg90
  z198 := Tryd.sizeOf90
  v198 := Tryd.zeroValue90
  t201 := Tryd.underlying93
  a201 := Tryd.isAgg93
  z201 := Tryd.sizeOf93
  v201 := Tryd.zeroValue93
  t226 := Tryd.underlying103
  a226 := Tryd.isAgg103
  z226 := Tryd.sizeOf103
  v226 := Tryd.zeroValue103
  t227 := Tryd.underlying104
  a227 := Tryd.isAgg104
  z227 := Tryd.sizeOf104
  v227 := Tryd.zeroValue104
  g6 := by kernel_rfl }
open Go.RowKit Go.Lib in
theorem Tryd.unicode_IsSpace (r : Int) (w : World) (h0 : 0 ≤ r) (h : r ≤ 255) :
    Calls Tryd.prog 39 #[.int .i32 r] w fun e w' => e = .returned (.bool (Lib.isSpaceL r)) ∧ w' = w := Any.unicode_IsSpace Tryd.lays199 r w h0 h
def Tryd.lays152_ren : Go.Shelf.Ren := ⟨fun | 152 => 45 | 137 => 63 | 119 => 64 | 224 => 65 | 225 => 66 | 217 => 68 | 266 => 82 | n => n, fun | 9 => 9 | 21 => 21 | 3 => 3 | 4 => 4 | 5 => 5 | 0 => 0 | 46 => 44 | n => n, fun | n => n⟩
theorem Tryd.lays152 : Go.Proofs.Lays.n152 Tryd.prog Tryd.lays152_ren := {
  mixed := by kernel_rfl
  f119 := Tryd.func64.trans (congrArg some (by kernel_rfl))
  f137 := Tryd.func63.trans (congrArg some (by kernel_rfl))
  f152 := Tryd.func45.trans (congrArg some (by kernel_rfl))
  f217 := Tryd.func68.trans (congrArg some (by kernel_rfl))
  f224 := Tryd.func65.trans (congrArg some (by kernel_rfl))
  f225 := Tryd.func66.trans (congrArg some (by kernel_rfl))
  f266 := Tryd.func82.trans (congrArg some (by kernel_rfl))
  t0 := Tryd.underlying0
  a0 := Tryd.isAgg0
  z0 := Tryd.sizeOf0
  v0 := Tryd.zeroValue0
  t3 := Tryd.underlying3
  a3 := Tryd.isAgg3
  z3 := Tryd.sizeOf3
  v3 := Tryd.zeroValue3
  t4 := Tryd.underlying4
  a4 := Tryd.isAgg4
  z4 := Tryd.sizeOf4
  v4 := Tryd.zeroValue4
  t5 := Tryd.underlying5
  a5 := Tryd.isAgg5
  z5 := Tryd.sizeOf5
  v5 := Tryd.zeroValue5
  t9 := Tryd.underlying9
  a9 := Tryd.isAgg9
  z9 := Tryd.sizeOf9
  v9 := Tryd.zeroValue9
  t21 := Tryd.underlying21
  a21 := Tryd.isAgg21
  z21 := Tryd.sizeOf21
  v21 := Tryd.zeroValue21
  t46 := Tryd.underlying44
  a46 := Tryd.isAgg44
  z46 := Tryd.sizeOf44
  v46 := Tryd.zeroValue44 }
open Go.RowKit Go.Lib in
theorem Tryd.strings_IndexRune_ascii (s : ByteArray) (r : Int) (w : World) (h0 : 0 ≤ r) (h1 : r < 128) :
    Calls Tryd.prog 45 #[.string s, .int .i32 r] w fun e w' => e = .returned (.int .i64 (Lib.indexByte s.data.toList r.toNat.toUInt8)) ∧ w' = w := Any.strings_IndexRune_ascii Tryd.lays152 s r w h0 h1
def Tryd.lays226_ren : Go.Shelf.Ren := ⟨fun | 226 => 46 | n => n, fun | 3 => 3 | 4 => 4 | n => n, fun | n => n⟩
theorem Tryd.lays226 : Go.Proofs.Lays.n226 Tryd.prog Tryd.lays226_ren := {
  mixed := by kernel_rfl
  f226 := Tryd.func46.trans (congrArg some (by kernel_rfl))
  t3 := Tryd.underlying3
  a3 := Tryd.isAgg3
  z3 := Tryd.sizeOf3
  v3 := Tryd.zeroValue3
  t4 := Tryd.underlying4
  a4 := Tryd.isAgg4
  z4 := Tryd.sizeOf4
  v4 := Tryd.zeroValue4 }
open Go.RowKit Go.Lib in
theorem Tryd.strings_shouldUseASCIISet (n : Int) (w : World) :
    Calls Tryd.prog 46 #[.int .i64 n] w fun e w' => e = .returned (.bool (decide (8 < n))) ∧ w' = w := Any.strings_shouldUseASCIISet Tryd.lays226 n w
def Tryd.lays153_ren : Go.Shelf.Ren := ⟨fun | 153 => 31 | 152 => 45 | 226 => 46 | 227 => 47 | 228 => 48 | 137 => 63 | 119 => 64 | 224 => 65 | 225 => 66 | 217 => 68 | 266 => 82 | n => n, fun | 9 => 9 | 3 => 3 | 4 => 4 | 5 => 5 | 21 => 21 | 117 => 63 | 116 => 62 | 0 => 0 | 46 => 44 | 124 => 81 | n => n, fun | n => n⟩
theorem Tryd.lays153 : Go.Proofs.Lays.n153 Tryd.prog Tryd.lays153_ren := {
  mixed := by kernel_rfl
  f119 := Tryd.func64.trans (congrArg some (by kernel_rfl))
  f137 := Tryd.func63.trans (congrArg some (by kernel_rfl))
  f152 := Tryd.func45.trans (congrArg some (by kernel_rfl))
  f153 := Tryd.func31.trans (congrArg some (by kernel_rfl))
  f217 := Tryd.func68.trans (congrArg some (by kernel_rfl))
  f224 := Tryd.func65.trans (congrArg some (by kernel_rfl))
  f225 := Tryd.func66.trans (congrArg some (by kernel_rfl))
  f226 := Tryd.func46.trans (congrArg some (by kernel_rfl))
  f227 := Tryd.func47.trans (congrArg some (by kernel_rfl))
  f228 := Tryd.func48.trans (congrArg some (by kernel_rfl))
  f266 := Tryd.func82.trans (congrArg some (by kernel_rfl))
  t0 := Tryd.underlying0
  a0 := Tryd.isAgg0
  z0 := Tryd.sizeOf0
  v0 := Tryd.zeroValue0
  t3 := Tryd.underlying3
  a3 := Tryd.isAgg3
  z3 := Tryd.sizeOf3
  v3 := Tryd.zeroValue3
  t4 := Tryd.underlying4
  a4 := Tryd.isAgg4
  z4 := Tryd.sizeOf4
  v4 := Tryd.zeroValue4
  t5 := Tryd.underlying5
  a5 := Tryd.isAgg5
  z5 := Tryd.sizeOf5
  v5 := Tryd.zeroValue5
  t9 := Tryd.underlying9
  a9 := Tryd.isAgg9
  z9 := Tryd.sizeOf9
  v9 := Tryd.zeroValue9
  t21 := Tryd.underlying21
  a21 := Tryd.isAgg21
  z21 := Tryd.sizeOf21
  v21 := Tryd.zeroValue21
  t46 := Tryd.underlying44
  a46 := Tryd.isAgg44
  z46 := Tryd.sizeOf44
  v46 := Tryd.zeroValue44
  t116 := Tryd.underlying62
  a116 := Tryd.isAgg62
  z116 := Tryd.sizeOf62
  t117 := Tryd.underlying63
  a117 := Tryd.isAgg63
  z117 := Tryd.sizeOf63
  v117 := Tryd.zeroValue63
  t124 := Tryd.underlying81
  a124 := Tryd.isAgg81
  z124 := Tryd.sizeOf81
  v124 := Tryd.zeroValue81 }
open Go.RowKit Go.Lib in
theorem Tryd.strings_IndexAny_none (s chars : ByteArray) (w : World) (h0 : chars.size = 0) :
    Calls Tryd.prog 31 #[.string s, .string chars] w fun e w' => e = .returned (.int .i64 (Lib.indexAny s.data.toList chars.data.toList)) ∧ w' = w := Any.strings_IndexAny_none Tryd.lays153 s chars w h0
open Go.RowKit Go.Lib in
theorem Tryd.strings_IndexAny_one (s chars : ByteArray) (w : World) (h1 : chars.size = 1) (hascii : ∀ (j : Nat) b, chars.data.toList[j]? = some b → b.toNat < 128) :
    Calls Tryd.prog 31 #[.string s, .string chars] w fun e w' => e = .returned (.int .i64 (Lib.indexAny s.data.toList chars.data.toList)) ∧ w' = w := Any.strings_IndexAny_one Tryd.lays153 s chars w h1 hascii
open Go.RowKit Go.Lib in
theorem Tryd.strings_IndexAny_short (s chars : ByteArray) (w : World) (h2 : 2 ≤ chars.size) (h8 : s.size ≤ 8) (hascii : ∀ (j : Nat) b, s.data.toList[j]? = some b → b.toNat < 128) :
    Calls Tryd.prog 31 #[.string s, .string chars] w fun e w' => e = .returned (.int .i64 (Lib.indexAny s.data.toList chars.data.toList)) ∧ ∃ pos, w' = w.iter s pos := Any.strings_IndexAny_short Tryd.lays153 s chars w h2 h8 hascii
def Tryd.lays227_ren : Go.Shelf.Ren := ⟨fun | 227 => 47 | n => n, fun | 9 => 9 | 116 => 62 | 4 => 4 | 0 => 0 | 3 => 3 | 5 => 5 | n => n, fun | n => n⟩
theorem Tryd.lays227 : Go.Proofs.Lays.n227 Tryd.prog Tryd.lays227_ren := {
  mixed := by kernel_rfl
  f227 := Tryd.func47.trans (congrArg some (by kernel_rfl))
  t0 := Tryd.underlying0
  a0 := Tryd.isAgg0
  z0 := Tryd.sizeOf0
  v0 := Tryd.zeroValue0
  t3 := Tryd.underlying3
  a3 := Tryd.isAgg3
  z3 := Tryd.sizeOf3
  v3 := Tryd.zeroValue3
  t4 := Tryd.underlying4
  a4 := Tryd.isAgg4
  z4 := Tryd.sizeOf4
  v4 := Tryd.zeroValue4
  t5 := Tryd.underlying5
  a5 := Tryd.isAgg5
  z5 := Tryd.sizeOf5
  v5 := Tryd.zeroValue5
  t9 := Tryd.underlying9
  a9 := Tryd.isAgg9
  z9 := Tryd.sizeOf9
  v9 := Tryd.zeroValue9
  t116 := Tryd.underlying62
  a116 := Tryd.isAgg62
  z116 := Tryd.sizeOf62 }
open Go.RowKit Go.Lib in
theorem Tryd.strings_makeASCIISet (hv116 : ∀ w, (zeroValue 62).run Tryd.prog w = .ok (.agg (Array.replicate 256 (.bool false))) w) (chars : ByteArray) (w : World) (hs : chars.size < 4294967281) (hascii : ∀ (j : Nat) b, chars.data.toList[j]? = some b → b.toNat < 128) :
    Calls Tryd.prog 47 #[.string chars] w fun e w' => e = .returned (.tuple #[.agg (Lib.setCells chars.data.toList), .bool true]) ∧ w' = w.alloc (.cells (Lib.setCells chars.data.toList) 62) := Any.strings_makeASCIISet Tryd.lays227 hv116 (by kernel_rfl) chars w hs hascii
def Tryd.lays228_ren : Go.Shelf.Ren := ⟨fun | 228 => 48 | n => n, fun | 124 => 81 | 5 => 5 | 4 => 4 | 0 => 0 | 116 => 62 | n => n, fun | n => n⟩
theorem Tryd.lays228 : Go.Proofs.Lays.n228 Tryd.prog Tryd.lays228_ren := {
  mixed := by kernel_rfl
  f228 := Tryd.func48.trans (congrArg some (by kernel_rfl))
  t0 := Tryd.underlying0
  a0 := Tryd.isAgg0
  z0 := Tryd.sizeOf0
  v0 := Tryd.zeroValue0
  t4 := Tryd.underlying4
  a4 := Tryd.isAgg4
  z4 := Tryd.sizeOf4
  v4 := Tryd.zeroValue4
  t5 := Tryd.underlying5
  a5 := Tryd.isAgg5
  z5 := Tryd.sizeOf5
  v5 := Tryd.zeroValue5
  t116 := Tryd.underlying62
  a116 := Tryd.isAgg62
  z116 := Tryd.sizeOf62
  t124 := Tryd.underlying81
  a124 := Tryd.isAgg81
  z124 := Tryd.sizeOf81
  v124 := Tryd.zeroValue81 }
open Go.RowKit Go.Lib in
theorem Tryd.asciiSet_contains (b : Nat) (x : UInt8) (v : Bool) (w : World) (hc : w.cell? ⟨b, x.toNat, none⟩ = some (.bool v)) :
    Calls Tryd.prog 48 #[.pointer (some ⟨b, 0, none⟩), .int .u8 x.toNat] w fun e w' => e = .returned (.bool v) ∧ w' = w := Any.asciiSet_contains Tryd.lays228 b x v w hc
open Go.RowKit Go.Lib in
theorem Tryd.strings_IndexAny_long (hv116 : ∀ w, (zeroValue 62).run Tryd.prog w = .ok (.agg (Array.replicate 256 (.bool false))) w) (s chars : ByteArray) (w : World) (h2 : 2 ≤ chars.size) (h8 : 8 < s.size) (hs : s.size < 4294967281) (hcs : chars.size < 4294967281) (hascii : ∀ (j : Nat) b, chars.data.toList[j]? = some b → b.toNat < 128) :
    Calls Tryd.prog 31 #[.string s, .string chars] w fun e w' => e = .returned (.int .i64 (Lib.indexAny s.data.toList chars.data.toList)) ∧ w' = ((w.alloc (.cells (Lib.setCells chars.data.toList) 62)).alloc (.cells (Lib.setCells chars.data.toList) 62)) := Any.strings_IndexAny_long Tryd.lays153 hv116 (by kernel_rfl) s chars w h2 h8 hs hcs hascii
open Go.RowKit Go.Lib in
theorem Tryd.strings_IndexAny (hv116 : ∀ w, (zeroValue 62).run Tryd.prog w = .ok (.agg (Array.replicate 256 (.bool false))) w) (s chars : ByteArray) (w : World) (hs : s.size < 4294967281) (hcs : chars.size < 4294967281) (has : ∀ (j : Nat) b, s.data.toList[j]? = some b → b.toNat < 128) (hac : ∀ (j : Nat) b, chars.data.toList[j]? = some b → b.toNat < 128) :
    Calls Tryd.prog 31 #[.string s, .string chars] w fun e w' => e = .returned (.int .i64 (Lib.indexAny s.data.toList chars.data.toList)) ∧ Below w.heap.size w w' := Any.strings_IndexAny Tryd.lays153 hv116 (by kernel_rfl) s chars w hs hcs has hac
open Go.RowKit Go.Lib in
theorem Tryd.strings_IndexAny_laid (s chars : ByteArray) (w : World) (hs : s.size < 4294967281) (hcs : chars.size < 4294967281) (has : ∀ (j : Nat) b, s.data.toList[j]? = some b → b.toNat < 128) (hac : ∀ (j : Nat) b, chars.data.toList[j]? = some b → b.toNat < 128) :
    Calls Tryd.prog 31 #[.string s, .string chars] w fun e w' => e = .returned (.int .i64 (Lib.indexAny s.data.toList chars.data.toList)) ∧ Below w.heap.size w w' := Any.strings_IndexAny_laid Tryd.lays153 (by kernel_rfl) s chars w hs hcs has hac
def Tryd.lays260_ren : Go.Shelf.Ren := ⟨fun | 260 => 74 | n => n, fun | 9 => 9 | 21 => 21 | 3 => 3 | 4 => 4 | 5 => 5 | 119 => 56 | 0 => 0 | 46 => 44 | 139 => 107 | 138 => 106 | n => n, fun | 3 => 5 | 4 => 6 | n => n⟩
theorem Tryd.lays260 : Go.Proofs.Lays.n260 Tryd.prog Tryd.lays260_ren := {
  mixed := by kernel_rfl
  f260 := Tryd.func74.trans (congrArg some (by kernel_rfl))
  t0 := Tryd.underlying0
  a0 := Tryd.isAgg0
  z0 := Tryd.sizeOf0
  v0 := Tryd.zeroValue0
  t3 := Tryd.underlying3
  a3 := Tryd.isAgg3
  z3 := Tryd.sizeOf3
  v3 := Tryd.zeroValue3
  t4 := Tryd.underlying4
  a4 := Tryd.isAgg4
  z4 := Tryd.sizeOf4
  v4 := Tryd.zeroValue4
  t5 := Tryd.underlying5
  a5 := Tryd.isAgg5
  z5 := Tryd.sizeOf5
  v5 := Tryd.zeroValue5
  t9 := Tryd.underlying9
  a9 := Tryd.isAgg9
  z9 := Tryd.sizeOf9
  v9 := Tryd.zeroValue9
  t21 := Tryd.underlying21
  a21 := Tryd.isAgg21
  z21 := Tryd.sizeOf21
  v21 := Tryd.zeroValue21
  t46 := Tryd.underlying44
  a46 := Tryd.isAgg44
  z46 := Tryd.sizeOf44
  v46 := Tryd.zeroValue44
  t119 := Tryd.underlying56
  a119 := Tryd.isAgg56
  z119 := Tryd.sizeOf56
  t138 := Tryd.underlying106
  a138 := Tryd.isAgg106
  z138 := Tryd.sizeOf106
  v138 := Tryd.zeroValue106
  t139 := Tryd.underlying107
  a139 := Tryd.isAgg107
  z139 := Tryd.sizeOf107
  v139 := Tryd.zeroValue107
  g3 := by kernel_rfl
  g4 := by kernel_rfl }
open Go.RowKit Go.Lib in
theorem Tryd.utf8_decodeRuneInStringSlow (s : ByteArray) (w : World) (hT : Lib.Utf8Tabs 5 6 w) :
    Calls Tryd.prog 74 #[.string s] w fun e w' => e = .returned (.tuple #[.int .i32 (Lib.decodeGo s).1, .int .i64 (Lib.decodeGo s).2]) ∧ Below w.heap.size w w' := Any.utf8_decodeRuneInStringSlow Tryd.lays260 s w hT
def Tryd.lays197_ren : Go.Shelf.Ren := ⟨fun | 197 => 55 | 260 => 74 | n => n, fun | 9 => 9 | 21 => 21 | 3 => 3 | 4 => 4 | 5 => 5 | 105 => 71 | 119 => 56 | 0 => 0 | 46 => 44 | 139 => 107 | 138 => 106 | n => n, fun | 3 => 5 | 4 => 6 | n => n⟩
theorem Tryd.lays197 : Go.Proofs.Lays.n197 Tryd.prog Tryd.lays197_ren := {
  mixed := by kernel_rfl
  f197 := Tryd.func55.trans (congrArg some (by kernel_rfl))
  f260 := Tryd.func74.trans (congrArg some (by kernel_rfl))
  t0 := Tryd.underlying0
  a0 := Tryd.isAgg0
  z0 := Tryd.sizeOf0
  v0 := Tryd.zeroValue0
  t3 := Tryd.underlying3
  a3 := Tryd.isAgg3
  z3 := Tryd.sizeOf3
  v3 := Tryd.zeroValue3
  t4 := Tryd.underlying4
  a4 := Tryd.isAgg4
  z4 := Tryd.sizeOf4
  v4 := Tryd.zeroValue4
  t5 := Tryd.underlying5
  a5 := Tryd.isAgg5
  z5 := Tryd.sizeOf5
  v5 := Tryd.zeroValue5
  t9 := Tryd.underlying9
  a9 := Tryd.isAgg9
  z9 := Tryd.sizeOf9
  v9 := Tryd.zeroValue9
  t21 := Tryd.underlying21
  a21 := Tryd.isAgg21
  z21 := Tryd.sizeOf21
  v21 := Tryd.zeroValue21
  t46 := Tryd.underlying44
  a46 := Tryd.isAgg44
  z46 := Tryd.sizeOf44
  v46 := Tryd.zeroValue44
  t105 := Tryd.underlying71
  a105 := Tryd.isAgg71
  z105 := Tryd.sizeOf71
  v105 := Tryd.zeroValue71
  t119 := Tryd.underlying56
  a119 := Tryd.isAgg56
  z119 := Tryd.sizeOf56
  t138 := Tryd.underlying106
  a138 := Tryd.isAgg106
  z138 := Tryd.sizeOf106
  v138 := Tryd.zeroValue106
  t139 := Tryd.underlying107
  a139 := Tryd.isAgg107
  z139 := Tryd.sizeOf107
  v139 := Tryd.zeroValue107
  g3 := by kernel_rfl
  g4 := by kernel_rfl }
open Go.RowKit Go.Lib in
theorem Tryd.utf8_DecodeRuneInString (s : ByteArray) (w : World) (hT : Lib.Utf8Tabs 5 6 w) :
    Calls Tryd.prog 55 #[.string s] w fun e w' => e = .returned (.tuple #[.int .i32 (Lib.decodeGo s).1, .int .i64 (Lib.decodeGo s).2]) ∧ Below w.heap.size w w' := Any.utf8_DecodeRuneInString Tryd.lays197 s w hT
def Tryd.lays311_ren : Go.Shelf.Ren := ⟨fun | 311 => 71 | n => n, fun | 193 => 84 | 49 => 88 | 4 => 4 | 3 => 3 | 0 => 0 | 226 => 103 | 198 => 90 | 46 => 44 | n => n, fun | n => n⟩
theorem Tryd.lays311 : Go.Proofs.Lays.n311 Tryd.prog Tryd.lays311_ren := {
  mixed := by kernel_rfl
  f311 := Tryd.func71.trans (congrArg some (by kernel_rfl))
  t0 := Tryd.underlying0
  a0 := Tryd.isAgg0
  z0 := Tryd.sizeOf0
  v0 := Tryd.zeroValue0
  t3 := Tryd.underlying3
  a3 := Tryd.isAgg3
  z3 := Tryd.sizeOf3
  v3 := Tryd.zeroValue3
  t4 := Tryd.underlying4
  a4 := Tryd.isAgg4
  z4 := Tryd.sizeOf4
  v4 := Tryd.zeroValue4
  t46 := Tryd.underlying44
  a46 := Tryd.isAgg44
  z46 := Tryd.sizeOf44
  v46 := Tryd.zeroValue44
  t49 := Tryd.underlying88
  a49 := Tryd.isAgg88
  z49 := Tryd.sizeOf88
  v49 := Tryd.zeroValue88
  t193 := Tryd.underlying84
  a193 := Tryd.isAgg84
  z193 := Tryd.sizeOf84
  v193 := Tryd.zeroValue84
  t198 := Tryd.underlying90
  a198 := Tryd.isAgg90
  z198 := Tryd.sizeOf90
  v198 := Tryd.zeroValue90
  t226 := Tryd.underlying103
  a226 := Tryd.isAgg103
  z226 := Tryd.sizeOf103
  v226 := Tryd.zeroValue103 }
open Go.RowKit Go.Lib in
theorem Tryd.unicode_is16_white (R oR : Nat) (z : Nat) (w : World) (hz : z < 65536) (hz0 : 255 < z) (c6 : w.cell? ⟨R, oR + 6, none⟩ = some (.int .u16 160)) (c7 : w.cell? ⟨R, oR + 7, none⟩ = some (.int .u16 5760)) (c8 : w.cell? ⟨R, oR + 8, none⟩ = some (.int .u16 5600)) (c9 : w.cell? ⟨R, oR + 9, none⟩ = some (.int .u16 8192)) (c10 : w.cell? ⟨R, oR + 10, none⟩ = some (.int .u16 8202)) (c11 : w.cell? ⟨R, oR + 11, none⟩ = some (.int .u16 1)) (c12 : w.cell? ⟨R, oR + 12, none⟩ = some (.int .u16 8232)) (c13 : w.cell? ⟨R, oR + 13, none⟩ = some (.int .u16 8233)) (c14 : w.cell? ⟨R, oR + 14, none⟩ = some (.int .u16 1)) (c15 : w.cell? ⟨R, oR + 15, none⟩ = some (.int .u16 8239)) (c16 : w.cell? ⟨R, oR + 16, none⟩ = some (.int .u16 8287)) (c17 : w.cell? ⟨R, oR + 17, none⟩ = some (.int .u16 48)) (c18 : w.cell? ⟨R, oR + 18, none⟩ = some (.int .u16 12288)) (c19 : w.cell? ⟨R, oR + 19, none⟩ = some (.int .u16 12288)) (c20 : w.cell? ⟨R, oR + 20, none⟩ = some (.int .u16 1)) :
    Calls Tryd.prog 71 #[.slice (some ⟨R, oR + 6, none⟩) 5 5, .int .u16 z] w fun e w' => e = .returned (.bool (Lib.isSpaceR z)) ∧ Below w.heap.size w w' := Any.unicode_is16_white Tryd.lays311 R oR z w hz hz0 c6 c7 c8 c9 c10 c11 c12 c13 c14 c15 c16 c17 c18 c19 c20
def Tryd.lays261_ren : Go.Shelf.Ren := ⟨fun | 261 => 53 | 311 => 71 | 312 => 72 | n => n, fun | 141 => 69 | 21 => 21 | 4 => 4 | 0 => 0 | 196 => 87 | 193 => 84 | 3 => 3 | 51 => 67 | 198 => 90 | 49 => 88 | 194 => 85 | 201 => 93 | 226 => 103 | 46 => 44 | 227 => 104 | n => n, fun | n => n⟩
theorem Tryd.lays261 : Go.Proofs.Lays.n261 Tryd.prog Tryd.lays261_ren := {
  mixed := by kernel_rfl
  f261 := Tryd.func53.trans (congrArg some (by kernel_rfl))
  f311 := Tryd.func71.trans (congrArg some (by kernel_rfl))
  f312 := Tryd.func72.trans (congrArg some (by kernel_rfl))
  t0 := Tryd.underlying0
  a0 := Tryd.isAgg0
  z0 := Tryd.sizeOf0
  v0 := Tryd.zeroValue0
  t3 := Tryd.underlying3
  a3 := Tryd.isAgg3
  z3 := Tryd.sizeOf3
  v3 := Tryd.zeroValue3
  t4 := Tryd.underlying4
  a4 := Tryd.isAgg4
  z4 := Tryd.sizeOf4
  v4 := Tryd.zeroValue4
  t21 := Tryd.underlying21
  a21 := Tryd.isAgg21
  z21 := Tryd.sizeOf21
  v21 := Tryd.zeroValue21
  t46 := Tryd.underlying44
  a46 := Tryd.isAgg44
  z46 := Tryd.sizeOf44
  v46 := Tryd.zeroValue44
  t49 := Tryd.underlying88
  a49 := Tryd.isAgg88
  z49 := Tryd.sizeOf88
  v49 := Tryd.zeroValue88
  t51 := Tryd.underlying67
  a51 := Tryd.isAgg67
  z51 := Tryd.sizeOf67
  v51 := Tryd.zeroValue67
  t141 := Tryd.underlying69
  a141 := Tryd.isAgg69
  z141 := Tryd.sizeOf69
  v141 := Tryd.zeroValue69
  t193 := Tryd.underlying84
  a193 := Tryd.isAgg84
  z193 := Tryd.sizeOf84
  v193 := Tryd.zeroValue84
  t194 := Tryd.underlying85
  a194 := Tryd.isAgg85
  z194 := Tryd.sizeOf85
  v194 := Tryd.zeroValue85
  t196 := Tryd.underlying87
  a196 := Tryd.isAgg87
  z196 := Tryd.sizeOf87
  v196 := Tryd.zeroValue87
  t198 := Tryd.underlying90
  a198 := Tryd.isAgg90
  z198 := Tryd.sizeOf90
  v198 := Tryd.zeroValue90
  t201 := Tryd.underlying93
  a201 := Tryd.isAgg93
  z201 := Tryd.sizeOf93
  v201 := Tryd.zeroValue93
  t226 := Tryd.underlying103
  a226 := Tryd.isAgg103
  z226 := Tryd.sizeOf103
  v226 := Tryd.zeroValue103
  t227 := Tryd.underlying104
  a227 := Tryd.isAgg104
  z227 := Tryd.sizeOf104
  v227 := Tryd.zeroValue104 }
open Go.RowKit Go.Lib in
theorem Tryd.unicode_isExcludingLatin_white (T oT R oR : Nat) (r : Int) (w : World) (hlo : -2147483648 ≤ r) (hhi : r ≤ 2147483647) (hr : r < 0 ∨ 255 < r) (h2 : w.cell? ⟨T, oT, none⟩ = some (.slice (some ⟨R, oR, none⟩) 7 7)) (h3 : w.cell? ⟨T, oT + 1, none⟩ = some (.slice none 0 0)) (h4 : w.cell? ⟨T, oT + 2, none⟩ = some (.int .i64 2)) (h5 : ∀ i, i < 21 → w.cell? ⟨R, oR + i, none⟩ = some (.int .u16 (whiteT.getD i 0))) :
    Calls Tryd.prog 53 #[.pointer (some ⟨T, oT, none⟩), .int .i32 r] w fun e w' => e = .returned (.bool (Lib.isSpaceZ r)) ∧ Below w.heap.size w w' := Any.unicode_isExcludingLatin_white Tryd.lays261 T oT R oR r w hlo hhi hr h2 h3 h4 h5
open Go.RowKit Go.Lib in
theorem Tryd.unicode_IsSpace_any (r : Int) (w : World) (hlo : -2147483648 ≤ r) (hhi : r ≤ 2147483647) (hW : Lib.WhiteTab 1 w) :
    Calls Tryd.prog 39 #[.int .i32 r] w fun e w' => e = .returned (.bool (Lib.isSpaceZ r)) ∧ Below w.heap.size w w' := Any.unicode_IsSpace_any Tryd.lays199 r w hlo hhi hW
def Tryd.lays271_ren : Go.Shelf.Ren := ⟨fun | 271 => 73 | 120 => 84 | 197 => 55 | 260 => 74 | n => n, fun | 9 => 9 | 21 => 21 | 3 => 3 | 4 => 4 | 5 => 5 | 105 => 71 | 119 => 56 | 0 => 0 | 46 => 44 | 139 => 107 | 138 => 106 | n => n, fun | 3 => 5 | 4 => 6 | n => n⟩
theorem Tryd.lays271 : Go.Proofs.Lays.n271 Tryd.prog Tryd.lays271_ren := {
  mixed := by kernel_rfl
  f120 := Tryd.func84.trans (congrArg some (by kernel_rfl))
  f197 := Tryd.func55.trans (congrArg some (by kernel_rfl))
  f260 := Tryd.func74.trans (congrArg some (by kernel_rfl))
  f271 := Tryd.func73.trans (congrArg some (by kernel_rfl))
  t0 := Tryd.underlying0
  a0 := Tryd.isAgg0
  z0 := Tryd.sizeOf0
  v0 := Tryd.zeroValue0
  t3 := Tryd.underlying3
  a3 := Tryd.isAgg3
  z3 := Tryd.sizeOf3
  v3 := Tryd.zeroValue3
  t4 := Tryd.underlying4
  a4 := Tryd.isAgg4
  z4 := Tryd.sizeOf4
  v4 := Tryd.zeroValue4
  t5 := Tryd.underlying5
  a5 := Tryd.isAgg5
  z5 := Tryd.sizeOf5
  v5 := Tryd.zeroValue5
  t9 := Tryd.underlying9
  a9 := Tryd.isAgg9
  z9 := Tryd.sizeOf9
  v9 := Tryd.zeroValue9
  t21 := Tryd.underlying21
  a21 := Tryd.isAgg21
  z21 := Tryd.sizeOf21
  v21 := Tryd.zeroValue21
  t46 := Tryd.underlying44
  a46 := Tryd.isAgg44
  z46 := Tryd.sizeOf44
  v46 := Tryd.zeroValue44
  t105 := Tryd.underlying71
  a105 := Tryd.isAgg71
  z105 := Tryd.sizeOf71
  v105 := Tryd.zeroValue71
  t119 := Tryd.underlying56
  a119 := Tryd.isAgg56
  z119 := Tryd.sizeOf56
  t138 := Tryd.underlying106
  a138 := Tryd.isAgg106
  z138 := Tryd.sizeOf106
  v138 := Tryd.zeroValue106
  t139 := Tryd.underlying107
  a139 := Tryd.isAgg107
  z139 := Tryd.sizeOf107
  v139 := Tryd.zeroValue107
  g3 := by kernel_rfl
  g4 := by kernel_rfl }
open Go.RowKit Go.Lib in
theorem Tryd.utf8_DecodeLastRuneInString (s : ByteArray) (w : World) (hs : s.size ≤ 9223372036854775807) (hT : Lib.Utf8Tabs 5 6 w) :
    Calls Tryd.prog 73 #[.string s] w fun e w' => e = .returned (.tuple #[.int .i32 (Lib.decodeLastL s.data.toList).1, .int .i64 (Lib.decodeLastL s.data.toList).2]) ∧ Below w.heap.size w w' := Any.utf8_DecodeLastRuneInString Tryd.lays271 s w hs hT
open Go.RowKit in
theorem Tryd.strings_TrimSpace_any (s : ByteArray) (w : World) (hs : s.size ≤ 9223372036854775807) (htab : Lib.TabIs Tryd.prog w "strings.asciiSpace" .u8 Lib.asciiSpaceTab) (hU8 : Lib.Utf8Tabs 5 6 w) (hWS : Lib.WhiteTab 1 w) :
    Calls Tryd.prog 26 #[.string s] w fun e w' => e = .returned (.string ⟨(Lib.trimSpaceD s.data.toList).toArray⟩) ∧ Below w.heap.size w w' := Any.strings_TrimSpace_any Tryd.lays163 Tryd.Space_Extra_163 s w hs htab hU8 hWS
open Go.RowKit Go.Lib in
theorem Tryd.unicode_is16_any (T : Array Rg) (R oR cap : Nat) (z : Nat) (w : World) (hz : z < 65536) (hT : RgTab .u16 R oR T w) (hok : RgOk 65536 T) (hn : T.size ≤ 1000000000) :
    Calls Tryd.prog 71 #[.slice (some ⟨R, oR, none⟩) T.size cap, .int .u16 z] w fun e w' => e = .returned (.bool (is16Go T z)) ∧ ∃ q, w' = w.drewN q := Any.unicode_is16_any Tryd.lays311 T R oR cap z w hz hT hok hn
def Tryd.lays312_ren : Go.Shelf.Ren := ⟨fun | 312 => 72 | n => n, fun | 194 => 85 | 51 => 67 | 4 => 4 | 3 => 3 | 0 => 0 | 227 => 104 | 201 => 93 | 46 => 44 | n => n, fun | n => n⟩
theorem Tryd.lays312 : Go.Proofs.Lays.n312 Tryd.prog Tryd.lays312_ren := {
  mixed := by kernel_rfl
  f312 := Tryd.func72.trans (congrArg some (by kernel_rfl))
  t0 := Tryd.underlying0
  a0 := Tryd.isAgg0
  z0 := Tryd.sizeOf0
  v0 := Tryd.zeroValue0
  t3 := Tryd.underlying3
  a3 := Tryd.isAgg3
  z3 := Tryd.sizeOf3
  v3 := Tryd.zeroValue3
  t4 := Tryd.underlying4
  a4 := Tryd.isAgg4
  z4 := Tryd.sizeOf4
  v4 := Tryd.zeroValue4
  t46 := Tryd.underlying44
  a46 := Tryd.isAgg44
  z46 := Tryd.sizeOf44
  v46 := Tryd.zeroValue44
  t51 := Tryd.underlying67
  a51 := Tryd.isAgg67
  z51 := Tryd.sizeOf67
  v51 := Tryd.zeroValue67
  t194 := Tryd.underlying85
  a194 := Tryd.isAgg85
  z194 := Tryd.sizeOf85
  v194 := Tryd.zeroValue85
  t201 := Tryd.underlying93
  a201 := Tryd.isAgg93
  z201 := Tryd.sizeOf93
  v201 := Tryd.zeroValue93
  t227 := Tryd.underlying104
  a227 := Tryd.isAgg104
  z227 := Tryd.sizeOf104
  v227 := Tryd.zeroValue104 }
open Go.RowKit Go.Lib in
theorem Tryd.unicode_is32_any (T : Array Rg) (R oR cap : Nat) (z : Nat) (w : World) (hz : z < 4294967296) (hT : RgTab .u32 R oR T w) (hok : RgOk 4294967296 T) (hn : T.size ≤ 1000000000) :
    Calls Tryd.prog 72 #[.slice (some ⟨R, oR, none⟩) T.size cap, .int .u32 z] w fun e w' => e = .returned (.bool (is32Go T z)) ∧ Below w.heap.size w w' := Any.unicode_is32_any Tryd.lays312 T R oR cap z w hz hT hok hn
open Go.RowKit Go.Lib in
theorem Tryd.unicode_isExcludingLatin_any (Tb oT : Nat) (T : RTab) (r : Int) (w : World) (hlo : -2147483648 ≤ r) (hhi : r ≤ 2147483647) (hA : RTabAt Tb oT T w) (hok : RTabOk T) :
    Calls Tryd.prog 53 #[.pointer (some ⟨Tb, oT, none⟩), .int .i32 r] w fun e w' => e = .returned (.bool (exclGo T r)) ∧ Below w.heap.size w w' := Any.unicode_isExcludingLatin_any Tryd.lays261 Tb oT T r w hlo hhi hA hok
end Go.Proofs
