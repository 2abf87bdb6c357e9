import Derived.Shelf.Strings.Builder1
import Derived.Shelf.Strings.TrimSpace
import Derived.Shelf.Small.Utf8
import Derived.Shelf.Small.Strs
import Derived.Shelf.Strings.BuilderF
import Derived.Shelf.Strings.BuilderK
import Derived.Shelf.Strings.Search1
import Derived.Shelf.Unicode.Latin
import Derived.Shelf.Unicode.Decode
import Derived.Shelf.Strings.Runes
import Derived.Shelf.Strings.IndexAny
import Derived.Shelf.Strings.AsciiSet
import Derived.Shelf.Strings.IndexAnyAll
import Derived.Shelf.Unicode.DecodeSlow
import Derived.Shelf.Unicode.DecodeAny
import Derived.Shelf.Unicode.Is16White
import Derived.Shelf.Unicode.IsSpaceAny
import Derived.Shelf.Unicode.DecodeLast
import Derived.Shelf.Strings.TrimSpaceAny
import Derived.Shelf.Unicode.Is16Any
import Derived.Shelf.Unicode.Is32Any
import Derived.Shelf.Unicode.ExclAny
import Derived.Test.Qxb6606142aDoorProg
namespace Go.Proofs
open Go.Shelf
def Tryd.lays169_ren : Go.Shelf.Ren := ⟨fun | 169 => 17 | n => n, fun | 70 => 35 | 9 => 9 | 0 => 0 | 72 => 37 | 37 => 25 | 127 => 46 | 3 => 3 | 5 => 5 | n => n, fun | n => n⟩
theorem Tryd.lays169 : Go.Proofs.Lays.n169 Tryd.prog Tryd.lays169_ren := {
  mixed := by kernel_rfl
  f169 := Tryd.func17.trans (congrArg some (by kernel_rfl))
  t0 := Tryd.underlying0
  a0 := Tryd.isAgg0
  z0 := Tryd.sizeOf0
  v0 := Tryd.zeroValue0
  t3 := Tryd.underlying3
  a3 := Tryd.isAgg3
  z3 := Tryd.sizeOf3
  v3 := Tryd.zeroValue3
  t9 := Tryd.underlying9
  a9 := Tryd.isAgg9
  z9 := Tryd.sizeOf9
  v9 := Tryd.zeroValue9
  t37 := Tryd.underlying25
  a37 := Tryd.isAgg25
  z37 := Tryd.sizeOf25
  v37 := Tryd.zeroValue25
  t70 := Tryd.underlying35
  a70 := Tryd.isAgg35
  z70 := Tryd.sizeOf35
  v70 := Tryd.zeroValue35
  t72 := Tryd.underlying37
  a72 := Tryd.isAgg37
  z72 := Tryd.sizeOf37
  v72 := Tryd.zeroValue37
  t127 := Tryd.underlying46
  a127 := Tryd.isAgg46
  z127 := Tryd.sizeOf46
  v127 := Tryd.zeroValue46 }
theorem Tryd.Builder_Extra_169 : Builder.Extra Tryd.prog Tryd.lays169_ren := {
  sizeBuilder := by kernel_rfl
  liesBuilder := by kernel_rfl
  t5 := Tryd.underlying5
  a5 := Tryd.isAgg5
  z5 := Tryd.sizeOf5
  v5 := Tryd.zeroValue5
  infoByte := by kernel_rfl
  cellsByte := by kernel_rfl
  sizeByte := by kernel_rfl
  neB5 := by decide }
open Go.RowKit in
theorem Tryd.Builder_String (B b : Nat) (l : List UInt8) (w : World) (h : Lib.IsBuilder 37 5 B b (Lib.byteCells l) w) (h0 : l ≠ []) :
    Calls Tryd.prog 17 #[.pointer (some ⟨b, 0, none⟩)] w fun e w' => e = .returned (.string ⟨l.toArray⟩) ∧ Below B w w' := Any.Builder_String Tryd.lays169 Tryd.Builder_Extra_169 B b l w h h0
open Go.RowKit in
theorem Tryd.Builder_String_empty (B b : Nat) (w : World) (h : Lib.IsBuilder 37 5 B b [] w) (hBw : B ≤ w.heap.size) :
    Calls Tryd.prog 17 #[.pointer (some ⟨b, 0, none⟩)] w fun e w' => e = .returned (.string ⟨#[]⟩) ∧ Below B w w' := Any.Builder_String_empty Tryd.lays169 Tryd.Builder_Extra_169 B b w h hBw
open Go.RowKit in
theorem Tryd.Builder_String_any (B b : Nat) (l : List UInt8) (w : World) (h : Lib.IsBuilder 37 5 B b (Lib.byteCells l) w) (hBw : B ≤ w.heap.size) :
    Calls Tryd.prog 17 #[.pointer (some ⟨b, 0, none⟩)] w fun e w' => e = .returned (.string ⟨l.toArray⟩) ∧ Below B w w' := Any.Builder_String_any Tryd.lays169 Tryd.Builder_Extra_169 B b l w h hBw
def Tryd.lays163_ren : Go.Shelf.Ren := ⟨fun | 163 => 15 | 237 => 19 | 199 => 20 | 238 => 21 | 272 => 27 | 261 => 28 | 273 => 29 | 197 => 30 | 315 => 36 | 311 => 37 | 312 => 38 | 271 => 39 | 260 => 40 | 120 => 42 | n => n, fun | 9 => 9 | 37 => 25 | 3 => 3 | 0 => 0 | 5 => 5 | 4 => 4 | 40 => 44 | 119 => 45 | 21 => 21 | 51 => 54 | 141 => 56 | 105 => 58 | 196 => 69 | 193 => 66 | 198 => 72 | 49 => 70 | 194 => 67 | 201 => 75 | 226 => 77 | 46 => 64 | 227 => 78 | 139 => 81 | 138 => 80 | n => n, fun | 0 => 0 | 6 => 1 | 3 => 3 | 4 => 4 | n => n⟩
theorem Tryd.lays163 : Go.Proofs.Lays.n163 Tryd.prog Tryd.lays163_ren := {
  mixed := by kernel_rfl
  f120 := Tryd.func42.trans (congrArg some (by kernel_rfl))
  f163 := Tryd.func15.trans (congrArg some (by kernel_rfl))
  f197 := Tryd.func30.trans (congrArg some (by kernel_rfl))
  f199 := Tryd.func20.trans (congrArg some (by kernel_rfl))
  f237 := Tryd.func19.trans (congrArg some (by kernel_rfl))
  f238 := Tryd.func21.trans (congrArg some (by kernel_rfl))
  f260 := Tryd.func40.trans (congrArg some (by kernel_rfl))
  f261 := Tryd.func28.trans (congrArg some (by kernel_rfl))
  f271 := Tryd.func39.trans (congrArg some (by kernel_rfl))
  f272 := Tryd.func27.trans (congrArg some (by kernel_rfl))
  f273 := Tryd.func29.trans (congrArg some (by kernel_rfl))
  f311 := Tryd.func37.trans (congrArg some (by kernel_rfl))
  f312 := Tryd.func38.trans (congrArg some (by kernel_rfl))
  f315 := Tryd.func36.trans (congrArg some (by kernel_rfl))
  t0 := Tryd.underlying0
  a0 := Tryd.isAgg0
  z0 := Tryd.sizeOf0
  v0 := Tryd.zeroValue0
  t3 := Tryd.underlying3
  a3 := Tryd.isAgg3
  z3 := Tryd.sizeOf3
  v3 := Tryd.zeroValue3
  t4 := Tryd.underlying4
  a4 := Tryd.isAgg4
  z4 := Tryd.sizeOf4
  v4 := Tryd.zeroValue4
  t5 := Tryd.underlying5
  a5 := Tryd.isAgg5
  z5 := Tryd.sizeOf5
  v5 := Tryd.zeroValue5
  t9 := Tryd.underlying9
  a9 := Tryd.isAgg9
  z9 := Tryd.sizeOf9
  v9 := Tryd.zeroValue9
  t21 := Tryd.underlying21
  a21 := Tryd.isAgg21
  z21 := Tryd.sizeOf21
  v21 := Tryd.zeroValue21
  t37 := Tryd.underlying25
  a37 := Tryd.isAgg25
  z37 := Tryd.sizeOf25
  v37 := Tryd.zeroValue25
  t40 := Tryd.underlying44
  a40 := Tryd.isAgg44
  z40 := Tryd.sizeOf44
  v40 := Tryd.zeroValue44
  t46 := Tryd.underlying64
  a46 := Tryd.isAgg64
  z46 := Tryd.sizeOf64
  v46 := Tryd.zeroValue64
  t49 := Tryd.underlying70
  a49 := Tryd.isAgg70
  z49 := Tryd.sizeOf70
  v49 := Tryd.zeroValue70
  t51 := Tryd.underlying54
  a51 := Tryd.isAgg54
  z51 := Tryd.sizeOf54
  v51 := Tryd.zeroValue54
  t105 := Tryd.underlying58
  a105 := Tryd.isAgg58
  z105 := Tryd.sizeOf58
  v105 := Tryd.zeroValue58
  t119 := Tryd.underlying45
  a119 := Tryd.isAgg45
  z119 := Tryd.sizeOf45
  t138 := Tryd.underlying80
  a138 := Tryd.isAgg80
  z138 := Tryd.sizeOf80
  v138 := Tryd.zeroValue80
  t139 := Tryd.underlying81
  a139 := Tryd.isAgg81
  z139 := Tryd.sizeOf81
  v139 := Tryd.zeroValue81
  t141 := Tryd.underlying56
  a141 := Tryd.isAgg56
  z141 := Tryd.sizeOf56
  v141 := Tryd.zeroValue56
  t193 := Tryd.underlying66
  a193 := Tryd.isAgg66
  z193 := Tryd.sizeOf66
  v193 := Tryd.zeroValue66
  t194 := Tryd.underlying67
  a194 := Tryd.isAgg67
  z194 := Tryd.sizeOf67
  v194 := Tryd.zeroValue67
  t196 := Tryd.underlying69
  a196 := Tryd.isAgg69
  z196 := Tryd.sizeOf69
  v196 := Tryd.zeroValue69
  t198 := Tryd.underlying72
  a198 := Tryd.isAgg72
  z198 := Tryd.sizeOf72
  v198 := Tryd.zeroValue72
  t201 := Tryd.underlying75
  a201 := Tryd.isAgg75
  z201 := Tryd.sizeOf75
  v201 := Tryd.zeroValue75
  t226 := Tryd.underlying77
  a226 := Tryd.isAgg77
  z226 := Tryd.sizeOf77
  v226 := Tryd.zeroValue77
  t227 := Tryd.underlying78
  a227 := Tryd.isAgg78
  z227 := Tryd.sizeOf78
  v227 := Tryd.zeroValue78
  g0 := by kernel_rfl
  g3 := by kernel_rfl
  g4 := by kernel_rfl
  g6 := by kernel_rfl }
theorem Tryd.Space_Extra_163 : Space.Extra Tryd.prog Tryd.lays163_ren := {
  gNamed := by kernel_rfl }
open Go.RowKit in
theorem Tryd.strings_TrimSpace (s : ByteArray) (w : World) (hs : s.size ≤ 9223372036854775807) (hascii : ∀ (j : Nat) b, s.data.toList[j]? = some b → b.toNat < 128) (htab : Lib.TabIs Tryd.prog w "strings.asciiSpace" .u8 Lib.asciiSpaceTab) :
    Calls Tryd.prog 15 #[.string s] w fun e w' => e = .returned (.string ⟨(Lib.trimSpace s.data.toList).toArray⟩) ∧ w' = Lib.bytesWorld w 5 s := Any.strings_TrimSpace Tryd.lays163 Tryd.Space_Extra_163 s w hs hascii htab
def Tryd.lays119_ren : Go.Shelf.Ren := ⟨fun | 119 => 33 | n => n, fun | 21 => 21 | 4 => 4 | n => n, fun | n => n⟩
theorem Tryd.lays119 : Go.Proofs.Lays.n119 Tryd.prog Tryd.lays119_ren := {
  mixed := by kernel_rfl
  f119 := Tryd.func33.trans (congrArg some (by kernel_rfl))
  t4 := Tryd.underlying4
  a4 := Tryd.isAgg4
  z4 := Tryd.sizeOf4
  v4 := Tryd.zeroValue4
  t21 := Tryd.underlying21
  a21 := Tryd.isAgg21
  z21 := Tryd.sizeOf21
  v21 := Tryd.zeroValue21 }
theorem Tryd.utf8_ValidRune (r : Int) (w : World) :
    Calls Tryd.prog 33 #[.int .i32 r] w fun e w' => e = .returned (.bool (Lib.validRune r)) ∧ w' = w := Any.utf8_ValidRune Tryd.lays119 r w
def Tryd.lays120_ren : Go.Shelf.Ren := ⟨fun | 120 => 42 | n => n, fun | 5 => 5 | 4 => 4 | n => n, fun | n => n⟩
theorem Tryd.lays120 : Go.Proofs.Lays.n120 Tryd.prog Tryd.lays120_ren := {
  mixed := by kernel_rfl
  f120 := Tryd.func42.trans (congrArg some (by kernel_rfl))
  t4 := Tryd.underlying4
  a4 := Tryd.isAgg4
  z4 := Tryd.sizeOf4
  v4 := Tryd.zeroValue4
  t5 := Tryd.underlying5
  a5 := Tryd.isAgg5
  z5 := Tryd.sizeOf5
  v5 := Tryd.zeroValue5 }
theorem Tryd.utf8_RuneStart (b : Int) (w : World) (h0 : 0 ≤ b) (h1 : b < 256) :
    Calls Tryd.prog 42 #[.int .u8 b] w fun e w' => e = .returned (.bool (Lib.runeStart b)) ∧ w' = w := Any.utf8_RuneStart Tryd.lays120 b w h0 h1
def Tryd.lays137_ren : Go.Shelf.Ren := ⟨fun | 137 => 32 | 217 => 41 | 266 => 43 | n => n, fun | 9 => 9 | 5 => 5 | 3 => 3 | n => n, fun | n => n⟩
theorem Tryd.lays137 : Go.Proofs.Lays.n137 Tryd.prog Tryd.lays137_ren := {
  mixed := by kernel_rfl
  f137 := Tryd.func32.trans (congrArg some (by kernel_rfl))
  f217 := Tryd.func41.trans (congrArg some (by kernel_rfl))
  f266 := Tryd.func43.trans (congrArg some (by kernel_rfl))
  t3 := Tryd.underlying3
  a3 := Tryd.isAgg3
  z3 := Tryd.sizeOf3
  v3 := Tryd.zeroValue3
  t5 := Tryd.underlying5
  a5 := Tryd.isAgg5
  z5 := Tryd.sizeOf5
  v5 := Tryd.zeroValue5
  t9 := Tryd.underlying9
  a9 := Tryd.isAgg9
  z9 := Tryd.sizeOf9
  v9 := Tryd.zeroValue9 }
open Go.RowKit in
theorem Tryd.strings_IndexByte (s : ByteArray) (c : Int) (w : World) :
    Calls Tryd.prog 32 #[.string s, .int .u8 c] w fun e w' => e = .returned (.int .i64 (Lib.indexByte s.data.toList c.toNat.toUInt8)) ∧ w' = w := Any.strings_IndexByte Tryd.lays137 s c w
open Go.RowKit in
theorem Tryd.Builder_String_f (B b : Nat) (l : List UInt8) (w : World) (h : Lib.IsBuilderF 37 5 B b (Lib.byteCells l) w) (h0 : l ≠ []) :
    Calls Tryd.prog 17 #[.pointer (some ⟨b, 0, none⟩)] w fun e w' => e = .returned (.string ⟨l.toArray⟩) ∧ (Lib.IsBuilderF 37 5 B b (Lib.byteCells l) w' ∧ Below B w w') := Any.Builder_String_f Tryd.lays169 Tryd.Builder_Extra_169 B b l w h h0
open Go.RowKit in
theorem Tryd.Builder_String_empty_f (B b : Nat) (w : World) (h : Lib.IsBuilderF 37 5 B b [] w) (hBw : B ≤ w.heap.size) :
    Calls Tryd.prog 17 #[.pointer (some ⟨b, 0, none⟩)] w fun e w' => e = .returned (.string ⟨#[]⟩) ∧ (Lib.IsBuilderF 37 5 B b [] w' ∧ Below B w w') := Any.Builder_String_empty_f Tryd.lays169 Tryd.Builder_Extra_169 B b w h hBw
open Go.RowKit in
theorem Tryd.Builder_String_any_f (B b : Nat) (l : List UInt8) (w : World) (h : Lib.IsBuilderF 37 5 B b (Lib.byteCells l) w) (hBw : B ≤ w.heap.size) :
    Calls Tryd.prog 17 #[.pointer (some ⟨b, 0, none⟩)] w fun e w' => e = .returned (.string ⟨l.toArray⟩) ∧ (Lib.IsBuilderF 37 5 B b (Lib.byteCells l) w' ∧ Below B w w') := Any.Builder_String_any_f Tryd.lays169 Tryd.Builder_Extra_169 B b l w h hBw
open Go.RowKit in
theorem Tryd.Builder_String_k (B b : Nat) (l : List UInt8) (w : World) (h : Lib.IsBuilderF 37 5 B b (Lib.byteCells l) w) (h0 : l ≠ []) :
    Calls Tryd.prog 17 #[.pointer (some ⟨b, 0, none⟩)] w fun e w' => e = .returned (.string ⟨l.toArray⟩) ∧ (Lib.IsBuilderF 37 5 B b (Lib.byteCells l) w' ∧ Below B w w' ∧ Lib.OthersKept 5 (some b) w w') := Any.Builder_String_k Tryd.lays169 Tryd.Builder_Extra_169 B b l w h h0
open Go.RowKit in
theorem Tryd.Builder_String_empty_k (B b : Nat) (w : World) (h : Lib.IsBuilderF 37 5 B b [] w) (hBw : B ≤ w.heap.size) :
    Calls Tryd.prog 17 #[.pointer (some ⟨b, 0, none⟩)] w fun e w' => e = .returned (.string ⟨#[]⟩) ∧ (Lib.IsBuilderF 37 5 B b [] w' ∧ Below B w w' ∧ Lib.OthersKept 5 (some b) w w') := Any.Builder_String_empty_k Tryd.lays169 Tryd.Builder_Extra_169 B b w h hBw
open Go.RowKit in
theorem Tryd.Builder_String_any_k (B b : Nat) (l : List UInt8) (w : World) (h : Lib.IsBuilderF 37 5 B b (Lib.byteCells l) w) (hBw : B ≤ w.heap.size) :
    Calls Tryd.prog 17 #[.pointer (some ⟨b, 0, none⟩)] w fun e w' => e = .returned (.string ⟨l.toArray⟩) ∧ (Lib.IsBuilderF 37 5 B b (Lib.byteCells l) w' ∧ Below B w w' ∧ Lib.OthersKept 5 (some b) w w') := Any.Builder_String_any_k Tryd.lays169 Tryd.Builder_Extra_169 B b l w h hBw
def Tryd.lays217_ren : Go.Shelf.Ren := ⟨fun | 217 => 41 | 266 => 43 | n => n, fun | 9 => 9 | 5 => 5 | 3 => 3 | n => n, fun | n => n⟩
theorem Tryd.lays217 : Go.Proofs.Lays.n217 Tryd.prog Tryd.lays217_ren := {
  mixed := by kernel_rfl
  f217 := Tryd.func41.trans (congrArg some (by kernel_rfl))
  f266 := Tryd.func43.trans (congrArg some (by kernel_rfl))
  t3 := Tryd.underlying3
  a3 := Tryd.isAgg3
  z3 := Tryd.sizeOf3
  v3 := Tryd.zeroValue3
  t5 := Tryd.underlying5
  a5 := Tryd.isAgg5
  z5 := Tryd.sizeOf5
  v5 := Tryd.zeroValue5
  t9 := Tryd.underlying9
  a9 := Tryd.isAgg9
  z9 := Tryd.sizeOf9
  v9 := Tryd.zeroValue9 }
open Go.RowKit Go.Lib in
theorem Tryd.stringslite_IndexByte (s : ByteArray) (c : Int) (w : World) :
    Calls Tryd.prog 41 #[.string s, .int .u8 c] w fun e w' => e = .returned (.int .i64 (Lib.indexByte s.data.toList c.toNat.toUInt8)) ∧ w' = w := Any.stringslite_IndexByte Tryd.lays217 s c w
def Tryd.lays224_ren : Go.Shelf.Ren := ⟨fun | 224 => 34 | n => n, fun | 3 => 3 | n => n, fun | n => n⟩
theorem Tryd.lays224 : Go.Proofs.Lays.n224 Tryd.prog Tryd.lays224_ren := {
  mixed := by kernel_rfl
  f224 := Tryd.func34.trans (congrArg some (by kernel_rfl))
  t3 := Tryd.underlying3
  a3 := Tryd.isAgg3
  z3 := Tryd.sizeOf3
  v3 := Tryd.zeroValue3 }
open Go.RowKit Go.Lib in
theorem Tryd.bytealg_Cutover (n : Int) (h0 : 0 ≤ n) (h1 : n < 4611686018427387904) (w : World) :
    Calls Tryd.prog 34 #[.int .i64 n] w fun e w' => e = .returned (.int .i64 ((n + 16) / 8)) ∧ w' = w := Any.bytealg_Cutover Tryd.lays224 n h0 h1 w
def Tryd.lays199_ren : Go.Shelf.Ren := ⟨fun | 199 => 20 | 261 => 28 | 311 => 37 | 312 => 38 | n => n, fun | 21 => 21 | 4 => 4 | 51 => 54 | 141 => 56 | 0 => 0 | 196 => 69 | 193 => 66 | 3 => 3 | 198 => 72 | 49 => 70 | 194 => 67 | 201 => 75 | 226 => 77 | 46 => 64 | 227 => 78 | n => n, fun | 6 => 1 | n => n⟩
theorem Tryd.lays199 : Go.Proofs.Lays.n199 Tryd.prog Tryd.lays199_ren := {
  mixed := by kernel_rfl
  f199 := Tryd.func20.trans (congrArg some (by kernel_rfl))
  f261 := Tryd.func28.trans (congrArg some (by kernel_rfl))
  f311 := Tryd.func37.trans (congrArg some (by kernel_rfl))
  f312 := Tryd.func38.trans (congrArg some (by kernel_rfl))
  t0 := Tryd.underlying0
  a0 := Tryd.isAgg0
  z0 := Tryd.sizeOf0
  v0 := Tryd.zeroValue0
  t3 := Tryd.underlying3
  a3 := Tryd.isAgg3
  z3 := Tryd.sizeOf3
  v3 := Tryd.zeroValue3
  t4 := Tryd.underlying4
  a4 := Tryd.isAgg4
  z4 := Tryd.sizeOf4
  v4 := Tryd.zeroValue4
  t21 := Tryd.underlying21
  a21 := Tryd.isAgg21
  z21 := Tryd.sizeOf21
  v21 := Tryd.zeroValue21
  t46 := Tryd.underlying64
  a46 := Tryd.isAgg64
  z46 := Tryd.sizeOf64
  v46 := Tryd.zeroValue64
  t49 := Tryd.underlying70
  a49 := Tryd.isAgg70
  z49 := Tryd.sizeOf70
  v49 := Tryd.zeroValue70
  t51 := Tryd.underlying54
  a51 := Tryd.isAgg54
  z51 := Tryd.sizeOf54
  v51 := Tryd.zeroValue54
  t141 := Tryd.underlying56
  a141 := Tryd.isAgg56
  z141 := Tryd.sizeOf56
  v141 := Tryd.zeroValue56
  t193 := Tryd.underlying66
  a193 := Tryd.isAgg66
  z193 := Tryd.sizeOf66
  v193 := Tryd.zeroValue66
  t194 := Tryd.underlying67
  a194 := Tryd.isAgg67
  z194 := Tryd.sizeOf67
  v194 := Tryd.zeroValue67
  t196 := Tryd.underlying69
  a196 := Tryd.isAgg69
  z196 := Tryd.sizeOf69
  v196 := Tryd.zeroValue69
  t198 := Tryd.underlying72
  a198 := Tryd.isAgg72
  z198 := Tryd.sizeOf72
  v198 := Tryd.zeroValue72
  t201 := Tryd.underlying75
  a201 := Tryd.isAgg75
  z201 := Tryd.sizeOf75
  v201 := Tryd.zeroValue75
  t226 := Tryd.underlying77
  a226 := Tryd.isAgg77
  z226 := Tryd.sizeOf77
  v226 := Tryd.zeroValue77
  t227 := Tryd.underlying78
  a227 := Tryd.isAgg78
  z227 := Tryd.sizeOf78
  v227 := Tryd.zeroValue78
  g6 := by kernel_rfl }
open Go.RowKit Go.Lib in
theorem Tryd.unicode_IsSpace (r : Int) (w : World) (h0 : 0 ≤ r) (h : r ≤ 255) :
    Calls Tryd.prog 20 #[.int .i32 r] w fun e w' => e = .returned (.bool (Lib.isSpaceL r)) ∧ w' = w := Any.unicode_IsSpace Tryd.lays199 r w h0 h
def Tryd.lays197_ren : Go.Shelf.Ren := ⟨fun | 197 => 30 | 260 => 40 | n => n, fun | 9 => 9 | 21 => 21 | 3 => 3 | 4 => 4 | 5 => 5 | 105 => 58 | 119 => 45 | 0 => 0 | 46 => 64 | 139 => 81 | 138 => 80 | n => n, fun | 3 => 3 | 4 => 4 | n => n⟩
theorem Tryd.lays197 : Go.Proofs.Lays.n197 Tryd.prog Tryd.lays197_ren := {
  mixed := by kernel_rfl
  f197 := Tryd.func30.trans (congrArg some (by kernel_rfl))
  f260 := Tryd.func40.trans (congrArg some (by kernel_rfl))
  t0 := Tryd.underlying0
  a0 := Tryd.isAgg0
  z0 := Tryd.sizeOf0
  v0 := Tryd.zeroValue0
  t3 := Tryd.underlying3
  a3 := Tryd.isAgg3
  z3 := Tryd.sizeOf3
  v3 := Tryd.zeroValue3
  t4 := Tryd.underlying4
  a4 := Tryd.isAgg4
  z4 := Tryd.sizeOf4
  v4 := Tryd.zeroValue4
  t5 := Tryd.underlying5
  a5 := Tryd.isAgg5
  z5 := Tryd.sizeOf5
  v5 := Tryd.zeroValue5
  t9 := Tryd.underlying9
  a9 := Tryd.isAgg9
  z9 := Tryd.sizeOf9
  v9 := Tryd.zeroValue9
  t21 := Tryd.underlying21
  a21 := Tryd.isAgg21
  z21 := Tryd.sizeOf21
  v21 := Tryd.zeroValue21
  t46 := Tryd.underlying64
  a46 := Tryd.isAgg64
  z46 := Tryd.sizeOf64
  v46 := Tryd.zeroValue64
  t105 := Tryd.underlying58
  a105 := Tryd.isAgg58
  z105 := Tryd.sizeOf58
  v105 := Tryd.zeroValue58
  t119 := Tryd.underlying45
  a119 := Tryd.isAgg45
  z119 := Tryd.sizeOf45
  t138 := Tryd.underlying80
  a138 := Tryd.isAgg80
  z138 := Tryd.sizeOf80
  v138 := Tryd.zeroValue80
  t139 := Tryd.underlying81
  a139 := Tryd.isAgg81
  z139 := Tryd.sizeOf81
  v139 := Tryd.zeroValue81
  g3 := by kernel_rfl
  g4 := by kernel_rfl }
open Go.RowKit Go.Lib in
theorem Tryd.utf8_DecodeRuneInString_ascii (s : ByteArray) (x : UInt8) (w : World) (h0 : s.data.toList[0]? = some x) (hx : x.toNat < 128) :
    Calls Tryd.prog 30 #[.string s] w fun e w' => e = .returned (.tuple #[.int .i32 x.toNat, .int .i64 1]) ∧ w' = w := Any.utf8_DecodeRuneInString_ascii Tryd.lays197 s x w h0 hx
def Tryd.lays152_ren : Go.Shelf.Ren := ⟨fun | 152 => 23 | 137 => 32 | 119 => 33 | 224 => 34 | 225 => 35 | 217 => 41 | 266 => 43 | n => n, fun | 9 => 9 | 21 => 21 | 3 => 3 | 4 => 4 | 5 => 5 | 0 => 0 | 46 => 64 | n => n, fun | n => n⟩
theorem Tryd.lays152 : Go.Proofs.Lays.n152 Tryd.prog Tryd.lays152_ren := {
  mixed := by kernel_rfl
  f119 := Tryd.func33.trans (congrArg some (by kernel_rfl))
  f137 := Tryd.func32.trans (congrArg some (by kernel_rfl))
  f152 := Tryd.func23.trans (congrArg some (by kernel_rfl))
  f217 := Tryd.func41.trans (congrArg some (by kernel_rfl))
  f224 := Tryd.func34.trans (congrArg some (by kernel_rfl))
  f225 := Tryd.func35.trans (congrArg some (by kernel_rfl))
  f266 := Tryd.func43.trans (congrArg some (by kernel_rfl))
  t0 := Tryd.underlying0
  a0 := Tryd.isAgg0
  z0 := Tryd.sizeOf0
  v0 := Tryd.zeroValue0
  t3 := Tryd.underlying3
  a3 := Tryd.isAgg3
  z3 := Tryd.sizeOf3
  v3 := Tryd.zeroValue3
  t4 := Tryd.underlying4
  a4 := Tryd.isAgg4
  z4 := Tryd.sizeOf4
  v4 := Tryd.zeroValue4
  t5 := Tryd.underlying5
  a5 := Tryd.isAgg5
  z5 := Tryd.sizeOf5
  v5 := Tryd.zeroValue5
  t9 := Tryd.underlying9
  a9 := Tryd.isAgg9
  z9 := Tryd.sizeOf9
  v9 := Tryd.zeroValue9
  t21 := Tryd.underlying21
  a21 := Tryd.isAgg21
  z21 := Tryd.sizeOf21
  v21 := Tryd.zeroValue21
  t46 := Tryd.underlying64
  a46 := Tryd.isAgg64
  z46 := Tryd.sizeOf64
  v46 := Tryd.zeroValue64 }
open Go.RowKit Go.Lib in
theorem Tryd.strings_IndexRune_ascii (s : ByteArray) (r : Int) (w : World) (h0 : 0 ≤ r) (h1 : r < 128) :
    Calls Tryd.prog 23 #[.string s, .int .i32 r] w fun e w' => e = .returned (.int .i64 (Lib.indexByte s.data.toList r.toNat.toUInt8)) ∧ w' = w := Any.strings_IndexRune_ascii Tryd.lays152 s r w h0 h1
def Tryd.lays226_ren : Go.Shelf.Ren := ⟨fun | 226 => 24 | n => n, fun | 3 => 3 | 4 => 4 | n => n, fun | n => n⟩
theorem Tryd.lays226 : Go.Proofs.Lays.n226 Tryd.prog Tryd.lays226_ren := {
  mixed := by kernel_rfl
  f226 := Tryd.func24.trans (congrArg some (by kernel_rfl))
  t3 := Tryd.underlying3
  a3 := Tryd.isAgg3
  z3 := Tryd.sizeOf3
  v3 := Tryd.zeroValue3
  t4 := Tryd.underlying4
  a4 := Tryd.isAgg4
  z4 := Tryd.sizeOf4
  v4 := Tryd.zeroValue4 }
open Go.RowKit Go.Lib in
theorem Tryd.strings_shouldUseASCIISet (n : Int) (w : World) :
    Calls Tryd.prog 24 #[.int .i64 n] w fun e w' => e = .returned (.bool (decide (8 < n))) ∧ w' = w := Any.strings_shouldUseASCIISet Tryd.lays226 n w
def Tryd.lays153_ren : Go.Shelf.Ren := ⟨fun | 153 => 18 | 152 => 23 | 226 => 24 | 227 => 25 | 228 => 26 | 137 => 32 | 119 => 33 | 224 => 34 | 225 => 35 | 217 => 41 | 266 => 43 | n => n, fun | 9 => 9 | 3 => 3 | 4 => 4 | 5 => 5 | 21 => 21 | 117 => 51 | 116 => 50 | 0 => 0 | 46 => 64 | 124 => 65 | n => n, fun | n => n⟩
theorem Tryd.lays153 : Go.Proofs.Lays.n153 Tryd.prog Tryd.lays153_ren := {
  mixed := by kernel_rfl
  f119 := Tryd.func33.trans (congrArg some (by kernel_rfl))
  f137 := Tryd.func32.trans (congrArg some (by kernel_rfl))
  f152 := Tryd.func23.trans (congrArg some (by kernel_rfl))
  f153 := Tryd.func18.trans (congrArg some (by kernel_rfl))
  f217 := Tryd.func41.trans (congrArg some (by kernel_rfl))
  f224 := Tryd.func34.trans (congrArg some (by kernel_rfl))
  f225 := Tryd.func35.trans (congrArg some (by kernel_rfl))
  f226 := Tryd.func24.trans (congrArg some (by kernel_rfl))
  f227 := Tryd.func25.trans (congrArg some (by kernel_rfl))
  f228 := Tryd.func26.trans (congrArg some (by kernel_rfl))
  f266 := Tryd.func43.trans (congrArg some (by kernel_rfl))
  t0 := Tryd.underlying0
  a0 := Tryd.isAgg0
  z0 := Tryd.sizeOf0
  v0 := Tryd.zeroValue0
  t3 := Tryd.underlying3
  a3 := Tryd.isAgg3
  z3 := Tryd.sizeOf3
  v3 := Tryd.zeroValue3
  t4 := Tryd.underlying4
  a4 := Tryd.isAgg4
  z4 := Tryd.sizeOf4
  v4 := Tryd.zeroValue4
  t5 := Tryd.underlying5
  a5 := Tryd.isAgg5
  z5 := Tryd.sizeOf5
  v5 := Tryd.zeroValue5
  t9 := Tryd.underlying9
  a9 := Tryd.isAgg9
  z9 := Tryd.sizeOf9
  v9 := Tryd.zeroValue9
  t21 := Tryd.underlying21
  a21 := Tryd.isAgg21
  z21 := Tryd.sizeOf21
  v21 := Tryd.zeroValue21
  t46 := Tryd.underlying64
  a46 := Tryd.isAgg64
  z46 := Tryd.sizeOf64
  v46 := Tryd.zeroValue64
  t116 := Tryd.underlying50
  a116 := Tryd.isAgg50
  z116 := Tryd.sizeOf50
  t117 := Tryd.underlying51
  a117 := Tryd.isAgg51
  z117 := Tryd.sizeOf51
  v117 := Tryd.zeroValue51
  t124 := Tryd.underlying65
  a124 := Tryd.isAgg65
  z124 := Tryd.sizeOf65
  v124 := Tryd.zeroValue65 }
open Go.RowKit Go.Lib in
theorem Tryd.strings_IndexAny_none (s chars : ByteArray) (w : World) (h0 : chars.size = 0) :
    Calls Tryd.prog 18 #[.string s, .string chars] w fun e w' => e = .returned (.int .i64 (Lib.indexAny s.data.toList chars.data.toList)) ∧ w' = w := Any.strings_IndexAny_none Tryd.lays153 s chars w h0
open Go.RowKit Go.Lib in
theorem Tryd.strings_IndexAny_one (s chars : ByteArray) (w : World) (h1 : chars.size = 1) (hascii : ∀ (j : Nat) b, chars.data.toList[j]? = some b → b.toNat < 128) :
    Calls Tryd.prog 18 #[.string s, .string chars] w fun e w' => e = .returned (.int .i64 (Lib.indexAny s.data.toList chars.data.toList)) ∧ w' = w := Any.strings_IndexAny_one Tryd.lays153 s chars w h1 hascii
open Go.RowKit Go.Lib in
theorem Tryd.strings_IndexAny_short (s chars : ByteArray) (w : World) (h2 : 2 ≤ chars.size) (h8 : s.size ≤ 8) (hascii : ∀ (j : Nat) b, s.data.toList[j]? = some b → b.toNat < 128) :
    Calls Tryd.prog 18 #[.string s, .string chars] w fun e w' => e = .returned (.int .i64 (Lib.indexAny s.data.toList chars.data.toList)) ∧ ∃ pos, w' = w.iter s pos := Any.strings_IndexAny_short Tryd.lays153 s chars w h2 h8 hascii
def Tryd.lays227_ren : Go.Shelf.Ren := ⟨fun | 227 => 25 | n => n, fun | 9 => 9 | 116 => 50 | 4 => 4 | 0 => 0 | 3 => 3 | 5 => 5 | n => n, fun | n => n⟩
theorem Tryd.lays227 : Go.Proofs.Lays.n227 Tryd.prog Tryd.lays227_ren := {
  mixed := by kernel_rfl
  f227 := Tryd.func25.trans (congrArg some (by kernel_rfl))
  t0 := Tryd.underlying0
  a0 := Tryd.isAgg0
  z0 := Tryd.sizeOf0
  v0 := Tryd.zeroValue0
  t3 := Tryd.underlying3
  a3 := Tryd.isAgg3
  z3 := Tryd.sizeOf3
  v3 := Tryd.zeroValue3
  t4 := Tryd.underlying4
  a4 := Tryd.isAgg4
  z4 := Tryd.sizeOf4
  v4 := Tryd.zeroValue4
  t5 := Tryd.underlying5
  a5 := Tryd.isAgg5
  z5 := Tryd.sizeOf5
  v5 := Tryd.zeroValue5
  t9 := Tryd.underlying9
  a9 := Tryd.isAgg9
  z9 := Tryd.sizeOf9
  v9 := Tryd.zeroValue9
  t116 := Tryd.underlying50
  a116 := Tryd.isAgg50
  z116 := Tryd.sizeOf50 }
open Go.RowKit Go.Lib in
theorem Tryd.strings_makeASCIISet (hv116 : ∀ w, (zeroValue 50).run Tryd.prog w = .ok (.agg (Array.replicate 256 (.bool false))) w) (chars : ByteArray) (w : World) (hs : chars.size < 4294967281) (hascii : ∀ (j : Nat) b, chars.data.toList[j]? = some b → b.toNat < 128) :
    Calls Tryd.prog 25 #[.string chars] w fun e w' => e = .returned (.tuple #[.agg (Lib.setCells chars.data.toList), .bool true]) ∧ w' = w.alloc (.cells (Lib.setCells chars.data.toList) 50) := Any.strings_makeASCIISet Tryd.lays227 hv116 (by kernel_rfl) chars w hs hascii
def Tryd.lays228_ren : Go.Shelf.Ren := ⟨fun | 228 => 26 | n => n, fun | 124 => 65 | 5 => 5 | 4 => 4 | 0 => 0 | 116 => 50 | n => n, fun | n => n⟩
theorem Tryd.lays228 : Go.Proofs.Lays.n228 Tryd.prog Tryd.lays228_ren := {
  mixed := by kernel_rfl
  f228 := Tryd.func26.trans (congrArg some (by kernel_rfl))
  t0 := Tryd.underlying0
  a0 := Tryd.isAgg0
  z0 := Tryd.sizeOf0
  v0 := Tryd.zeroValue0
  t4 := Tryd.underlying4
  a4 := Tryd.isAgg4
  z4 := Tryd.sizeOf4
  v4 := Tryd.zeroValue4
  t5 := Tryd.underlying5
  a5 := Tryd.isAgg5
  z5 := Tryd.sizeOf5
  v5 := Tryd.zeroValue5
  t116 := Tryd.underlying50
  a116 := Tryd.isAgg50
  z116 := Tryd.sizeOf50
  t124 := Tryd.underlying65
  a124 := Tryd.isAgg65
  z124 := Tryd.sizeOf65
  v124 := Tryd.zeroValue65 }
open Go.RowKit Go.Lib in
theorem Tryd.asciiSet_contains (b : Nat) (x : UInt8) (v : Bool) (w : World) (hc : w.cell? ⟨b, x.toNat, none⟩ = some (.bool v)) :
    Calls Tryd.prog 26 #[.pointer (some ⟨b, 0, none⟩), .int .u8 x.toNat] w fun e w' => e = .returned (.bool v) ∧ w' = w := Any.asciiSet_contains Tryd.lays228 b x v w hc
open Go.RowKit Go.Lib in
theorem Tryd.strings_IndexAny_long (hv116 : ∀ w, (zeroValue 50).run Tryd.prog w = .ok (.agg (Array.replicate 256 (.bool false))) w) (s chars : ByteArray) (w : World) (h2 : 2 ≤ chars.size) (h8 : 8 < s.size) (hs : s.size < 4294967281) (hcs : chars.size < 4294967281) (hascii : ∀ (j : Nat) b, chars.data.toList[j]? = some b → b.toNat < 128) :
    Calls Tryd.prog 18 #[.string s, .string chars] w fun e w' => e = .returned (.int .i64 (Lib.indexAny s.data.toList chars.data.toList)) ∧ w' = ((w.alloc (.cells (Lib.setCells chars.data.toList) 50)).alloc (.cells (Lib.setCells chars.data.toList) 50)) := Any.strings_IndexAny_long Tryd.lays153 hv116 (by kernel_rfl) s chars w h2 h8 hs hcs hascii
open Go.RowKit Go.Lib in
theorem Tryd.strings_IndexAny (hv116 : ∀ w, (zeroValue 50).run Tryd.prog w = .ok (.agg (Array.replicate 256 (.bool false))) w) (s chars : ByteArray) (w : World) (hs : s.size < 4294967281) (hcs : chars.size < 4294967281) (has : ∀ (j : Nat) b, s.data.toList[j]? = some b → b.toNat < 128) (hac : ∀ (j : Nat) b, chars.data.toList[j]? = some b → b.toNat < 128) :
    Calls Tryd.prog 18 #[.string s, .string chars] w fun e w' => e = .returned (.int .i64 (Lib.indexAny s.data.toList chars.data.toList)) ∧ Below w.heap.size w w' := Any.strings_IndexAny Tryd.lays153 hv116 (by kernel_rfl) s chars w hs hcs has hac
open Go.RowKit Go.Lib in
theorem Tryd.strings_IndexAny_laid (s chars : ByteArray) (w : World) (hs : s.size < 4294967281) (hcs : chars.size < 4294967281) (has : ∀ (j : Nat) b, s.data.toList[j]? = some b → b.toNat < 128) (hac : ∀ (j : Nat) b, chars.data.toList[j]? = some b → b.toNat < 128) :
    Calls Tryd.prog 18 #[.string s, .string chars] w fun e w' => e = .returned (.int .i64 (Lib.indexAny s.data.toList chars.data.toList)) ∧ Below w.heap.size w w' := Any.strings_IndexAny_laid Tryd.lays153 (by kernel_rfl) s chars w hs hcs has hac
def Tryd.lays260_ren : Go.Shelf.Ren := ⟨fun | 260 => 40 | n => n, fun | 9 => 9 | 21 => 21 | 3 => 3 | 4 => 4 | 5 => 5 | 119 => 45 | 0 => 0 | 46 => 64 | 139 => 81 | 138 => 80 | n => n, fun | 3 => 3 | 4 => 4 | n => n⟩
theorem Tryd.lays260 : Go.Proofs.Lays.n260 Tryd.prog Tryd.lays260_ren := {
  mixed := by kernel_rfl
  f260 := Tryd.func40.trans (congrArg some (by kernel_rfl))
  t0 := Tryd.underlying0
  a0 := Tryd.isAgg0
  z0 := Tryd.sizeOf0
  v0 := Tryd.zeroValue0
  t3 := Tryd.underlying3
  a3 := Tryd.isAgg3
  z3 := Tryd.sizeOf3
  v3 := Tryd.zeroValue3
  t4 := Tryd.underlying4
  a4 := Tryd.isAgg4
  z4 := Tryd.sizeOf4
  v4 := Tryd.zeroValue4
  t5 := Tryd.underlying5
  a5 := Tryd.isAgg5
  z5 := Tryd.sizeOf5
  v5 := Tryd.zeroValue5
  t9 := Tryd.underlying9
  a9 := Tryd.isAgg9
  z9 := Tryd.sizeOf9
  v9 := Tryd.zeroValue9
  t21 := Tryd.underlying21
  a21 := Tryd.isAgg21
  z21 := Tryd.sizeOf21
  v21 := Tryd.zeroValue21
  t46 := Tryd.underlying64
  a46 := Tryd.isAgg64
  z46 := Tryd.sizeOf64
  v46 := Tryd.zeroValue64
  t119 := Tryd.underlying45
  a119 := Tryd.isAgg45
  z119 := Tryd.sizeOf45
  t138 := Tryd.underlying80
  a138 := Tryd.isAgg80
  z138 := Tryd.sizeOf80
  v138 := Tryd.zeroValue80
  t139 := Tryd.underlying81
  a139 := Tryd.isAgg81
  z139 := Tryd.sizeOf81
  v139 := Tryd.zeroValue81
  g3 := by kernel_rfl
  g4 := by kernel_rfl }
open Go.RowKit Go.Lib in
theorem Tryd.utf8_decodeRuneInStringSlow (s : ByteArray) (w : World) (hT : Lib.Utf8Tabs 3 4 w) :
    Calls Tryd.prog 40 #[.string s] w fun e w' => e = .returned (.tuple #[.int .i32 (Lib.decodeGo s).1, .int .i64 (Lib.decodeGo s).2]) ∧ Below w.heap.size w w' := Any.utf8_decodeRuneInStringSlow Tryd.lays260 s w hT
open Go.RowKit Go.Lib in
theorem Tryd.utf8_DecodeRuneInString (s : ByteArray) (w : World) (hT : Lib.Utf8Tabs 3 4 w) :
    Calls Tryd.prog 30 #[.string s] w fun e w' => e = .returned (.tuple #[.int .i32 (Lib.decodeGo s).1, .int .i64 (Lib.decodeGo s).2]) ∧ Below w.heap.size w w' := Any.utf8_DecodeRuneInString Tryd.lays197 s w hT
def Tryd.lays311_ren : Go.Shelf.Ren := ⟨fun | 311 => 37 | n => n, fun | 193 => 66 | 49 => 70 | 4 => 4 | 3 => 3 | 0 => 0 | 226 => 77 | 198 => 72 | 46 => 64 | n => n, fun | n => n⟩
theorem Tryd.lays311 : Go.Proofs.Lays.n311 Tryd.prog Tryd.lays311_ren := {
  mixed := by kernel_rfl
  f311 := Tryd.func37.trans (congrArg some (by kernel_rfl))
  t0 := Tryd.underlying0
  a0 := Tryd.isAgg0
  z0 := Tryd.sizeOf0
  v0 := Tryd.zeroValue0
  t3 := Tryd.underlying3
  a3 := Tryd.isAgg3
  z3 := Tryd.sizeOf3
  v3 := Tryd.zeroValue3
  t4 := Tryd.underlying4
  a4 := Tryd.isAgg4
  z4 := Tryd.sizeOf4
  v4 := Tryd.zeroValue4
  t46 := Tryd.underlying64
  a46 := Tryd.isAgg64
  z46 := Tryd.sizeOf64
  v46 := Tryd.zeroValue64
  t49 := Tryd.underlying70
  a49 := Tryd.isAgg70
  z49 := Tryd.sizeOf70
  v49 := Tryd.zeroValue70
  t193 := Tryd.underlying66
  a193 := Tryd.isAgg66
  z193 := Tryd.sizeOf66
  v193 := Tryd.zeroValue66
  t198 := Tryd.underlying72
  a198 := Tryd.isAgg72
  z198 := Tryd.sizeOf72
  v198 := Tryd.zeroValue72
  t226 := Tryd.underlying77
  a226 := Tryd.isAgg77
  z226 := Tryd.sizeOf77
  v226 := Tryd.zeroValue77 }
open Go.RowKit Go.Lib in
theorem Tryd.unicode_is16_white (R oR : Nat) (z : Nat) (w : World) (hz : z < 65536) (hz0 : 255 < z) (c6 : w.cell? ⟨R, oR + 6, none⟩ = some (.int .u16 160)) (c7 : w.cell? ⟨R, oR + 7, none⟩ = some (.int .u16 5760)) (c8 : w.cell? ⟨R, oR + 8, none⟩ = some (.int .u16 5600)) (c9 : w.cell? ⟨R, oR + 9, none⟩ = some (.int .u16 8192)) (c10 : w.cell? ⟨R, oR + 10, none⟩ = some (.int .u16 8202)) (c11 : w.cell? ⟨R, oR + 11, none⟩ = some (.int .u16 1)) (c12 : w.cell? ⟨R, oR + 12, none⟩ = some (.int .u16 8232)) (c13 : w.cell? ⟨R, oR + 13, none⟩ = some (.int .u16 8233)) (c14 : w.cell? ⟨R, oR + 14, none⟩ = some (.int .u16 1)) (c15 : w.cell? ⟨R, oR + 15, none⟩ = some (.int .u16 8239)) (c16 : w.cell? ⟨R, oR + 16, none⟩ = some (.int .u16 8287)) (c17 : w.cell? ⟨R, oR + 17, none⟩ = some (.int .u16 48)) (c18 : w.cell? ⟨R, oR + 18, none⟩ = some (.int .u16 12288)) (c19 : w.cell? ⟨R, oR + 19, none⟩ = some (.int .u16 12288)) (c20 : w.cell? ⟨R, oR + 20, none⟩ = some (.int .u16 1)) :
    Calls Tryd.prog 37 #[.slice (some ⟨R, oR + 6, none⟩) 5 5, .int .u16 z] w fun e w' => e = .returned (.bool (Lib.isSpaceR z)) ∧ Below w.heap.size w w' := Any.unicode_is16_white Tryd.lays311 R oR z w hz hz0 c6 c7 c8 c9 c10 c11 c12 c13 c14 c15 c16 c17 c18 c19 c20
def Tryd.lays261_ren : Go.Shelf.Ren := ⟨fun | 261 => 28 | 311 => 37 | 312 => 38 | n => n, fun | 141 => 56 | 21 => 21 | 4 => 4 | 0 => 0 | 196 => 69 | 193 => 66 | 3 => 3 | 51 => 54 | 198 => 72 | 49 => 70 | 194 => 67 | 201 => 75 | 226 => 77 | 46 => 64 | 227 => 78 | n => n, fun | n => n⟩
theorem Tryd.lays261 : Go.Proofs.Lays.n261 Tryd.prog Tryd.lays261_ren := {
  mixed := by kernel_rfl
  f261 := Tryd.func28.trans (congrArg some (by kernel_rfl))
  f311 := Tryd.func37.trans (congrArg some (by kernel_rfl))
  f312 := Tryd.func38.trans (congrArg some (by kernel_rfl))
  t0 := Tryd.underlying0
  a0 := Tryd.isAgg0
  z0 := Tryd.sizeOf0
  v0 := Tryd.zeroValue0
  t3 := Tryd.underlying3
  a3 := Tryd.isAgg3
  z3 := Tryd.sizeOf3
  v3 := Tryd.zeroValue3
  t4 := Tryd.underlying4
  a4 := Tryd.isAgg4
  z4 := Tryd.sizeOf4
  v4 := Tryd.zeroValue4
  t21 := Tryd.underlying21
  a21 := Tryd.isAgg21
  z21 := Tryd.sizeOf21
  v21 := Tryd.zeroValue21
  t46 := Tryd.underlying64
  a46 := Tryd.isAgg64
  z46 := Tryd.sizeOf64
  v46 := Tryd.zeroValue64
  t49 := Tryd.underlying70
  a49 := Tryd.isAgg70
  z49 := Tryd.sizeOf70
  v49 := Tryd.zeroValue70
  t51 := Tryd.underlying54
  a51 := Tryd.isAgg54
  z51 := Tryd.sizeOf54
  v51 := Tryd.zeroValue54
  t141 := Tryd.underlying56
  a141 := Tryd.isAgg56
  z141 := Tryd.sizeOf56
  v141 := Tryd.zeroValue56
  t193 := Tryd.underlying66
  a193 := Tryd.isAgg66
  z193 := Tryd.sizeOf66
  v193 := Tryd.zeroValue66
  t194 := Tryd.underlying67
  a194 := Tryd.isAgg67
  z194 := Tryd.sizeOf67
  v194 := Tryd.zeroValue67
  t196 := Tryd.underlying69
  a196 := Tryd.isAgg69
  z196 := Tryd.sizeOf69
  v196 := Tryd.zeroValue69
  t198 := Tryd.underlying72
  a198 := Tryd.isAgg72
  z198 := Tryd.sizeOf72
  v198 := Tryd.zeroValue72
  t201 := Tryd.underlying75
  a201 := Tryd.isAgg75
  z201 := Tryd.sizeOf75
  v201 := Tryd.zeroValue75
  t226 := Tryd.underlying77
  a226 := Tryd.isAgg77
  z226 := Tryd.sizeOf77
  v226 := Tryd.zeroValue77
  t227 := Tryd.underlying78
  a227 := Tryd.isAgg78
  z227 := Tryd.sizeOf78
  v227 := Tryd.zeroValue78 }
open Go.RowKit Go.Lib in
theorem Tryd.unicode_isExcludingLatin_white (T oT R oR : Nat) (r : Int) (w : World) (hlo : -2147483648 ≤ r) (hhi : r ≤ 2147483647) (hr : r < 0 ∨ 255 < r) (h2 : w.cell? ⟨T, oT, none⟩ = some (.slice (some ⟨R, oR, none⟩) 7 7)) (h3 : w.cell? ⟨T, oT + 1, none⟩ = some (.slice none 0 0)) (h4 : w.cell? ⟨T, oT + 2, none⟩ = some (.int .i64 2)) (h5 : ∀ i, i < 21 → w.cell? ⟨R, oR + i, none⟩ = some (.int .u16 (whiteT.getD i 0))) :
    Calls Tryd.prog 28 #[.pointer (some ⟨T, oT, none⟩), .int .i32 r] w fun e w' => e = .returned (.bool (Lib.isSpaceZ r)) ∧ Below w.heap.size w w' := Any.unicode_isExcludingLatin_white Tryd.lays261 T oT R oR r w hlo hhi hr h2 h3 h4 h5
open Go.RowKit Go.Lib in
theorem Tryd.unicode_IsSpace_any (r : Int) (w : World) (hlo : -2147483648 ≤ r) (hhi : r ≤ 2147483647) (hW : Lib.WhiteTab 1 w) :
    Calls Tryd.prog 20 #[.int .i32 r] w fun e w' => e = .returned (.bool (Lib.isSpaceZ r)) ∧ Below w.heap.size w w' := Any.unicode_IsSpace_any Tryd.lays199 r w hlo hhi hW
def Tryd.lays271_ren : Go.Shelf.Ren := ⟨fun | 271 => 39 | 120 => 42 | 197 => 30 | 260 => 40 | n => n, fun | 9 => 9 | 21 => 21 | 3 => 3 | 4 => 4 | 5 => 5 | 105 => 58 | 119 => 45 | 0 => 0 | 46 => 64 | 139 => 81 | 138 => 80 | n => n, fun | 3 => 3 | 4 => 4 | n => n⟩
theorem Tryd.lays271 : Go.Proofs.Lays.n271 Tryd.prog Tryd.lays271_ren := {
  mixed := by kernel_rfl
  f120 := Tryd.func42.trans (congrArg some (by kernel_rfl))
  f197 := Tryd.func30.trans (congrArg some (by kernel_rfl))
  f260 := Tryd.func40.trans (congrArg some (by kernel_rfl))
  f271 := Tryd.func39.trans (congrArg some (by kernel_rfl))
  t0 := Tryd.underlying0
  a0 := Tryd.isAgg0
  z0 := Tryd.sizeOf0
  v0 := Tryd.zeroValue0
  t3 := Tryd.underlying3
  a3 := Tryd.isAgg3
  z3 := Tryd.sizeOf3
  v3 := Tryd.zeroValue3
  t4 := Tryd.underlying4
  a4 := Tryd.isAgg4
  z4 := Tryd.sizeOf4
  v4 := Tryd.zeroValue4
  t5 := Tryd.underlying5
  a5 := Tryd.isAgg5
  z5 := Tryd.sizeOf5
  v5 := Tryd.zeroValue5
  t9 := Tryd.underlying9
  a9 := Tryd.isAgg9
  z9 := Tryd.sizeOf9
  v9 := Tryd.zeroValue9
  t21 := Tryd.underlying21
  a21 := Tryd.isAgg21
  z21 := Tryd.sizeOf21
  v21 := Tryd.zeroValue21
  t46 := Tryd.underlying64
  a46 := Tryd.isAgg64
  z46 := Tryd.sizeOf64
  v46 := Tryd.zeroValue64
  t105 := Tryd.underlying58
  a105 := Tryd.isAgg58
  z105 := Tryd.sizeOf58
  v105 := Tryd.zeroValue58
  t119 := Tryd.underlying45
  a119 := Tryd.isAgg45
  z119 := Tryd.sizeOf45
  t138 := Tryd.underlying80
  a138 := Tryd.isAgg80
  z138 := Tryd.sizeOf80
  v138 := Tryd.zeroValue80
  t139 := Tryd.underlying81
  a139 := Tryd.isAgg81
  z139 := Tryd.sizeOf81
  v139 := Tryd.zeroValue81
  g3 := by kernel_rfl
  g4 := by kernel_rfl }
open Go.RowKit Go.Lib in
theorem Tryd.utf8_DecodeLastRuneInString (s : ByteArray) (w : World) (hs : s.size ≤ 9223372036854775807) (hT : Lib.Utf8Tabs 3 4 w) :
    Calls Tryd.prog 39 #[.string s] w fun e w' => e = .returned (.tuple #[.int .i32 (Lib.decodeLastL s.data.toList).1, .int .i64 (Lib.decodeLastL s.data.toList).2]) ∧ Below w.heap.size w w' := Any.utf8_DecodeLastRuneInString Tryd.lays271 s w hs hT
open Go.RowKit in
theorem Tryd.strings_TrimSpace_any (s : ByteArray) (w : World) (hs : s.size ≤ 9223372036854775807) (htab : Lib.TabIs Tryd.prog w "strings.asciiSpace" .u8 Lib.asciiSpaceTab) (hU8 : Lib.Utf8Tabs 3 4 w) (hWS : Lib.WhiteTab 1 w) :
    Calls Tryd.prog 15 #[.string s] w fun e w' => e = .returned (.string ⟨(Lib.trimSpaceD s.data.toList).toArray⟩) ∧ Below w.heap.size w w' := Any.strings_TrimSpace_any Tryd.lays163 Tryd.Space_Extra_163 s w hs htab hU8 hWS
open Go.RowKit Go.Lib in
theorem Tryd.unicode_is16_any (T : Array Rg) (R oR cap : Nat) (z : Nat) (w : World) (hz : z < 65536) (hT : RgTab .u16 R oR T w) (hok : RgOk 65536 T) (hn : T.size ≤ 1000000000) :
    Calls Tryd.prog 37 #[.slice (some ⟨R, oR, none⟩) T.size cap, .int .u16 z] w fun e w' => e = .returned (.bool (is16Go T z)) ∧ ∃ q, w' = w.drewN q := Any.unicode_is16_any Tryd.lays311 T R oR cap z w hz hT hok hn
def Tryd.lays312_ren : Go.Shelf.Ren := ⟨fun | 312 => 38 | n => n, fun | 194 => 67 | 51 => 54 | 4 => 4 | 3 => 3 | 0 => 0 | 227 => 78 | 201 => 75 | 46 => 64 | n => n, fun | n => n⟩
theorem Tryd.lays312 : Go.Proofs.Lays.n312 Tryd.prog Tryd.lays312_ren := {
  mixed := by kernel_rfl
  f312 := Tryd.func38.trans (congrArg some (by kernel_rfl))
  t0 := Tryd.underlying0
  a0 := Tryd.isAgg0
  z0 := Tryd.sizeOf0
  v0 := Tryd.zeroValue0
  t3 := Tryd.underlying3
  a3 := Tryd.isAgg3
  z3 := Tryd.sizeOf3
  v3 := Tryd.zeroValue3
  t4 := Tryd.underlying4
  a4 := Tryd.isAgg4
  z4 := Tryd.sizeOf4
  v4 := Tryd.zeroValue4
  t46 := Tryd.underlying64
  a46 := Tryd.isAgg64
  z46 := Tryd.sizeOf64
  v46 := Tryd.zeroValue64
  t51 := Tryd.underlying54
  a51 := Tryd.isAgg54
  z51 := Tryd.sizeOf54
  v51 := Tryd.zeroValue54
  t194 := Tryd.underlying67
  a194 := Tryd.isAgg67
  z194 := Tryd.sizeOf67
  v194 := Tryd.zeroValue67
  t201 := Tryd.underlying75
  a201 := Tryd.isAgg75
  z201 := Tryd.sizeOf75
  v201 := Tryd.zeroValue75
  t227 := Tryd.underlying78
  a227 := Tryd.isAgg78
  z227 := Tryd.sizeOf78
  v227 := Tryd.zeroValue78 }
open Go.RowKit Go.Lib in
theorem Tryd.unicode_is32_any (T : Array Rg) (R oR cap : Nat) (z : Nat) (w : World) (hz : z < 4294967296) (hT : RgTab .u32 R oR T w) (hok : RgOk 4294967296 T) (hn : T.size ≤ 1000000000) :
    Calls Tryd.prog 38 #[.slice (some ⟨R, oR, none⟩) T.size cap, .int .u32 z] w fun e w' => e = .returned (.bool (is32Go T z)) ∧ Below w.heap.size w w' := Any.unicode_is32_any Tryd.lays312 T R oR cap z w hz hT hok hn
open Go.RowKit Go.Lib in
theorem Tryd.unicode_isExcludingLatin_any (Tb oT : Nat) (T : RTab) (r : Int) (w : World) (hlo : -2147483648 ≤ r) (hhi : r ≤ 2147483647) (hA : RTabAt Tb oT T w) (hok : RTabOk T) :
    Calls Tryd.prog 28 #[.pointer (some ⟨Tb, oT, none⟩), .int .i32 r] w fun e w' => e = .returned (.bool (exclGo T r)) ∧ Below w.heap.size w w' := Any.unicode_isExcludingLatin_any Tryd.lays261 Tb oT T r w hlo hhi hA hok
end Go.Proofs
