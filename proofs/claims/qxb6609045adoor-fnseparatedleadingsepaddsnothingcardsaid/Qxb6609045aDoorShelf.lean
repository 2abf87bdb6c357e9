import Derived.Shelf.Strings.TrimSpace
import Derived.Shelf.Small.Utf8
import Derived.Shelf.Utf8.RuneCount
import Derived.Shelf.Strings.Search1
import Derived.Shelf.Strings.Search2
import Derived.Shelf.Strings.Search3
import Derived.Shelf.Strings.Count
import Derived.Shelf.LaysM
import Derived.Shelf.Strings.Shaped
import Derived.Shelf.Strings.Split
import Derived.Shelf.Strings.SplitShaped
import Derived.Shelf.Unicode.Latin
import Derived.Shelf.Unicode.DecodeSlow
import Derived.Shelf.Unicode.DecodeAny
import Derived.Shelf.Unicode.Is16White
import Derived.Shelf.Unicode.IsSpaceAny
import Derived.Shelf.Unicode.DecodeLast
import Derived.Shelf.Strings.TrimSpaceAny
import Derived.Shelf.Unicode.Is16Any
import Derived.Shelf.Unicode.Is32Any
import Derived.Shelf.Unicode.ExclAny
import Derived.Test.Qxb6609045aDoorProg
namespace Go.Proofs
open Go.Shelf
def Tryd.lays163_ren : Go.Shelf.Ren := ⟨fun | 163 => 24 | 237 => 26 | 199 => 27 | 238 => 28 | 272 => 32 | 261 => 33 | 273 => 34 | 197 => 35 | 315 => 39 | 311 => 40 | 312 => 41 | 271 => 42 | 260 => 43 | 120 => 48 | n => n, fun | 9 => 9 | 37 => 29 | 3 => 3 | 0 => 0 | 5 => 5 | 4 => 4 | 40 => 35 | 119 => 36 | 21 => 21 | 51 => 39 | 141 => 41 | 105 => 43 | 196 => 50 | 193 => 47 | 198 => 53 | 49 => 51 | 194 => 48 | 201 => 56 | 226 => 60 | 46 => 59 | 227 => 61 | 139 => 65 | 138 => 64 | n => n, fun | 0 => 0 | 6 => 1 | 3 => 3 | 4 => 4 | n => n⟩
theorem Tryd.lays163 : Go.Proofs.Lays.n163 Tryd.prog Tryd.lays163_ren := {
  mixed := by kernel_rfl
  f120 := Tryd.func48.trans (congrArg some (by kernel_rfl))
  f163 := Tryd.func24.trans (congrArg some (by kernel_rfl))
  f197 := Tryd.func35.trans (congrArg some (by kernel_rfl))
  f199 := Tryd.func27.trans (congrArg some (by kernel_rfl))
  f237 := Tryd.func26.trans (congrArg some (by kernel_rfl))
  f238 := Tryd.func28.trans (congrArg some (by kernel_rfl))
  f260 := Tryd.func43.trans (congrArg some (by kernel_rfl))
  f261 := Tryd.func33.trans (congrArg some (by kernel_rfl))
  f271 := Tryd.func42.trans (congrArg some (by kernel_rfl))
  f272 := Tryd.func32.trans (congrArg some (by kernel_rfl))
  f273 := Tryd.func34.trans (congrArg some (by kernel_rfl))
  f311 := Tryd.func40.trans (congrArg some (by kernel_rfl))
  f312 := Tryd.func41.trans (congrArg some (by kernel_rfl))
  f315 := Tryd.func39.trans (congrArg some (by kernel_rfl))
  t0 := Tryd.underlying0
  a0 := Tryd.isAgg0
  z0 := Tryd.sizeOf0
  v0 := Tryd.zeroValue0
  t3 := Tryd.underlying3
  a3 := Tryd.isAgg3
  z3 := Tryd.sizeOf3
  v3 := Tryd.zeroValue3
  t4 := Tryd.underlying4
  a4 := Tryd.isAgg4
  z4 := Tryd.sizeOf4
  v4 := Tryd.zeroValue4
  t5 := Tryd.underlying5
  a5 := Tryd.isAgg5
  z5 := Tryd.sizeOf5
  v5 := Tryd.zeroValue5
  t9 := Tryd.underlying9
  a9 := Tryd.isAgg9
  z9 := Tryd.sizeOf9
  v9 := Tryd.zeroValue9
  t21 := Tryd.underlying21
  a21 := Tryd.isAgg21
  z21 := Tryd.sizeOf21
  v21 := Tryd.zeroValue21
  t37 := Tryd.underlying29
  a37 := Tryd.isAgg29
  z37 := Tryd.sizeOf29
  v37 := Tryd.zeroValue29
  t40 := Tryd.underlying35
  a40 := Tryd.isAgg35
  z40 := Tryd.sizeOf35
  v40 := Tryd.zeroValue35
  t46 := Tryd.underlying59
  a46 := Tryd.isAgg59
  z46 := Tryd.sizeOf59
  v46 := Tryd.zeroValue59
  t49 := Tryd.underlying51
  a49 := Tryd.isAgg51
  z49 := Tryd.sizeOf51
  v49 := Tryd.zeroValue51
  t51 := Tryd.underlying39
  a51 := Tryd.isAgg39
  z51 := Tryd.sizeOf39
  v51 := Tryd.zeroValue39
  t105 := Tryd.underlying43
  a105 := Tryd.isAgg43
  z105 := Tryd.sizeOf43
  v105 := Tryd.zeroValue43
  t119 := Tryd.underlying36
  a119 := Tryd.isAgg36
  z119 := Tryd.sizeOf36
  t138 := Tryd.underlying64
  a138 := Tryd.isAgg64
  z138 := Tryd.sizeOf64
  v138 := Tryd.zeroValue64
  t139 := Tryd.underlying65
  a139 := Tryd.isAgg65
  z139 := Tryd.sizeOf65
  v139 := Tryd.zeroValue65
  t141 := Tryd.underlying41
  a141 := Tryd.isAgg41
  z141 := Tryd.sizeOf41
  v141 := Tryd.zeroValue41
  t193 := Tryd.underlying47
  a193 := Tryd.isAgg47
  z193 := Tryd.sizeOf47
  v193 := Tryd.zeroValue47
  t194 := Tryd.underlying48
  a194 := Tryd.isAgg48
  z194 := Tryd.sizeOf48
  v194 := Tryd.zeroValue48
  t196 := Tryd.underlying50
  a196 := Tryd.isAgg50
  z196 := Tryd.sizeOf50
  v196 := Tryd.zeroValue50
  t198 := Tryd.underlying53
  a198 := Tryd.isAgg53
  z198 := Tryd.sizeOf53
  v198 := Tryd.zeroValue53
  t201 := Tryd.underlying56
  a201 := Tryd.isAgg56
  z201 := Tryd.sizeOf56
  v201 := Tryd.zeroValue56
  t226 := Tryd.underlying60
  a226 := Tryd.isAgg60
  z226 := Tryd.sizeOf60
  v226 := Tryd.zeroValue60
  t227 := Tryd.underlying61
  a227 := Tryd.isAgg61
  z227 := Tryd.sizeOf61
  v227 := Tryd.zeroValue61
  g0 := by kernel_rfl
  g3 := by kernel_rfl
  g4 := by kernel_rfl
  g6 := by kernel_rfl }
theorem Tryd.Space_Extra_163 : Space.Extra Tryd.prog Tryd.lays163_ren := {
  gNamed := by kernel_rfl }
open Go.RowKit in
theorem Tryd.strings_TrimSpace (s : ByteArray) (w : World) (hs : s.size ≤ 9223372036854775807) (hascii : ∀ (j : Nat) b, s.data.toList[j]? = some b → b.toNat < 128) (htab : Lib.TabIs Tryd.prog w "strings.asciiSpace" .u8 Lib.asciiSpaceTab) :
    Calls Tryd.prog 24 #[.string s] w fun e w' => e = .returned (.string ⟨(Lib.trimSpace s.data.toList).toArray⟩) ∧ w' = Lib.bytesWorld w 5 s := Any.strings_TrimSpace Tryd.lays163 Tryd.Space_Extra_163 s w hs hascii htab
def Tryd.lays120_ren : Go.Shelf.Ren := ⟨fun | 120 => 48 | n => n, fun | 5 => 5 | 4 => 4 | n => n, fun | n => n⟩
theorem Tryd.lays120 : Go.Proofs.Lays.n120 Tryd.prog Tryd.lays120_ren := {
  mixed := by kernel_rfl
  f120 := Tryd.func48.trans (congrArg some (by kernel_rfl))
  t4 := Tryd.underlying4
  a4 := Tryd.isAgg4
  z4 := Tryd.sizeOf4
  v4 := Tryd.zeroValue4
  t5 := Tryd.underlying5
  a5 := Tryd.isAgg5
  z5 := Tryd.sizeOf5
  v5 := Tryd.zeroValue5 }
theorem Tryd.utf8_RuneStart (b : Int) (w : World) (h0 : 0 ≤ b) (h1 : b < 256) :
    Calls Tryd.prog 48 #[.int .u8 b] w fun e w' => e = .returned (.bool (Lib.runeStart b)) ∧ w' = w := Any.utf8_RuneStart Tryd.lays120 b w h0 h1
def Tryd.lays195_ren : Go.Shelf.Ren := ⟨fun | 195 => 36 | n => n, fun | 9 => 9 | 3 => 3 | 0 => 0 | 4 => 4 | n => n, fun | n => n⟩
theorem Tryd.lays195 : Go.Proofs.Lays.n195 Tryd.prog Tryd.lays195_ren := {
  mixed := by kernel_rfl
  f195 := Tryd.func36.trans (congrArg some (by kernel_rfl))
  t0 := Tryd.underlying0
  a0 := Tryd.isAgg0
  z0 := Tryd.sizeOf0
  v0 := Tryd.zeroValue0
  t3 := Tryd.underlying3
  a3 := Tryd.isAgg3
  z3 := Tryd.sizeOf3
  v3 := Tryd.zeroValue3
  t4 := Tryd.underlying4
  a4 := Tryd.isAgg4
  z4 := Tryd.sizeOf4
  v4 := Tryd.zeroValue4
  t9 := Tryd.underlying9
  a9 := Tryd.isAgg9
  z9 := Tryd.sizeOf9
  v9 := Tryd.zeroValue9 }
open Go.RowKit in
theorem Tryd.utf8_RuneCountInString (s : ByteArray) (w : World) (hs : s.size < 9223372036854775807) :
    Calls Tryd.prog 36 #[.string s] w fun e w' => e = .returned (.int .i64 (Lib.runeCount s)) ∧ ∃ pos, w' = w.iter s pos := Any.utf8_RuneCountInString Tryd.lays195 s w hs
def Tryd.lays217_ren : Go.Shelf.Ren := ⟨fun | 217 => 44 | 266 => 49 | n => n, fun | 9 => 9 | 5 => 5 | 3 => 3 | n => n, fun | n => n⟩
theorem Tryd.lays217 : Go.Proofs.Lays.n217 Tryd.prog Tryd.lays217_ren := {
  mixed := by kernel_rfl
  f217 := Tryd.func44.trans (congrArg some (by kernel_rfl))
  f266 := Tryd.func49.trans (congrArg some (by kernel_rfl))
  t3 := Tryd.underlying3
  a3 := Tryd.isAgg3
  z3 := Tryd.sizeOf3
  v3 := Tryd.zeroValue3
  t5 := Tryd.underlying5
  a5 := Tryd.isAgg5
  z5 := Tryd.sizeOf5
  v5 := Tryd.zeroValue5
  t9 := Tryd.underlying9
  a9 := Tryd.isAgg9
  z9 := Tryd.sizeOf9
  v9 := Tryd.zeroValue9 }
open Go.RowKit Go.Lib in
theorem Tryd.stringslite_IndexByte (s : ByteArray) (c : Int) (w : World) :
    Calls Tryd.prog 44 #[.string s, .int .u8 c] w fun e w' => e = .returned (.int .i64 (Lib.indexByte s.data.toList c.toNat.toUInt8)) ∧ w' = w := Any.stringslite_IndexByte Tryd.lays217 s c w
def Tryd.lays224_ren : Go.Shelf.Ren := ⟨fun | 224 => 46 | n => n, fun | 3 => 3 | n => n, fun | n => n⟩
theorem Tryd.lays224 : Go.Proofs.Lays.n224 Tryd.prog Tryd.lays224_ren := {
  mixed := by kernel_rfl
  f224 := Tryd.func46.trans (congrArg some (by kernel_rfl))
  t3 := Tryd.underlying3
  a3 := Tryd.isAgg3
  z3 := Tryd.sizeOf3
  v3 := Tryd.zeroValue3 }
open Go.RowKit Go.Lib in
theorem Tryd.bytealg_Cutover (n : Int) (h0 : 0 ≤ n) (h1 : n < 4611686018427387904) (w : World) :
    Calls Tryd.prog 46 #[.int .i64 n] w fun e w' => e = .returned (.int .i64 ((n + 16) / 8)) ∧ w' = w := Any.bytealg_Cutover Tryd.lays224 n h0 h1 w
def Tryd.lays314_ren : Go.Shelf.Ren := ⟨fun | 314 => 50 | n => n, fun | 9 => 9 | 51 => 39 | 3 => 3 | 4 => 4 | 5 => 5 | 46 => 59 | n => n, fun | n => n⟩
theorem Tryd.lays314 : Go.Proofs.Lays.n314 Tryd.prog Tryd.lays314_ren := {
  mixed := by kernel_rfl
  f314 := Tryd.func50.trans (congrArg some (by kernel_rfl))
  t3 := Tryd.underlying3
  a3 := Tryd.isAgg3
  z3 := Tryd.sizeOf3
  v3 := Tryd.zeroValue3
  t4 := Tryd.underlying4
  a4 := Tryd.isAgg4
  z4 := Tryd.sizeOf4
  v4 := Tryd.zeroValue4
  t5 := Tryd.underlying5
  a5 := Tryd.isAgg5
  z5 := Tryd.sizeOf5
  v5 := Tryd.zeroValue5
  t9 := Tryd.underlying9
  a9 := Tryd.isAgg9
  z9 := Tryd.sizeOf9
  v9 := Tryd.zeroValue9
  t46 := Tryd.underlying59
  a46 := Tryd.isAgg59
  z46 := Tryd.sizeOf59
  v46 := Tryd.zeroValue59
  t51 := Tryd.underlying39
  a51 := Tryd.isAgg39
  z51 := Tryd.sizeOf39
  v51 := Tryd.zeroValue39 }
open Go.RowKit Go.Lib in
theorem Tryd.bytealg_hashStr (sep : ByteArray) (hs : sep.size < 4294967281) (w : World) :
    Calls Tryd.prog 50 #[.string sep] w fun e w' => e = .returned (.tuple #[.int .u32 (RK.H sep.data.toList % 4294967296), .int .u32 (16777619 ^ sep.size % 4294967296)]) ∧ w' = w := Any.bytealg_hashStr Tryd.lays314 sep hs w
def Tryd.lays267_ren : Go.Shelf.Ren := ⟨fun | 267 => 47 | 314 => 50 | n => n, fun | 9 => 9 | 3 => 3 | 146 => 66 | 51 => 39 | 4 => 4 | 5 => 5 | 46 => 59 | n => n, fun | n => n⟩
theorem Tryd.lays267 : Go.Proofs.Lays.n267 Tryd.prog Tryd.lays267_ren := {
  mixed := by kernel_rfl
  f267 := Tryd.func47.trans (congrArg some (by kernel_rfl))
  f314 := Tryd.func50.trans (congrArg some (by kernel_rfl))
  t3 := Tryd.underlying3
  a3 := Tryd.isAgg3
  z3 := Tryd.sizeOf3
  v3 := Tryd.zeroValue3
  t4 := Tryd.underlying4
  a4 := Tryd.isAgg4
  z4 := Tryd.sizeOf4
  v4 := Tryd.zeroValue4
  t5 := Tryd.underlying5
  a5 := Tryd.isAgg5
  z5 := Tryd.sizeOf5
  v5 := Tryd.zeroValue5
  t9 := Tryd.underlying9
  a9 := Tryd.isAgg9
  z9 := Tryd.sizeOf9
  v9 := Tryd.zeroValue9
  t46 := Tryd.underlying59
  a46 := Tryd.isAgg59
  z46 := Tryd.sizeOf59
  v46 := Tryd.zeroValue59
  t51 := Tryd.underlying39
  a51 := Tryd.isAgg39
  z51 := Tryd.sizeOf39
  v51 := Tryd.zeroValue39
  t146 := Tryd.underlying66
  a146 := Tryd.isAgg66
  z146 := Tryd.sizeOf66
  v146 := Tryd.zeroValue66 }
open Go.RowKit Go.Lib in
theorem Tryd.bytealg_IndexRabinKarp (s sep : ByteArray) (h1 : 1 ≤ sep.size) (h2 : sep.size ≤ s.size) (hs : s.size < 4294967281) (w : World) :
    Calls Tryd.prog 47 #[.string s, .string sep] w fun e w' => e = .returned (.int .i64 (Lib.index s.data.toList sep.data.toList)) ∧ w' = w := Any.bytealg_IndexRabinKarp Tryd.lays267 s sep h1 h2 hs w
def Tryd.lays219_ren : Go.Shelf.Ren := ⟨fun | 219 => 38 | 217 => 44 | 225 => 45 | 224 => 46 | 267 => 47 | 266 => 49 | 314 => 50 | n => n, fun | 9 => 9 | 3 => 3 | 4 => 4 | 5 => 5 | 46 => 59 | 146 => 66 | 51 => 39 | n => n, fun | 1 => 2 | n => n⟩
theorem Tryd.lays219 : Go.Proofs.Lays.n219 Tryd.prog Tryd.lays219_ren := {
  mixed := by kernel_rfl
  f217 := Tryd.func44.trans (congrArg some (by kernel_rfl))
  f219 := Tryd.func38.trans (congrArg some (by kernel_rfl))
  f224 := Tryd.func46.trans (congrArg some (by kernel_rfl))
  f225 := Tryd.func45.trans (congrArg some (by kernel_rfl))
  f266 := Tryd.func49.trans (congrArg some (by kernel_rfl))
  f267 := Tryd.func47.trans (congrArg some (by kernel_rfl))
  f314 := Tryd.func50.trans (congrArg some (by kernel_rfl))
  t3 := Tryd.underlying3
  a3 := Tryd.isAgg3
  z3 := Tryd.sizeOf3
  v3 := Tryd.zeroValue3
  t4 := Tryd.underlying4
  a4 := Tryd.isAgg4
  z4 := Tryd.sizeOf4
  v4 := Tryd.zeroValue4
  t5 := Tryd.underlying5
  a5 := Tryd.isAgg5
  z5 := Tryd.sizeOf5
  v5 := Tryd.zeroValue5
  t9 := Tryd.underlying9
  a9 := Tryd.isAgg9
  z9 := Tryd.sizeOf9
  v9 := Tryd.zeroValue9
  t46 := Tryd.underlying59
  a46 := Tryd.isAgg59
  z46 := Tryd.sizeOf59
  v46 := Tryd.zeroValue59
  t51 := Tryd.underlying39
  a51 := Tryd.isAgg39
  z51 := Tryd.sizeOf39
  v51 := Tryd.zeroValue39
  t146 := Tryd.underlying66
  a146 := Tryd.isAgg66
  z146 := Tryd.sizeOf66
  v146 := Tryd.zeroValue66
  g1 := by kernel_rfl }
open Go.RowKit Go.Lib in
theorem Tryd.stringslite_Index_one (s : ByteArray) (c : UInt8) (w : World) :
    Calls Tryd.prog 38 #[.string s, .string ⟨#[c]⟩] w fun e w' => e = .returned (.int .i64 (Lib.indexByte s.data.toList c)) ∧ w' = w := Any.stringslite_Index_one Tryd.lays219 s c w
open Go.RowKit Go.Lib in
theorem Tryd.stringslite_Index (s sub : ByteArray) (m : Int) (w : World) (hs : s.size < 4294967281) (hm : w.cell? ⟨2, 0, none⟩ = some (.int .i64 m)) :
    Calls Tryd.prog 38 #[.string s, .string sub] w fun e w' => e = .returned (.int .i64 (Lib.index s.data.toList sub.data.toList)) ∧ w' = w := Any.stringslite_Index Tryd.lays219 s sub m w hs hm
def Tryd.lays143_ren : Go.Shelf.Ren := ⟨fun | 143 => 31 | 219 => 38 | 217 => 44 | 225 => 45 | 224 => 46 | 267 => 47 | 266 => 49 | 314 => 50 | n => n, fun | 9 => 9 | 3 => 3 | 4 => 4 | 5 => 5 | 46 => 59 | 146 => 66 | 51 => 39 | n => n, fun | 1 => 2 | n => n⟩
theorem Tryd.lays143 : Go.Proofs.Lays.n143 Tryd.prog Tryd.lays143_ren := {
  mixed := by kernel_rfl
  f143 := Tryd.func31.trans (congrArg some (by kernel_rfl))
  f217 := Tryd.func44.trans (congrArg some (by kernel_rfl))
  f219 := Tryd.func38.trans (congrArg some (by kernel_rfl))
  f224 := Tryd.func46.trans (congrArg some (by kernel_rfl))
  f225 := Tryd.func45.trans (congrArg some (by kernel_rfl))
  f266 := Tryd.func49.trans (congrArg some (by kernel_rfl))
  f267 := Tryd.func47.trans (congrArg some (by kernel_rfl))
  f314 := Tryd.func50.trans (congrArg some (by kernel_rfl))
  t3 := Tryd.underlying3
  a3 := Tryd.isAgg3
  z3 := Tryd.sizeOf3
  v3 := Tryd.zeroValue3
  t4 := Tryd.underlying4
  a4 := Tryd.isAgg4
  z4 := Tryd.sizeOf4
  v4 := Tryd.zeroValue4
  t5 := Tryd.underlying5
  a5 := Tryd.isAgg5
  z5 := Tryd.sizeOf5
  v5 := Tryd.zeroValue5
  t9 := Tryd.underlying9
  a9 := Tryd.isAgg9
  z9 := Tryd.sizeOf9
  v9 := Tryd.zeroValue9
  t46 := Tryd.underlying59
  a46 := Tryd.isAgg59
  z46 := Tryd.sizeOf59
  v46 := Tryd.zeroValue59
  t51 := Tryd.underlying39
  a51 := Tryd.isAgg39
  z51 := Tryd.sizeOf39
  v51 := Tryd.zeroValue39
  t146 := Tryd.underlying66
  a146 := Tryd.isAgg66
  z146 := Tryd.sizeOf66
  v146 := Tryd.zeroValue66
  g1 := by kernel_rfl }
open Go.RowKit Go.Lib in
theorem Tryd.strings_Index_one (s : ByteArray) (c : UInt8) (w : World) :
    Calls Tryd.prog 31 #[.string s, .string ⟨#[c]⟩] w fun e w' => e = .returned (.int .i64 (Lib.indexByte s.data.toList c)) ∧ w' = w := Any.strings_Index_one Tryd.lays143 s c w
open Go.RowKit Go.Lib in
theorem Tryd.strings_Index (s sub : ByteArray) (m : Int) (w : World) (hs : s.size < 4294967281) (hm : w.cell? ⟨2, 0, none⟩ = some (.int .i64 m)) :
    Calls Tryd.prog 31 #[.string s, .string sub] w fun e w' => e = .returned (.int .i64 (Lib.index s.data.toList sub.data.toList)) ∧ w' = w := Any.strings_Index Tryd.lays143 s sub m w hs hm
def Tryd.lays138_ren : Go.Shelf.Ren := ⟨fun | 138 => 30 | 195 => 36 | 218 => 37 | 143 => 31 | 219 => 38 | 217 => 44 | 225 => 45 | 224 => 46 | 267 => 47 | 266 => 49 | 314 => 50 | n => n, fun | 9 => 9 | 3 => 3 | 4 => 4 | 5 => 5 | 0 => 0 | 46 => 59 | 146 => 66 | 51 => 39 | n => n, fun | 1 => 2 | n => n⟩
theorem Tryd.lays138 : Go.Proofs.Lays.n138 Tryd.prog Tryd.lays138_ren := {
  mixed := by kernel_rfl
  f138 := Tryd.func30.trans (congrArg some (by kernel_rfl))
  f143 := Tryd.func31.trans (congrArg some (by kernel_rfl))
  f195 := Tryd.func36.trans (congrArg some (by kernel_rfl))
  f217 := Tryd.func44.trans (congrArg some (by kernel_rfl))
  f218 := Tryd.func37.trans (congrArg some (by kernel_rfl))
  f219 := Tryd.func38.trans (congrArg some (by kernel_rfl))
  f224 := Tryd.func46.trans (congrArg some (by kernel_rfl))
  f225 := Tryd.func45.trans (congrArg some (by kernel_rfl))
  f266 := Tryd.func49.trans (congrArg some (by kernel_rfl))
  f267 := Tryd.func47.trans (congrArg some (by kernel_rfl))
  f314 := Tryd.func50.trans (congrArg some (by kernel_rfl))
  t0 := Tryd.underlying0
  a0 := Tryd.isAgg0
  z0 := Tryd.sizeOf0
  v0 := Tryd.zeroValue0
  t3 := Tryd.underlying3
  a3 := Tryd.isAgg3
  z3 := Tryd.sizeOf3
  v3 := Tryd.zeroValue3
  t4 := Tryd.underlying4
  a4 := Tryd.isAgg4
  z4 := Tryd.sizeOf4
  v4 := Tryd.zeroValue4
  t5 := Tryd.underlying5
  a5 := Tryd.isAgg5
  z5 := Tryd.sizeOf5
  v5 := Tryd.zeroValue5
  t9 := Tryd.underlying9
  a9 := Tryd.isAgg9
  z9 := Tryd.sizeOf9
  v9 := Tryd.zeroValue9
  t46 := Tryd.underlying59
  a46 := Tryd.isAgg59
  z46 := Tryd.sizeOf59
  v46 := Tryd.zeroValue59
  t51 := Tryd.underlying39
  a51 := Tryd.isAgg39
  z51 := Tryd.sizeOf39
  v51 := Tryd.zeroValue39
  t146 := Tryd.underlying66
  a146 := Tryd.isAgg66
  z146 := Tryd.sizeOf66
  v146 := Tryd.zeroValue66
  g1 := by kernel_rfl }
open Go.RowKit Go.Lib in
theorem Tryd.strings_Count_one (s : ByteArray) (c : UInt8) (w : World) :
    Calls Tryd.prog 30 #[.string s, .string ⟨#[c]⟩] w fun e w' => e = .returned (.int .i64 (Lib.countByte s.data.toList c)) ∧ w' = w := Any.strings_Count_one Tryd.lays138 s c w
open Go.RowKit Go.Lib in
theorem Tryd.strings_Count (s sub : ByteArray) (m : Int) (w : World) (hs : s.size < 4294967281) (hm : w.cell? ⟨2, 0, none⟩ = some (.int .i64 m)) (h2 : 2 ≤ sub.size) :
    Calls Tryd.prog 30 #[.string s, .string sub] w fun e w' => e = .returned (.int .i64 (Lib.countB s sub)) ∧ w' = w := Any.strings_Count Tryd.lays138 s sub m w hs hm h2
def Tryd.laysM219_ren : Go.Shelf.Ren := ⟨fun | 219 => 38 | 217 => 44 | 225 => 45 | 224 => 46 | 267 => 47 | 266 => 49 | 314 => 50 | n => n, fun | 9 => 9 | 3 => 3 | 4 => 4 | 5 => 5 | 46 => 59 | 146 => 66 | 51 => 39 | n => n, fun | 1 => 2 | n => n⟩
theorem Tryd.laysM219 : Go.Proofs.LaysM.n219 Tryd.prog Tryd.laysM219_ren := {
  mixed := by kernel_rfl
  f217 := Tryd.func44.trans (congrArg some (by kernel_rfl))
  f219 := Tryd.func38.trans (congrArg some (by kernel_rfl))
  f224 := Tryd.func46.trans (congrArg some (by kernel_rfl))
  f225 := Tryd.func45.trans (congrArg some (by kernel_rfl))
  f266 := Tryd.func49.trans (congrArg some (by kernel_rfl))
  f267 := Tryd.func47.trans (congrArg some (by kernel_rfl))
  f314 := Tryd.func50.trans (congrArg some (by kernel_rfl))
  t3 := Tryd.underlying3
  a3 := Tryd.isAgg3
  z3 := Tryd.sizeOf3
  v3 := Tryd.zeroValue3
  t4 := Tryd.underlying4
  a4 := Tryd.isAgg4
  z4 := Tryd.sizeOf4
  v4 := Tryd.zeroValue4
  t5 := Tryd.underlying5
  a5 := Tryd.isAgg5
  z5 := Tryd.sizeOf5
  v5 := Tryd.zeroValue5
  t9 := Tryd.underlying9
  a9 := Tryd.isAgg9
  z9 := Tryd.sizeOf9
  v9 := Tryd.zeroValue9
  t46 := Tryd.underlying59
  a46 := Tryd.isAgg59
  z46 := Tryd.sizeOf59
  v46 := Tryd.zeroValue59
  t51 := Tryd.underlying39
  a51 := Tryd.isAgg39
  z51 := Tryd.sizeOf39
  v51 := Tryd.zeroValue39
  t146 := Tryd.underlying66
  a146 := Tryd.isAgg66
  z146 := Tryd.sizeOf66
  v146 := Tryd.zeroValue66
  g1 := by kernel_rfl
  i3 := by kernel_rfl
  i4 := by kernel_rfl
  i5 := by kernel_rfl
  i9 := by kernel_rfl
  i46 := by kernel_rfl
  i51 := by kernel_rfl
  i146 := by kernel_rfl
  m1 := by kernel_rfl
  s1_3 := fun w h => Go.Proofs.cell_of_shapedOpen_int (zero := #[.int .i64 0]) (t := 3) h (of_decide_eq_true (by kernel_rfl)) (by kernel_rfl) rfl (by kernel_rfl) (by kernel_rfl) Tryd.underlying3 }
open Go.RowKit Go.Lib in
theorem Tryd.stringslite_Index_shaped (s sub : ByteArray) (w : World) (h : w.ShapedOpen Tryd.prog) (hs : s.size < 4294967281) :
    Calls Tryd.prog 38 #[.string s, .string sub] w fun e w' => e = .returned (.int .i64 (Lib.index s.data.toList sub.data.toList)) ∧ w' = w := Any.stringslite_Index_shaped Tryd.laysM219 s sub w h hs
def Tryd.laysM143_ren : Go.Shelf.Ren := ⟨fun | 143 => 31 | 219 => 38 | 217 => 44 | 225 => 45 | 224 => 46 | 267 => 47 | 266 => 49 | 314 => 50 | n => n, fun | 9 => 9 | 3 => 3 | 4 => 4 | 5 => 5 | 46 => 59 | 146 => 66 | 51 => 39 | n => n, fun | 1 => 2 | n => n⟩
theorem Tryd.laysM143 : Go.Proofs.LaysM.n143 Tryd.prog Tryd.laysM143_ren := {
  mixed := by kernel_rfl
  f143 := Tryd.func31.trans (congrArg some (by kernel_rfl))
  f217 := Tryd.func44.trans (congrArg some (by kernel_rfl))
  f219 := Tryd.func38.trans (congrArg some (by kernel_rfl))
  f224 := Tryd.func46.trans (congrArg some (by kernel_rfl))
  f225 := Tryd.func45.trans (congrArg some (by kernel_rfl))
  f266 := Tryd.func49.trans (congrArg some (by kernel_rfl))
  f267 := Tryd.func47.trans (congrArg some (by kernel_rfl))
  f314 := Tryd.func50.trans (congrArg some (by kernel_rfl))
  t3 := Tryd.underlying3
  a3 := Tryd.isAgg3
  z3 := Tryd.sizeOf3
  v3 := Tryd.zeroValue3
  t4 := Tryd.underlying4
  a4 := Tryd.isAgg4
  z4 := Tryd.sizeOf4
  v4 := Tryd.zeroValue4
  t5 := Tryd.underlying5
  a5 := Tryd.isAgg5
  z5 := Tryd.sizeOf5
  v5 := Tryd.zeroValue5
  t9 := Tryd.underlying9
  a9 := Tryd.isAgg9
  z9 := Tryd.sizeOf9
  v9 := Tryd.zeroValue9
  t46 := Tryd.underlying59
  a46 := Tryd.isAgg59
  z46 := Tryd.sizeOf59
  v46 := Tryd.zeroValue59
  t51 := Tryd.underlying39
  a51 := Tryd.isAgg39
  z51 := Tryd.sizeOf39
  v51 := Tryd.zeroValue39
  t146 := Tryd.underlying66
  a146 := Tryd.isAgg66
  z146 := Tryd.sizeOf66
  v146 := Tryd.zeroValue66
  g1 := by kernel_rfl
  i3 := by kernel_rfl
  i4 := by kernel_rfl
  i5 := by kernel_rfl
  i9 := by kernel_rfl
  i46 := by kernel_rfl
  i51 := by kernel_rfl
  i146 := by kernel_rfl
  m1 := by kernel_rfl
  s1_3 := fun w h => Go.Proofs.cell_of_shapedOpen_int (zero := #[.int .i64 0]) (t := 3) h (of_decide_eq_true (by kernel_rfl)) (by kernel_rfl) rfl (by kernel_rfl) (by kernel_rfl) Tryd.underlying3 }
open Go.RowKit Go.Lib in
theorem Tryd.strings_Index_shaped (s sub : ByteArray) (w : World) (h : w.ShapedOpen Tryd.prog) (hs : s.size < 4294967281) :
    Calls Tryd.prog 31 #[.string s, .string sub] w fun e w' => e = .returned (.int .i64 (Lib.index s.data.toList sub.data.toList)) ∧ w' = w := Any.strings_Index_shaped Tryd.laysM143 s sub w h hs
def Tryd.laysM138_ren : Go.Shelf.Ren := ⟨fun | 138 => 30 | 195 => 36 | 218 => 37 | 143 => 31 | 219 => 38 | 217 => 44 | 225 => 45 | 224 => 46 | 267 => 47 | 266 => 49 | 314 => 50 | n => n, fun | 9 => 9 | 3 => 3 | 4 => 4 | 5 => 5 | 0 => 0 | 46 => 59 | 146 => 66 | 51 => 39 | n => n, fun | 1 => 2 | n => n⟩
theorem Tryd.laysM138 : Go.Proofs.LaysM.n138 Tryd.prog Tryd.laysM138_ren := {
  mixed := by kernel_rfl
  f138 := Tryd.func30.trans (congrArg some (by kernel_rfl))
  f143 := Tryd.func31.trans (congrArg some (by kernel_rfl))
  f195 := Tryd.func36.trans (congrArg some (by kernel_rfl))
  f217 := Tryd.func44.trans (congrArg some (by kernel_rfl))
  f218 := Tryd.func37.trans (congrArg some (by kernel_rfl))
  f219 := Tryd.func38.trans (congrArg some (by kernel_rfl))
  f224 := Tryd.func46.trans (congrArg some (by kernel_rfl))
  f225 := Tryd.func45.trans (congrArg some (by kernel_rfl))
  f266 := Tryd.func49.trans (congrArg some (by kernel_rfl))
  f267 := Tryd.func47.trans (congrArg some (by kernel_rfl))
  f314 := Tryd.func50.trans (congrArg some (by kernel_rfl))
  t0 := Tryd.underlying0
  a0 := Tryd.isAgg0
  z0 := Tryd.sizeOf0
  v0 := Tryd.zeroValue0
  t3 := Tryd.underlying3
  a3 := Tryd.isAgg3
  z3 := Tryd.sizeOf3
  v3 := Tryd.zeroValue3
  t4 := Tryd.underlying4
  a4 := Tryd.isAgg4
  z4 := Tryd.sizeOf4
  v4 := Tryd.zeroValue4
  t5 := Tryd.underlying5
  a5 := Tryd.isAgg5
  z5 := Tryd.sizeOf5
  v5 := Tryd.zeroValue5
  t9 := Tryd.underlying9
  a9 := Tryd.isAgg9
  z9 := Tryd.sizeOf9
  v9 := Tryd.zeroValue9
  t46 := Tryd.underlying59
  a46 := Tryd.isAgg59
  z46 := Tryd.sizeOf59
  v46 := Tryd.zeroValue59
  t51 := Tryd.underlying39
  a51 := Tryd.isAgg39
  z51 := Tryd.sizeOf39
  v51 := Tryd.zeroValue39
  t146 := Tryd.underlying66
  a146 := Tryd.isAgg66
  z146 := Tryd.sizeOf66
  v146 := Tryd.zeroValue66
  g1 := by kernel_rfl
  i0 := by kernel_rfl
  i3 := by kernel_rfl
  i4 := by kernel_rfl
  i5 := by kernel_rfl
  i9 := by kernel_rfl
  i46 := by kernel_rfl
  i51 := by kernel_rfl
  i146 := by kernel_rfl
  m1 := by kernel_rfl
  s1_3 := fun w h => Go.Proofs.cell_of_shapedOpen_int (zero := #[.int .i64 0]) (t := 3) h (of_decide_eq_true (by kernel_rfl)) (by kernel_rfl) rfl (by kernel_rfl) (by kernel_rfl) Tryd.underlying3 }
open Go.RowKit Go.Lib in
theorem Tryd.strings_Count_shaped (s sub : ByteArray) (w : World) (h : w.ShapedOpen Tryd.prog) (hs : s.size < 4294967281) (h2 : 2 ≤ sub.size) :
    Calls Tryd.prog 30 #[.string s, .string sub] w fun e w' => e = .returned (.int .i64 (Lib.countB s sub)) ∧ w' = w := Any.strings_Count_shaped Tryd.laysM138 s sub w h hs h2
open Go.RowKit Go.Lib in
theorem Tryd.strings_Count_any (s sep : ByteArray) (m : Int) (w : World) (hs : s.size < 4294967281) (hm : w.cell? ⟨2, 0, none⟩ = some (.int .i64 m)) (h1 : 1 ≤ sep.size) :
    Calls Tryd.prog 30 #[.string s, .string sep] w fun e w' => e = .returned (.int .i64 (Lib.countB s sep)) ∧ w' = w := Any.strings_Count_any Tryd.lays138 s sep m w hs hm h1
def Tryd.lays221_ren : Go.Shelf.Ren := ⟨fun | 221 => 25 | 268 => 29 | 138 => 30 | 143 => 31 | 195 => 36 | 197 => 35 | 218 => 37 | 219 => 38 | 260 => 43 | 217 => 44 | 225 => 45 | 224 => 46 | 267 => 47 | 266 => 49 | 314 => 50 | n => n, fun | 9 => 9 | 3 => 3 | 31 => 23 | 4 => 4 | 0 => 0 | 105 => 43 | 21 => 21 | 5 => 5 | 46 => 59 | 119 => 36 | 139 => 65 | 138 => 64 | 146 => 66 | 51 => 39 | n => n, fun | 1 => 2 | 3 => 3 | 4 => 4 | n => n⟩
theorem Tryd.lays221 : Go.Proofs.Lays.n221 Tryd.prog Tryd.lays221_ren := {
  mixed := by kernel_rfl
  f138 := Tryd.func30.trans (congrArg some (by kernel_rfl))
  f143 := Tryd.func31.trans (congrArg some (by kernel_rfl))
  f195 := Tryd.func36.trans (congrArg some (by kernel_rfl))
  f197 := Tryd.func35.trans (congrArg some (by kernel_rfl))
  f217 := Tryd.func44.trans (congrArg some (by kernel_rfl))
  f218 := Tryd.func37.trans (congrArg some (by kernel_rfl))
  f219 := Tryd.func38.trans (congrArg some (by kernel_rfl))
  f221 := Tryd.func25.trans (congrArg some (by kernel_rfl))
  f224 := Tryd.func46.trans (congrArg some (by kernel_rfl))
  f225 := Tryd.func45.trans (congrArg some (by kernel_rfl))
  f260 := Tryd.func43.trans (congrArg some (by kernel_rfl))
  f266 := Tryd.func49.trans (congrArg some (by kernel_rfl))
  f267 := Tryd.func47.trans (congrArg some (by kernel_rfl))
  f268 := Tryd.func29.trans (congrArg some (by kernel_rfl))
  f314 := Tryd.func50.trans (congrArg some (by kernel_rfl))
  t0 := Tryd.underlying0
  a0 := Tryd.isAgg0
  z0 := Tryd.sizeOf0
  v0 := Tryd.zeroValue0
  t3 := Tryd.underlying3
  a3 := Tryd.isAgg3
  z3 := Tryd.sizeOf3
  v3 := Tryd.zeroValue3
  t4 := Tryd.underlying4
  a4 := Tryd.isAgg4
  z4 := Tryd.sizeOf4
  v4 := Tryd.zeroValue4
  t5 := Tryd.underlying5
  a5 := Tryd.isAgg5
  z5 := Tryd.sizeOf5
  v5 := Tryd.zeroValue5
  t9 := Tryd.underlying9
  a9 := Tryd.isAgg9
  z9 := Tryd.sizeOf9
  v9 := Tryd.zeroValue9
  t21 := Tryd.underlying21
  a21 := Tryd.isAgg21
  z21 := Tryd.sizeOf21
  v21 := Tryd.zeroValue21
  t31 := Tryd.underlying23
  a31 := Tryd.isAgg23
  z31 := Tryd.sizeOf23
  v31 := Tryd.zeroValue23
  t46 := Tryd.underlying59
  a46 := Tryd.isAgg59
  z46 := Tryd.sizeOf59
  v46 := Tryd.zeroValue59
  t51 := Tryd.underlying39
  a51 := Tryd.isAgg39
  z51 := Tryd.sizeOf39
  v51 := Tryd.zeroValue39
  t105 := Tryd.underlying43
  a105 := Tryd.isAgg43
  z105 := Tryd.sizeOf43
  v105 := Tryd.zeroValue43
  t119 := Tryd.underlying36
  a119 := Tryd.isAgg36
  z119 := Tryd.sizeOf36
  t138 := Tryd.underlying64
  a138 := Tryd.isAgg64
  z138 := Tryd.sizeOf64
  v138 := Tryd.zeroValue64
  t139 := Tryd.underlying65
  a139 := Tryd.isAgg65
  z139 := Tryd.sizeOf65
  v139 := Tryd.zeroValue65
  t146 := Tryd.underlying66
  a146 := Tryd.isAgg66
  z146 := Tryd.sizeOf66
  v146 := Tryd.zeroValue66
  g1 := by kernel_rfl
  g3 := by kernel_rfl
  g4 := by kernel_rfl }
open Go.RowKit Go.Lib in
theorem Tryd.strings_genSplit (s sep : ByteArray) (sv : Nat) (n : Int) (N : Nat) (m : Int) (w : World) (hs : s.size < 4294967281) (hm : w.cell? ⟨2, 0, none⟩ = some (.int .i64 m)) (h1 : 1 ≤ sep.size) (hsv : sv ≤ sep.size) (hn0 : n ≠ 0) (hn63 : n ≤ 9223372036854775807) (hN : (N : Int) = min (if n < 0 then (Lib.countB s sep : Int) + 1 else n) ((s.size : Int) + 1)) :
    Calls Tryd.prog 25 #[.string s, .string sep, .int .i64 sv, .int .i64 n] w fun e w' =>
      e = .returned (.slice (some ⟨w.heap.size, 0, none⟩) (Lib.splitB sep sv (N - 1) s).length N) ∧ w' = w.alloc (.cells (Lib.cellsOf (Lib.splitB sep sv (N - 1) s) N) 9) := Any.strings_genSplit Tryd.lays221 (by kernel_rfl) s sep sv n N m w hs hm h1 hsv hn0 hn63 hN
def Tryd.lays146_ren : Go.Shelf.Ren := ⟨fun | 146 => 23 | 221 => 25 | 268 => 29 | 138 => 30 | 143 => 31 | 195 => 36 | 197 => 35 | 218 => 37 | 219 => 38 | 260 => 43 | 217 => 44 | 225 => 45 | 224 => 46 | 267 => 47 | 266 => 49 | 314 => 50 | n => n, fun | 9 => 9 | 31 => 23 | 3 => 3 | 4 => 4 | 0 => 0 | 105 => 43 | 21 => 21 | 5 => 5 | 46 => 59 | 119 => 36 | 139 => 65 | 138 => 64 | 146 => 66 | 51 => 39 | n => n, fun | 1 => 2 | 3 => 3 | 4 => 4 | n => n⟩
theorem Tryd.lays146 : Go.Proofs.Lays.n146 Tryd.prog Tryd.lays146_ren := {
  mixed := by kernel_rfl
  f138 := Tryd.func30.trans (congrArg some (by kernel_rfl))
  f143 := Tryd.func31.trans (congrArg some (by kernel_rfl))
  f146 := Tryd.func23.trans (congrArg some (by kernel_rfl))
  f195 := Tryd.func36.trans (congrArg some (by kernel_rfl))
  f197 := Tryd.func35.trans (congrArg some (by kernel_rfl))
  f217 := Tryd.func44.trans (congrArg some (by kernel_rfl))
  f218 := Tryd.func37.trans (congrArg some (by kernel_rfl))
  f219 := Tryd.func38.trans (congrArg some (by kernel_rfl))
  f221 := Tryd.func25.trans (congrArg some (by kernel_rfl))
  f224 := Tryd.func46.trans (congrArg some (by kernel_rfl))
  f225 := Tryd.func45.trans (congrArg some (by kernel_rfl))
  f260 := Tryd.func43.trans (congrArg some (by kernel_rfl))
  f266 := Tryd.func49.trans (congrArg some (by kernel_rfl))
  f267 := Tryd.func47.trans (congrArg some (by kernel_rfl))
  f268 := Tryd.func29.trans (congrArg some (by kernel_rfl))
  f314 := Tryd.func50.trans (congrArg some (by kernel_rfl))
  t0 := Tryd.underlying0
  a0 := Tryd.isAgg0
  z0 := Tryd.sizeOf0
  v0 := Tryd.zeroValue0
  t3 := Tryd.underlying3
  a3 := Tryd.isAgg3
  z3 := Tryd.sizeOf3
  v3 := Tryd.zeroValue3
  t4 := Tryd.underlying4
  a4 := Tryd.isAgg4
  z4 := Tryd.sizeOf4
  v4 := Tryd.zeroValue4
  t5 := Tryd.underlying5
  a5 := Tryd.isAgg5
  z5 := Tryd.sizeOf5
  v5 := Tryd.zeroValue5
  t9 := Tryd.underlying9
  a9 := Tryd.isAgg9
  z9 := Tryd.sizeOf9
  v9 := Tryd.zeroValue9
  t21 := Tryd.underlying21
  a21 := Tryd.isAgg21
  z21 := Tryd.sizeOf21
  v21 := Tryd.zeroValue21
  t31 := Tryd.underlying23
  a31 := Tryd.isAgg23
  z31 := Tryd.sizeOf23
  v31 := Tryd.zeroValue23
  t46 := Tryd.underlying59
  a46 := Tryd.isAgg59
  z46 := Tryd.sizeOf59
  v46 := Tryd.zeroValue59
  t51 := Tryd.underlying39
  a51 := Tryd.isAgg39
  z51 := Tryd.sizeOf39
  v51 := Tryd.zeroValue39
  t105 := Tryd.underlying43
  a105 := Tryd.isAgg43
  z105 := Tryd.sizeOf43
  v105 := Tryd.zeroValue43
  t119 := Tryd.underlying36
  a119 := Tryd.isAgg36
  z119 := Tryd.sizeOf36
  t138 := Tryd.underlying64
  a138 := Tryd.isAgg64
  z138 := Tryd.sizeOf64
  v138 := Tryd.zeroValue64
  t139 := Tryd.underlying65
  a139 := Tryd.isAgg65
  z139 := Tryd.sizeOf65
  v139 := Tryd.zeroValue65
  t146 := Tryd.underlying66
  a146 := Tryd.isAgg66
  z146 := Tryd.sizeOf66
  v146 := Tryd.zeroValue66
  g1 := by kernel_rfl
  g3 := by kernel_rfl
  g4 := by kernel_rfl }
open Go.RowKit Go.Lib in
theorem Tryd.strings_Split (s sep : ByteArray) (m : Int) (w : World) (hs : s.size < 4294967281) (hm : w.cell? ⟨2, 0, none⟩ = some (.int .i64 m)) (h1 : 1 ≤ sep.size) :
    Calls Tryd.prog 23 #[.string s, .string sep] w fun e w' =>
      e = .returned (.slice (some ⟨w.heap.size, 0, none⟩) (Lib.countB s sep + 1) (Lib.countB s sep + 1)) ∧ w' = w.alloc (.cells ((Lib.splitB sep 0 (Lib.countB s sep) s).map Value.string).toArray 9) := Any.strings_Split Tryd.lays146 (by kernel_rfl) s sep m w hs hm h1
def Tryd.laysM146_ren : Go.Shelf.Ren := ⟨fun | 146 => 23 | 221 => 25 | 268 => 29 | 138 => 30 | 143 => 31 | 195 => 36 | 197 => 35 | 218 => 37 | 219 => 38 | 260 => 43 | 217 => 44 | 225 => 45 | 224 => 46 | 267 => 47 | 266 => 49 | 314 => 50 | n => n, fun | 9 => 9 | 31 => 23 | 3 => 3 | 4 => 4 | 0 => 0 | 105 => 43 | 21 => 21 | 5 => 5 | 46 => 59 | 119 => 36 | 139 => 65 | 138 => 64 | 146 => 66 | 51 => 39 | n => n, fun | 1 => 2 | 3 => 3 | 4 => 4 | n => n⟩
theorem Tryd.laysM146 : Go.Proofs.LaysM.n146 Tryd.prog Tryd.laysM146_ren := {
  mixed := by kernel_rfl
  f138 := Tryd.func30.trans (congrArg some (by kernel_rfl))
  f143 := Tryd.func31.trans (congrArg some (by kernel_rfl))
  f146 := Tryd.func23.trans (congrArg some (by kernel_rfl))
  f195 := Tryd.func36.trans (congrArg some (by kernel_rfl))
  f197 := Tryd.func35.trans (congrArg some (by kernel_rfl))
  f217 := Tryd.func44.trans (congrArg some (by kernel_rfl))
  f218 := Tryd.func37.trans (congrArg some (by kernel_rfl))
  f219 := Tryd.func38.trans (congrArg some (by kernel_rfl))
  f221 := Tryd.func25.trans (congrArg some (by kernel_rfl))
  f224 := Tryd.func46.trans (congrArg some (by kernel_rfl))
  f225 := Tryd.func45.trans (congrArg some (by kernel_rfl))
  f260 := Tryd.func43.trans (congrArg some (by kernel_rfl))
  f266 := Tryd.func49.trans (congrArg some (by kernel_rfl))
  f267 := Tryd.func47.trans (congrArg some (by kernel_rfl))
  f268 := Tryd.func29.trans (congrArg some (by kernel_rfl))
  f314 := Tryd.func50.trans (congrArg some (by kernel_rfl))
  t0 := Tryd.underlying0
  a0 := Tryd.isAgg0
  z0 := Tryd.sizeOf0
  v0 := Tryd.zeroValue0
  t3 := Tryd.underlying3
  a3 := Tryd.isAgg3
  z3 := Tryd.sizeOf3
  v3 := Tryd.zeroValue3
  t4 := Tryd.underlying4
  a4 := Tryd.isAgg4
  z4 := Tryd.sizeOf4
  v4 := Tryd.zeroValue4
  t5 := Tryd.underlying5
  a5 := Tryd.isAgg5
  z5 := Tryd.sizeOf5
  v5 := Tryd.zeroValue5
  t9 := Tryd.underlying9
  a9 := Tryd.isAgg9
  z9 := Tryd.sizeOf9
  v9 := Tryd.zeroValue9
  t21 := Tryd.underlying21
  a21 := Tryd.isAgg21
  z21 := Tryd.sizeOf21
  v21 := Tryd.zeroValue21
  t31 := Tryd.underlying23
  a31 := Tryd.isAgg23
  z31 := Tryd.sizeOf23
  v31 := Tryd.zeroValue23
  t46 := Tryd.underlying59
  a46 := Tryd.isAgg59
  z46 := Tryd.sizeOf59
  v46 := Tryd.zeroValue59
  t51 := Tryd.underlying39
  a51 := Tryd.isAgg39
  z51 := Tryd.sizeOf39
  v51 := Tryd.zeroValue39
  t105 := Tryd.underlying43
  a105 := Tryd.isAgg43
  z105 := Tryd.sizeOf43
  v105 := Tryd.zeroValue43
  t119 := Tryd.underlying36
  a119 := Tryd.isAgg36
  z119 := Tryd.sizeOf36
  t138 := Tryd.underlying64
  a138 := Tryd.isAgg64
  z138 := Tryd.sizeOf64
  v138 := Tryd.zeroValue64
  t139 := Tryd.underlying65
  a139 := Tryd.isAgg65
  z139 := Tryd.sizeOf65
  v139 := Tryd.zeroValue65
  t146 := Tryd.underlying66
  a146 := Tryd.isAgg66
  z146 := Tryd.sizeOf66
  v146 := Tryd.zeroValue66
  g1 := by kernel_rfl
  g3 := by kernel_rfl
  g4 := by kernel_rfl
  i0 := by kernel_rfl
  i3 := by kernel_rfl
  i4 := by kernel_rfl
  i5 := by kernel_rfl
  i9 := by kernel_rfl
  i21 := by kernel_rfl
  i31 := by kernel_rfl
  i46 := by kernel_rfl
  i51 := by kernel_rfl
  i105 := by kernel_rfl
  i138 := by kernel_rfl
  i139 := by kernel_rfl
  i146 := by kernel_rfl
  m1 := by kernel_rfl
  s1_3 := fun w h => Go.Proofs.cell_of_shapedOpen_int (zero := #[.int .i64 0]) (t := 3) h (of_decide_eq_true (by kernel_rfl)) (by kernel_rfl) rfl (by kernel_rfl) (by kernel_rfl) Tryd.underlying3
  m3 := by kernel_rfl
  m4 := by kernel_rfl }
open Go.RowKit Go.Lib in
theorem Tryd.strings_Split_shaped (s sep : ByteArray) (w : World) (h : w.ShapedOpen Tryd.prog) (hs : s.size < 4294967281) (h1 : 1 ≤ sep.size) :
    Calls Tryd.prog 23 #[.string s, .string sep] w fun e w' =>
      e = .returned (.slice (some ⟨w.heap.size, 0, none⟩) (Lib.countB s sep + 1) (Lib.countB s sep + 1)) ∧ w' = w.alloc (.cells ((Lib.splitB sep 0 (Lib.countB s sep) s).map Value.string).toArray 9) := Any.strings_Split_shaped Tryd.laysM146 s sep w h hs h1
def Tryd.lays199_ren : Go.Shelf.Ren := ⟨fun | 199 => 27 | 261 => 33 | 311 => 40 | 312 => 41 | n => n, fun | 21 => 21 | 4 => 4 | 51 => 39 | 141 => 41 | 0 => 0 | 196 => 50 | 193 => 47 | 3 => 3 | 198 => 53 | 49 => 51 | 194 => 48 | 201 => 56 | 226 => 60 | 46 => 59 | 227 => 61 | n => n, fun | 6 => 1 | n => n⟩
theorem Tryd.lays199 : Go.Proofs.Lays.n199 Tryd.prog Tryd.lays199_ren := {
  mixed := by kernel_rfl
  f199 := Tryd.func27.trans (congrArg some (by kernel_rfl))
  f261 := Tryd.func33.trans (congrArg some (by kernel_rfl))
  f311 := Tryd.func40.trans (congrArg some (by kernel_rfl))
  f312 := Tryd.func41.trans (congrArg some (by kernel_rfl))
  t0 := Tryd.underlying0
  a0 := Tryd.isAgg0
  z0 := Tryd.sizeOf0
  v0 := Tryd.zeroValue0
  t3 := Tryd.underlying3
  a3 := Tryd.isAgg3
  z3 := Tryd.sizeOf3
  v3 := Tryd.zeroValue3
  t4 := Tryd.underlying4
  a4 := Tryd.isAgg4
  z4 := Tryd.sizeOf4
  v4 := Tryd.zeroValue4
  t21 := Tryd.underlying21
  a21 := Tryd.isAgg21
  z21 := Tryd.sizeOf21
  v21 := Tryd.zeroValue21
  t46 := Tryd.underlying59
  a46 := Tryd.isAgg59
  z46 := Tryd.sizeOf59
  v46 := Tryd.zeroValue59
  t49 := Tryd.underlying51
  a49 := Tryd.isAgg51
  z49 := Tryd.sizeOf51
  v49 := Tryd.zeroValue51
  t51 := Tryd.underlying39
  a51 := Tryd.isAgg39
  z51 := Tryd.sizeOf39
  v51 := Tryd.zeroValue39
  t141 := Tryd.underlying41
  a141 := Tryd.isAgg41
  z141 := Tryd.sizeOf41
  v141 := Tryd.zeroValue41
  t193 := Tryd.underlying47
  a193 := Tryd.isAgg47
  z193 := Tryd.sizeOf47
  v193 := Tryd.zeroValue47
  t194 := Tryd.underlying48
  a194 := Tryd.isAgg48
  z194 := Tryd.sizeOf48
  v194 := Tryd.zeroValue48
  t196 := Tryd.underlying50
  a196 := Tryd.isAgg50
  z196 := Tryd.sizeOf50
  v196 := Tryd.zeroValue50
  t198 := Tryd.underlying53
  a198 := Tryd.isAgg53
  z198 := Tryd.sizeOf53
  v198 := Tryd.zeroValue53
  t201 := Tryd.underlying56
  a201 := Tryd.isAgg56
  z201 := Tryd.sizeOf56
  v201 := Tryd.zeroValue56
  t226 := Tryd.underlying60
  a226 := Tryd.isAgg60
  z226 := Tryd.sizeOf60
  v226 := Tryd.zeroValue60
  t227 := Tryd.underlying61
  a227 := Tryd.isAgg61
  z227 := Tryd.sizeOf61
  v227 := Tryd.zeroValue61
  g6 := by kernel_rfl }
open Go.RowKit Go.Lib in
theorem Tryd.unicode_IsSpace (r : Int) (w : World) (h0 : 0 ≤ r) (h : r ≤ 255) :
    Calls Tryd.prog 27 #[.int .i32 r] w fun e w' => e = .returned (.bool (Lib.isSpaceL r)) ∧ w' = w := Any.unicode_IsSpace Tryd.lays199 r w h0 h
def Tryd.lays260_ren : Go.Shelf.Ren := ⟨fun | 260 => 43 | n => n, fun | 9 => 9 | 21 => 21 | 3 => 3 | 4 => 4 | 5 => 5 | 119 => 36 | 0 => 0 | 46 => 59 | 139 => 65 | 138 => 64 | n => n, fun | 3 => 3 | 4 => 4 | n => n⟩
theorem Tryd.lays260 : Go.Proofs.Lays.n260 Tryd.prog Tryd.lays260_ren := {
  mixed := by kernel_rfl
  f260 := Tryd.func43.trans (congrArg some (by kernel_rfl))
  t0 := Tryd.underlying0
  a0 := Tryd.isAgg0
  z0 := Tryd.sizeOf0
  v0 := Tryd.zeroValue0
  t3 := Tryd.underlying3
  a3 := Tryd.isAgg3
  z3 := Tryd.sizeOf3
  v3 := Tryd.zeroValue3
  t4 := Tryd.underlying4
  a4 := Tryd.isAgg4
  z4 := Tryd.sizeOf4
  v4 := Tryd.zeroValue4
  t5 := Tryd.underlying5
  a5 := Tryd.isAgg5
  z5 := Tryd.sizeOf5
  v5 := Tryd.zeroValue5
  t9 := Tryd.underlying9
  a9 := Tryd.isAgg9
  z9 := Tryd.sizeOf9
  v9 := Tryd.zeroValue9
  t21 := Tryd.underlying21
  a21 := Tryd.isAgg21
  z21 := Tryd.sizeOf21
  v21 := Tryd.zeroValue21
  t46 := Tryd.underlying59
  a46 := Tryd.isAgg59
  z46 := Tryd.sizeOf59
  v46 := Tryd.zeroValue59
  t119 := Tryd.underlying36
  a119 := Tryd.isAgg36
  z119 := Tryd.sizeOf36
  t138 := Tryd.underlying64
  a138 := Tryd.isAgg64
  z138 := Tryd.sizeOf64
  v138 := Tryd.zeroValue64
  t139 := Tryd.underlying65
  a139 := Tryd.isAgg65
  z139 := Tryd.sizeOf65
  v139 := Tryd.zeroValue65
  g3 := by kernel_rfl
  g4 := by kernel_rfl }
open Go.RowKit Go.Lib in
theorem Tryd.utf8_decodeRuneInStringSlow (s : ByteArray) (w : World) (hT : Lib.Utf8Tabs 3 4 w) :
    Calls Tryd.prog 43 #[.string s] w fun e w' => e = .returned (.tuple #[.int .i32 (Lib.decodeGo s).1, .int .i64 (Lib.decodeGo s).2]) ∧ Below w.heap.size w w' := Any.utf8_decodeRuneInStringSlow Tryd.lays260 s w hT
def Tryd.lays197_ren : Go.Shelf.Ren := ⟨fun | 197 => 35 | 260 => 43 | n => n, fun | 9 => 9 | 21 => 21 | 3 => 3 | 4 => 4 | 5 => 5 | 105 => 43 | 119 => 36 | 0 => 0 | 46 => 59 | 139 => 65 | 138 => 64 | n => n, fun | 3 => 3 | 4 => 4 | n => n⟩
theorem Tryd.lays197 : Go.Proofs.Lays.n197 Tryd.prog Tryd.lays197_ren := {
  mixed := by kernel_rfl
  f197 := Tryd.func35.trans (congrArg some (by kernel_rfl))
  f260 := Tryd.func43.trans (congrArg some (by kernel_rfl))
  t0 := Tryd.underlying0
  a0 := Tryd.isAgg0
  z0 := Tryd.sizeOf0
  v0 := Tryd.zeroValue0
  t3 := Tryd.underlying3
  a3 := Tryd.isAgg3
  z3 := Tryd.sizeOf3
  v3 := Tryd.zeroValue3
  t4 := Tryd.underlying4
  a4 := Tryd.isAgg4
  z4 := Tryd.sizeOf4
  v4 := Tryd.zeroValue4
  t5 := Tryd.underlying5
  a5 := Tryd.isAgg5
  z5 := Tryd.sizeOf5
  v5 := Tryd.zeroValue5
  t9 := Tryd.underlying9
  a9 := Tryd.isAgg9
  z9 := Tryd.sizeOf9
  v9 := Tryd.zeroValue9
  t21 := Tryd.underlying21
  a21 := Tryd.isAgg21
  z21 := Tryd.sizeOf21
  v21 := Tryd.zeroValue21
  t46 := Tryd.underlying59
  a46 := Tryd.isAgg59
  z46 := Tryd.sizeOf59
  v46 := Tryd.zeroValue59
  t105 := Tryd.underlying43
  a105 := Tryd.isAgg43
  z105 := Tryd.sizeOf43
  v105 := Tryd.zeroValue43
  t119 := Tryd.underlying36
  a119 := Tryd.isAgg36
  z119 := Tryd.sizeOf36
  t138 := Tryd.underlying64
  a138 := Tryd.isAgg64
  z138 := Tryd.sizeOf64
  v138 := Tryd.zeroValue64
  t139 := Tryd.underlying65
  a139 := Tryd.isAgg65
  z139 := Tryd.sizeOf65
  v139 := Tryd.zeroValue65
  g3 := by kernel_rfl
  g4 := by kernel_rfl }
open Go.RowKit Go.Lib in
theorem Tryd.utf8_DecodeRuneInString (s : ByteArray) (w : World) (hT : Lib.Utf8Tabs 3 4 w) :
    Calls Tryd.prog 35 #[.string s] w fun e w' => e = .returned (.tuple #[.int .i32 (Lib.decodeGo s).1, .int .i64 (Lib.decodeGo s).2]) ∧ Below w.heap.size w w' := Any.utf8_DecodeRuneInString Tryd.lays197 s w hT
def Tryd.lays311_ren : Go.Shelf.Ren := ⟨fun | 311 => 40 | n => n, fun | 193 => 47 | 49 => 51 | 4 => 4 | 3 => 3 | 0 => 0 | 226 => 60 | 198 => 53 | 46 => 59 | n => n, fun | n => n⟩
theorem Tryd.lays311 : Go.Proofs.Lays.n311 Tryd.prog Tryd.lays311_ren := {
  mixed := by kernel_rfl
  f311 := Tryd.func40.trans (congrArg some (by kernel_rfl))
  t0 := Tryd.underlying0
  a0 := Tryd.isAgg0
  z0 := Tryd.sizeOf0
  v0 := Tryd.zeroValue0
  t3 := Tryd.underlying3
  a3 := Tryd.isAgg3
  z3 := Tryd.sizeOf3
  v3 := Tryd.zeroValue3
  t4 := Tryd.underlying4
  a4 := Tryd.isAgg4
  z4 := Tryd.sizeOf4
  v4 := Tryd.zeroValue4
  t46 := Tryd.underlying59
  a46 := Tryd.isAgg59
  z46 := Tryd.sizeOf59
  v46 := Tryd.zeroValue59
  t49 := Tryd.underlying51
  a49 := Tryd.isAgg51
  z49 := Tryd.sizeOf51
  v49 := Tryd.zeroValue51
  t193 := Tryd.underlying47
  a193 := Tryd.isAgg47
  z193 := Tryd.sizeOf47
  v193 := Tryd.zeroValue47
  t198 := Tryd.underlying53
  a198 := Tryd.isAgg53
  z198 := Tryd.sizeOf53
  v198 := Tryd.zeroValue53
  t226 := Tryd.underlying60
  a226 := Tryd.isAgg60
  z226 := Tryd.sizeOf60
  v226 := Tryd.zeroValue60 }
open Go.RowKit Go.Lib in
theorem Tryd.unicode_is16_white (R oR : Nat) (z : Nat) (w : World) (hz : z < 65536) (hz0 : 255 < z) (c6 : w.cell? ⟨R, oR + 6, none⟩ = some (.int .u16 160)) (c7 : w.cell? ⟨R, oR + 7, none⟩ = some (.int .u16 5760)) (c8 : w.cell? ⟨R, oR + 8, none⟩ = some (.int .u16 5600)) (c9 : w.cell? ⟨R, oR + 9, none⟩ = some (.int .u16 8192)) (c10 : w.cell? ⟨R, oR + 10, none⟩ = some (.int .u16 8202)) (c11 : w.cell? ⟨R, oR + 11, none⟩ = some (.int .u16 1)) (c12 : w.cell? ⟨R, oR + 12, none⟩ = some (.int .u16 8232)) (c13 : w.cell? ⟨R, oR + 13, none⟩ = some (.int .u16 8233)) (c14 : w.cell? ⟨R, oR + 14, none⟩ = some (.int .u16 1)) (c15 : w.cell? ⟨R, oR + 15, none⟩ = some (.int .u16 8239)) (c16 : w.cell? ⟨R, oR + 16, none⟩ = some (.int .u16 8287)) (c17 : w.cell? ⟨R, oR + 17, none⟩ = some (.int .u16 48)) (c18 : w.cell? ⟨R, oR + 18, none⟩ = some (.int .u16 12288)) (c19 : w.cell? ⟨R, oR + 19, none⟩ = some (.int .u16 12288)) (c20 : w.cell? ⟨R, oR + 20, none⟩ = some (.int .u16 1)) :
    Calls Tryd.prog 40 #[.slice (some ⟨R, oR + 6, none⟩) 5 5, .int .u16 z] w fun e w' => e = .returned (.bool (Lib.isSpaceR z)) ∧ Below w.heap.size w w' := Any.unicode_is16_white Tryd.lays311 R oR z w hz hz0 c6 c7 c8 c9 c10 c11 c12 c13 c14 c15 c16 c17 c18 c19 c20
def Tryd.lays261_ren : Go.Shelf.Ren := ⟨fun | 261 => 33 | 311 => 40 | 312 => 41 | n => n, fun | 141 => 41 | 21 => 21 | 4 => 4 | 0 => 0 | 196 => 50 | 193 => 47 | 3 => 3 | 51 => 39 | 198 => 53 | 49 => 51 | 194 => 48 | 201 => 56 | 226 => 60 | 46 => 59 | 227 => 61 | n => n, fun | n => n⟩
theorem Tryd.lays261 : Go.Proofs.Lays.n261 Tryd.prog Tryd.lays261_ren := {
  mixed := by kernel_rfl
  f261 := Tryd.func33.trans (congrArg some (by kernel_rfl))
  f311 := Tryd.func40.trans (congrArg some (by kernel_rfl))
  f312 := Tryd.func41.trans (congrArg some (by kernel_rfl))
  t0 := Tryd.underlying0
  a0 := Tryd.isAgg0
  z0 := Tryd.sizeOf0
  v0 := Tryd.zeroValue0
  t3 := Tryd.underlying3
  a3 := Tryd.isAgg3
  z3 := Tryd.sizeOf3
  v3 := Tryd.zeroValue3
  t4 := Tryd.underlying4
  a4 := Tryd.isAgg4
  z4 := Tryd.sizeOf4
  v4 := Tryd.zeroValue4
  t21 := Tryd.underlying21
  a21 := Tryd.isAgg21
  z21 := Tryd.sizeOf21
  v21 := Tryd.zeroValue21
  t46 := Tryd.underlying59
  a46 := Tryd.isAgg59
  z46 := Tryd.sizeOf59
  v46 := Tryd.zeroValue59
  t49 := Tryd.underlying51
  a49 := Tryd.isAgg51
  z49 := Tryd.sizeOf51
  v49 := Tryd.zeroValue51
  t51 := Tryd.underlying39
  a51 := Tryd.isAgg39
  z51 := Tryd.sizeOf39
  v51 := Tryd.zeroValue39
  t141 := Tryd.underlying41
  a141 := Tryd.isAgg41
  z141 := Tryd.sizeOf41
  v141 := Tryd.zeroValue41
  t193 := Tryd.underlying47
  a193 := Tryd.isAgg47
  z193 := Tryd.sizeOf47
  v193 := Tryd.zeroValue47
  t194 := Tryd.underlying48
  a194 := Tryd.isAgg48
  z194 := Tryd.sizeOf48
  v194 := Tryd.zeroValue48
  t196 := Tryd.underlying50
  a196 := Tryd.isAgg50
  z196 := Tryd.sizeOf50
  v196 := Tryd.zeroValue50
  t198 := Tryd.underlying53
  a198 := Tryd.isAgg53
  z198 := Tryd.sizeOf53
  v198 := Tryd.zeroValue53
  t201 := Tryd.underlying56
  a201 := Tryd.isAgg56
  z201 := Tryd.sizeOf56
  v201 := Tryd.zeroValue56
  t226 := Tryd.underlying60
  a226 := Tryd.isAgg60
  z226 := Tryd.sizeOf60
  v226 := Tryd.zeroValue60
  t227 := Tryd.underlying61
  a227 := Tryd.isAgg61
  z227 := Tryd.sizeOf61
  v227 := Tryd.zeroValue61 }
open Go.RowKit Go.Lib in
theorem Tryd.unicode_isExcludingLatin_white (T oT R oR : Nat) (r : Int) (w : World) (hlo : -2147483648 ≤ r) (hhi : r ≤ 2147483647) (hr : r < 0 ∨ 255 < r) (h2 : w.cell? ⟨T, oT, none⟩ = some (.slice (some ⟨R, oR, none⟩) 7 7)) (h3 : w.cell? ⟨T, oT + 1, none⟩ = some (.slice none 0 0)) (h4 : w.cell? ⟨T, oT + 2, none⟩ = some (.int .i64 2)) (h5 : ∀ i, i < 21 → w.cell? ⟨R, oR + i, none⟩ = some (.int .u16 (whiteT.getD i 0))) :
    Calls Tryd.prog 33 #[.pointer (some ⟨T, oT, none⟩), .int .i32 r] w fun e w' => e = .returned (.bool (Lib.isSpaceZ r)) ∧ Below w.heap.size w w' := Any.unicode_isExcludingLatin_white Tryd.lays261 T oT R oR r w hlo hhi hr h2 h3 h4 h5
open Go.RowKit Go.Lib in
theorem Tryd.unicode_IsSpace_any (r : Int) (w : World) (hlo : -2147483648 ≤ r) (hhi : r ≤ 2147483647) (hW : Lib.WhiteTab 1 w) :
    Calls Tryd.prog 27 #[.int .i32 r] w fun e w' => e = .returned (.bool (Lib.isSpaceZ r)) ∧ Below w.heap.size w w' := Any.unicode_IsSpace_any Tryd.lays199 r w hlo hhi hW
def Tryd.lays271_ren : Go.Shelf.Ren := ⟨fun | 271 => 42 | 120 => 48 | 197 => 35 | 260 => 43 | n => n, fun | 9 => 9 | 21 => 21 | 3 => 3 | 4 => 4 | 5 => 5 | 105 => 43 | 119 => 36 | 0 => 0 | 46 => 59 | 139 => 65 | 138 => 64 | n => n, fun | 3 => 3 | 4 => 4 | n => n⟩
theorem Tryd.lays271 : Go.Proofs.Lays.n271 Tryd.prog Tryd.lays271_ren := {
  mixed := by kernel_rfl
  f120 := Tryd.func48.trans (congrArg some (by kernel_rfl))
  f197 := Tryd.func35.trans (congrArg some (by kernel_rfl))
  f260 := Tryd.func43.trans (congrArg some (by kernel_rfl))
  f271 := Tryd.func42.trans (congrArg some (by kernel_rfl))
  t0 := Tryd.underlying0
  a0 := Tryd.isAgg0
  z0 := Tryd.sizeOf0
  v0 := Tryd.zeroValue0
  t3 := Tryd.underlying3
  a3 := Tryd.isAgg3
  z3 := Tryd.sizeOf3
  v3 := Tryd.zeroValue3
  t4 := Tryd.underlying4
  a4 := Tryd.isAgg4
  z4 := Tryd.sizeOf4
  v4 := Tryd.zeroValue4
  t5 := Tryd.underlying5
  a5 := Tryd.isAgg5
  z5 := Tryd.sizeOf5
  v5 := Tryd.zeroValue5
  t9 := Tryd.underlying9
  a9 := Tryd.isAgg9
  z9 := Tryd.sizeOf9
  v9 := Tryd.zeroValue9
  t21 := Tryd.underlying21
  a21 := Tryd.isAgg21
  z21 := Tryd.sizeOf21
  v21 := Tryd.zeroValue21
  t46 := Tryd.underlying59
  a46 := Tryd.isAgg59
  z46 := Tryd.sizeOf59
  v46 := Tryd.zeroValue59
  t105 := Tryd.underlying43
  a105 := Tryd.isAgg43
  z105 := Tryd.sizeOf43
  v105 := Tryd.zeroValue43
  t119 := Tryd.underlying36
  a119 := Tryd.isAgg36
  z119 := Tryd.sizeOf36
  t138 := Tryd.underlying64
  a138 := Tryd.isAgg64
  z138 := Tryd.sizeOf64
  v138 := Tryd.zeroValue64
  t139 := Tryd.underlying65
  a139 := Tryd.isAgg65
  z139 := Tryd.sizeOf65
  v139 := Tryd.zeroValue65
  g3 := by kernel_rfl
  g4 := by kernel_rfl }
open Go.RowKit Go.Lib in
theorem Tryd.utf8_DecodeLastRuneInString (s : ByteArray) (w : World) (hs : s.size ≤ 9223372036854775807) (hT : Lib.Utf8Tabs 3 4 w) :
    Calls Tryd.prog 42 #[.string s] w fun e w' => e = .returned (.tuple #[.int .i32 (Lib.decodeLastL s.data.toList).1, .int .i64 (Lib.decodeLastL s.data.toList).2]) ∧ Below w.heap.size w w' := Any.utf8_DecodeLastRuneInString Tryd.lays271 s w hs hT
open Go.RowKit in
theorem Tryd.strings_TrimSpace_any (s : ByteArray) (w : World) (hs : s.size ≤ 9223372036854775807) (htab : Lib.TabIs Tryd.prog w "strings.asciiSpace" .u8 Lib.asciiSpaceTab) (hU8 : Lib.Utf8Tabs 3 4 w) (hWS : Lib.WhiteTab 1 w) :
    Calls Tryd.prog 24 #[.string s] w fun e w' => e = .returned (.string ⟨(Lib.trimSpaceD s.data.toList).toArray⟩) ∧ Below w.heap.size w w' := Any.strings_TrimSpace_any Tryd.lays163 Tryd.Space_Extra_163 s w hs htab hU8 hWS
open Go.RowKit Go.Lib in
theorem Tryd.unicode_is16_any (T : Array Rg) (R oR cap : Nat) (z : Nat) (w : World) (hz : z < 65536) (hT : RgTab .u16 R oR T w) (hok : RgOk 65536 T) (hn : T.size ≤ 1000000000) :
    Calls Tryd.prog 40 #[.slice (some ⟨R, oR, none⟩) T.size cap, .int .u16 z] w fun e w' => e = .returned (.bool (is16Go T z)) ∧ ∃ q, w' = w.drewN q := Any.unicode_is16_any Tryd.lays311 T R oR cap z w hz hT hok hn
def Tryd.lays312_ren : Go.Shelf.Ren := ⟨fun | 312 => 41 | n => n, fun | 194 => 48 | 51 => 39 | 4 => 4 | 3 => 3 | 0 => 0 | 227 => 61 | 201 => 56 | 46 => 59 | n => n, fun | n => n⟩
theorem Tryd.lays312 : Go.Proofs.Lays.n312 Tryd.prog Tryd.lays312_ren := {
  mixed := by kernel_rfl
  f312 := Tryd.func41.trans (congrArg some (by kernel_rfl))
  t0 := Tryd.underlying0
  a0 := Tryd.isAgg0
  z0 := Tryd.sizeOf0
  v0 := Tryd.zeroValue0
  t3 := Tryd.underlying3
  a3 := Tryd.isAgg3
  z3 := Tryd.sizeOf3
  v3 := Tryd.zeroValue3
  t4 := Tryd.underlying4
  a4 := Tryd.isAgg4
  z4 := Tryd.sizeOf4
  v4 := Tryd.zeroValue4
  t46 := Tryd.underlying59
  a46 := Tryd.isAgg59
  z46 := Tryd.sizeOf59
  v46 := Tryd.zeroValue59
  t51 := Tryd.underlying39
  a51 := Tryd.isAgg39
  z51 := Tryd.sizeOf39
  v51 := Tryd.zeroValue39
  t194 := Tryd.underlying48
  a194 := Tryd.isAgg48
  z194 := Tryd.sizeOf48
  v194 := Tryd.zeroValue48
  t201 := Tryd.underlying56
  a201 := Tryd.isAgg56
  z201 := Tryd.sizeOf56
  v201 := Tryd.zeroValue56
  t227 := Tryd.underlying61
  a227 := Tryd.isAgg61
  z227 := Tryd.sizeOf61
  v227 := Tryd.zeroValue61 }
open Go.RowKit Go.Lib in
theorem Tryd.unicode_is32_any (T : Array Rg) (R oR cap : Nat) (z : Nat) (w : World) (hz : z < 4294967296) (hT : RgTab .u32 R oR T w) (hok : RgOk 4294967296 T) (hn : T.size ≤ 1000000000) :
    Calls Tryd.prog 41 #[.slice (some ⟨R, oR, none⟩) T.size cap, .int .u32 z] w fun e w' => e = .returned (.bool (is32Go T z)) ∧ Below w.heap.size w w' := Any.unicode_is32_any Tryd.lays312 T R oR cap z w hz hT hok hn
open Go.RowKit Go.Lib in
theorem Tryd.unicode_isExcludingLatin_any (Tb oT : Nat) (T : RTab) (r : Int) (w : World) (hlo : -2147483648 ≤ r) (hhi : r ≤ 2147483647) (hA : RTabAt Tb oT T w) (hok : RTabOk T) :
    Calls Tryd.prog 33 #[.pointer (some ⟨Tb, oT, none⟩), .int .i32 r] w fun e w' => e = .returned (.bool (exclGo T r)) ∧ Below w.heap.size w w' := Any.unicode_isExcludingLatin_any Tryd.lays261 Tb oT T r w hlo hhi hA hok
end Go.Proofs
