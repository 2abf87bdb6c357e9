import Derived.Shelf.Small.Strs
import Derived.Shelf.Strings.Search1
import Derived.Shelf.Strings.Search2
import Derived.Shelf.Strings.Search3
import Derived.Shelf.Strings.Cut
import Derived.Shelf.Strings.Count
import Derived.Shelf.LaysM
import Derived.Shelf.Strings.Shaped
import Derived.Shelf.Strings.Split
import Derived.Shelf.Strings.Fold
import Derived.Shelf.Unicode.DecodeSlow
import Derived.Shelf.Unicode.DecodeAny
import Derived.Shelf.Unicode.CaseLookup
import Derived.Shelf.Unicode.CaseConvert
import Derived.Test.Qxb6606017aFmtProg
namespace Go.Proofs
open Go.Shelf
def Tryf.lays137_ren : Go.Shelf.Ren := ⟨fun | 137 => 31 | 217 => 43 | 266 => 51 | n => n, fun | 9 => 9 | 5 => 5 | 3 => 3 | n => n, fun | n => n⟩
theorem Tryf.lays137 : Go.Proofs.Lays.n137 Tryf.prog Tryf.lays137_ren := {
  mixed := by kernel_rfl
  f137 := Tryf.func31.trans (congrArg some (by kernel_rfl))
  f217 := Tryf.func43.trans (congrArg some (by kernel_rfl))
  f266 := Tryf.func51.trans (congrArg some (by kernel_rfl))
  t3 := Tryf.underlying3
  a3 := Tryf.isAgg3
  z3 := Tryf.sizeOf3
  v3 := Tryf.zeroValue3
  t5 := Tryf.underlying5
  a5 := Tryf.isAgg5
  z5 := Tryf.sizeOf5
  v5 := Tryf.zeroValue5
  t9 := Tryf.underlying9
  a9 := Tryf.isAgg9
  z9 := Tryf.sizeOf9
  v9 := Tryf.zeroValue9 }
open Go.RowKit in
theorem Tryf.strings_IndexByte (s : ByteArray) (c : Int) (w : World) :
    Calls Tryf.prog 31 #[.string s, .int .u8 c] w fun e w' => e = .returned (.int .i64 (Lib.indexByte s.data.toList c.toNat.toUInt8)) ∧ w' = w := Any.strings_IndexByte Tryf.lays137 s c w
def Tryf.lays217_ren : Go.Shelf.Ren := ⟨fun | 217 => 43 | 266 => 51 | n => n, fun | 9 => 9 | 5 => 5 | 3 => 3 | n => n, fun | n => n⟩
theorem Tryf.lays217 : Go.Proofs.Lays.n217 Tryf.prog Tryf.lays217_ren := {
  mixed := by kernel_rfl
  f217 := Tryf.func43.trans (congrArg some (by kernel_rfl))
  f266 := Tryf.func51.trans (congrArg some (by kernel_rfl))
  t3 := Tryf.underlying3
  a3 := Tryf.isAgg3
  z3 := Tryf.sizeOf3
  v3 := Tryf.zeroValue3
  t5 := Tryf.underlying5
  a5 := Tryf.isAgg5
  z5 := Tryf.sizeOf5
  v5 := Tryf.zeroValue5
  t9 := Tryf.underlying9
  a9 := Tryf.isAgg9
  z9 := Tryf.sizeOf9
  v9 := Tryf.zeroValue9 }
open Go.RowKit Go.Lib in
theorem Tryf.stringslite_IndexByte (s : ByteArray) (c : Int) (w : World) :
    Calls Tryf.prog 43 #[.string s, .int .u8 c] w fun e w' => e = .returned (.int .i64 (Lib.indexByte s.data.toList c.toNat.toUInt8)) ∧ w' = w := Any.stringslite_IndexByte Tryf.lays217 s c w
def Tryf.lays224_ren : Go.Shelf.Ren := ⟨fun | 224 => 55 | n => n, fun | 3 => 3 | n => n, fun | n => n⟩
theorem Tryf.lays224 : Go.Proofs.Lays.n224 Tryf.prog Tryf.lays224_ren := {
  mixed := by kernel_rfl
  f224 := Tryf.func55.trans (congrArg some (by kernel_rfl))
  t3 := Tryf.underlying3
  a3 := Tryf.isAgg3
  z3 := Tryf.sizeOf3
  v3 := Tryf.zeroValue3 }
open Go.RowKit Go.Lib in
theorem Tryf.bytealg_Cutover (n : Int) (h0 : 0 ≤ n) (h1 : n < 4611686018427387904) (w : World) :
    Calls Tryf.prog 55 #[.int .i64 n] w fun e w' => e = .returned (.int .i64 ((n + 16) / 8)) ∧ w' = w := Any.bytealg_Cutover Tryf.lays224 n h0 h1 w
def Tryf.lays314_ren : Go.Shelf.Ren := ⟨fun | 314 => 61 | n => n, fun | 9 => 9 | 51 => 94 | 3 => 3 | 4 => 4 | 5 => 5 | 46 => 68 | n => n, fun | n => n⟩
theorem Tryf.lays314 : Go.Proofs.Lays.n314 Tryf.prog Tryf.lays314_ren := {
  mixed := by kernel_rfl
  f314 := Tryf.func61.trans (congrArg some (by kernel_rfl))
  t3 := Tryf.underlying3
  a3 := Tryf.isAgg3
  z3 := Tryf.sizeOf3
  v3 := Tryf.zeroValue3
  t4 := Tryf.underlying4
  a4 := Tryf.isAgg4
  z4 := Tryf.sizeOf4
  v4 := Tryf.zeroValue4
  t5 := Tryf.underlying5
  a5 := Tryf.isAgg5
  z5 := Tryf.sizeOf5
  v5 := Tryf.zeroValue5
  t9 := Tryf.underlying9
  a9 := Tryf.isAgg9
  z9 := Tryf.sizeOf9
  v9 := Tryf.zeroValue9
  t46 := Tryf.underlying68
  a46 := Tryf.isAgg68
  z46 := Tryf.sizeOf68
  v46 := Tryf.zeroValue68
  t51 := Tryf.underlying94
  a51 := Tryf.isAgg94
  z51 := Tryf.sizeOf94
  v51 := Tryf.zeroValue94 }
open Go.RowKit Go.Lib in
theorem Tryf.bytealg_hashStr (sep : ByteArray) (hs : sep.size < 4294967281) (w : World) :
    Calls Tryf.prog 61 #[.string sep] w fun e w' => e = .returned (.tuple #[.int .u32 (RK.H sep.data.toList % 4294967296), .int .u32 (16777619 ^ sep.size % 4294967296)]) ∧ w' = w := Any.bytealg_hashStr Tryf.lays314 sep hs w
def Tryf.lays267_ren : Go.Shelf.Ren := ⟨fun | 267 => 56 | 314 => 61 | n => n, fun | 9 => 9 | 3 => 3 | 146 => 99 | 51 => 94 | 4 => 4 | 5 => 5 | 46 => 68 | n => n, fun | n => n⟩
theorem Tryf.lays267 : Go.Proofs.Lays.n267 Tryf.prog Tryf.lays267_ren := {
  mixed := by kernel_rfl
  f267 := Tryf.func56.trans (congrArg some (by kernel_rfl))
  f314 := Tryf.func61.trans (congrArg some (by kernel_rfl))
  t3 := Tryf.underlying3
  a3 := Tryf.isAgg3
  z3 := Tryf.sizeOf3
  v3 := Tryf.zeroValue3
  t4 := Tryf.underlying4
  a4 := Tryf.isAgg4
  z4 := Tryf.sizeOf4
  v4 := Tryf.zeroValue4
  t5 := Tryf.underlying5
  a5 := Tryf.isAgg5
  z5 := Tryf.sizeOf5
  v5 := Tryf.zeroValue5
  t9 := Tryf.underlying9
  a9 := Tryf.isAgg9
  z9 := Tryf.sizeOf9
  v9 := Tryf.zeroValue9
  t46 := Tryf.underlying68
  a46 := Tryf.isAgg68
  z46 := Tryf.sizeOf68
  v46 := Tryf.zeroValue68
  t51 := Tryf.underlying94
  a51 := Tryf.isAgg94
  z51 := Tryf.sizeOf94
  v51 := Tryf.zeroValue94
  t146 := Tryf.underlying99
  a146 := Tryf.isAgg99
  z146 := Tryf.sizeOf99
  v146 := Tryf.zeroValue99 }
open Go.RowKit Go.Lib in
theorem Tryf.bytealg_IndexRabinKarp (s sep : ByteArray) (h1 : 1 ≤ sep.size) (h2 : sep.size ≤ s.size) (hs : s.size < 4294967281) (w : World) :
    Calls Tryf.prog 56 #[.string s, .string sep] w fun e w' => e = .returned (.int .i64 (Lib.index s.data.toList sep.data.toList)) ∧ w' = w := Any.bytealg_IndexRabinKarp Tryf.lays267 s sep h1 h2 hs w
def Tryf.lays219_ren : Go.Shelf.Ren := ⟨fun | 219 => 45 | 217 => 43 | 225 => 54 | 224 => 55 | 267 => 56 | 266 => 51 | 314 => 61 | n => n, fun | 9 => 9 | 3 => 3 | 4 => 4 | 5 => 5 | 46 => 68 | 146 => 99 | 51 => 94 | n => n, fun | 1 => 5 | n => n⟩
theorem Tryf.lays219 : Go.Proofs.Lays.n219 Tryf.prog Tryf.lays219_ren := {
  mixed := by kernel_rfl
  f217 := Tryf.func43.trans (congrArg some (by kernel_rfl))
  f219 := Tryf.func45.trans (congrArg some (by kernel_rfl))
  f224 := Tryf.func55.trans (congrArg some (by kernel_rfl))
  f225 := Tryf.func54.trans (congrArg some (by kernel_rfl))
  f266 := Tryf.func51.trans (congrArg some (by kernel_rfl))
  f267 := Tryf.func56.trans (congrArg some (by kernel_rfl))
  f314 := Tryf.func61.trans (congrArg some (by kernel_rfl))
  t3 := Tryf.underlying3
  a3 := Tryf.isAgg3
  z3 := Tryf.sizeOf3
  v3 := Tryf.zeroValue3
  t4 := Tryf.underlying4
  a4 := Tryf.isAgg4
  z4 := Tryf.sizeOf4
  v4 := Tryf.zeroValue4
  t5 := Tryf.underlying5
  a5 := Tryf.isAgg5
  z5 := Tryf.sizeOf5
  v5 := Tryf.zeroValue5
  t9 := Tryf.underlying9
  a9 := Tryf.isAgg9
  z9 := Tryf.sizeOf9
  v9 := Tryf.zeroValue9
  t46 := Tryf.underlying68
  a46 := Tryf.isAgg68
  z46 := Tryf.sizeOf68
  v46 := Tryf.zeroValue68
  t51 := Tryf.underlying94
  a51 := Tryf.isAgg94
  z51 := Tryf.sizeOf94
  v51 := Tryf.zeroValue94
  t146 := Tryf.underlying99
  a146 := Tryf.isAgg99
  z146 := Tryf.sizeOf99
  v146 := Tryf.zeroValue99
  g1 := by kernel_rfl }
open Go.RowKit Go.Lib in
theorem Tryf.stringslite_Index_one (s : ByteArray) (c : UInt8) (w : World) :
    Calls Tryf.prog 45 #[.string s, .string ⟨#[c]⟩] w fun e w' => e = .returned (.int .i64 (Lib.indexByte s.data.toList c)) ∧ w' = w := Any.stringslite_Index_one Tryf.lays219 s c w
open Go.RowKit Go.Lib in
theorem Tryf.stringslite_Index (s sub : ByteArray) (m : Int) (w : World) (hs : s.size < 4294967281) (hm : w.cell? ⟨5, 0, none⟩ = some (.int .i64 m)) :
    Calls Tryf.prog 45 #[.string s, .string sub] w fun e w' => e = .returned (.int .i64 (Lib.index s.data.toList sub.data.toList)) ∧ w' = w := Any.stringslite_Index Tryf.lays219 s sub m w hs hm
def Tryf.lays143_ren : Go.Shelf.Ren := ⟨fun | 143 => 33 | 219 => 45 | 217 => 43 | 225 => 54 | 224 => 55 | 267 => 56 | 266 => 51 | 314 => 61 | n => n, fun | 9 => 9 | 3 => 3 | 4 => 4 | 5 => 5 | 46 => 68 | 146 => 99 | 51 => 94 | n => n, fun | 1 => 5 | n => n⟩
theorem Tryf.lays143 : Go.Proofs.Lays.n143 Tryf.prog Tryf.lays143_ren := {
  mixed := by kernel_rfl
  f143 := Tryf.func33.trans (congrArg some (by kernel_rfl))
  f217 := Tryf.func43.trans (congrArg some (by kernel_rfl))
  f219 := Tryf.func45.trans (congrArg some (by kernel_rfl))
  f224 := Tryf.func55.trans (congrArg some (by kernel_rfl))
  f225 := Tryf.func54.trans (congrArg some (by kernel_rfl))
  f266 := Tryf.func51.trans (congrArg some (by kernel_rfl))
  f267 := Tryf.func56.trans (congrArg some (by kernel_rfl))
  f314 := Tryf.func61.trans (congrArg some (by kernel_rfl))
  t3 := Tryf.underlying3
  a3 := Tryf.isAgg3
  z3 := Tryf.sizeOf3
  v3 := Tryf.zeroValue3
  t4 := Tryf.underlying4
  a4 := Tryf.isAgg4
  z4 := Tryf.sizeOf4
  v4 := Tryf.zeroValue4
  t5 := Tryf.underlying5
  a5 := Tryf.isAgg5
  z5 := Tryf.sizeOf5
  v5 := Tryf.zeroValue5
  t9 := Tryf.underlying9
  a9 := Tryf.isAgg9
  z9 := Tryf.sizeOf9
  v9 := Tryf.zeroValue9
  t46 := Tryf.underlying68
  a46 := Tryf.isAgg68
  z46 := Tryf.sizeOf68
  v46 := Tryf.zeroValue68
  t51 := Tryf.underlying94
  a51 := Tryf.isAgg94
  z51 := Tryf.sizeOf94
  v51 := Tryf.zeroValue94
  t146 := Tryf.underlying99
  a146 := Tryf.isAgg99
  z146 := Tryf.sizeOf99
  v146 := Tryf.zeroValue99
  g1 := by kernel_rfl }
open Go.RowKit Go.Lib in
theorem Tryf.strings_Index_one (s : ByteArray) (c : UInt8) (w : World) :
    Calls Tryf.prog 33 #[.string s, .string ⟨#[c]⟩] w fun e w' => e = .returned (.int .i64 (Lib.indexByte s.data.toList c)) ∧ w' = w := Any.strings_Index_one Tryf.lays143 s c w
open Go.RowKit Go.Lib in
theorem Tryf.strings_Index (s sub : ByteArray) (m : Int) (w : World) (hs : s.size < 4294967281) (hm : w.cell? ⟨5, 0, none⟩ = some (.int .i64 m)) :
    Calls Tryf.prog 33 #[.string s, .string sub] w fun e w' => e = .returned (.int .i64 (Lib.index s.data.toList sub.data.toList)) ∧ w' = w := Any.strings_Index Tryf.lays143 s sub m w hs hm
def Tryf.lays220_ren : Go.Shelf.Ren := ⟨fun | 220 => 40 | 219 => 45 | 217 => 43 | 225 => 54 | 224 => 55 | 267 => 56 | 266 => 51 | 314 => 61 | n => n, fun | 9 => 9 | 4 => 4 | 3 => 3 | 5 => 5 | 46 => 68 | 146 => 99 | 51 => 94 | n => n, fun | 1 => 5 | n => n⟩
theorem Tryf.lays220 : Go.Proofs.Lays.n220 Tryf.prog Tryf.lays220_ren := {
  mixed := by kernel_rfl
  f217 := Tryf.func43.trans (congrArg some (by kernel_rfl))
  f219 := Tryf.func45.trans (congrArg some (by kernel_rfl))
  f220 := Tryf.func40.trans (congrArg some (by kernel_rfl))
  f224 := Tryf.func55.trans (congrArg some (by kernel_rfl))
  f225 := Tryf.func54.trans (congrArg some (by kernel_rfl))
  f266 := Tryf.func51.trans (congrArg some (by kernel_rfl))
  f267 := Tryf.func56.trans (congrArg some (by kernel_rfl))
  f314 := Tryf.func61.trans (congrArg some (by kernel_rfl))
  t3 := Tryf.underlying3
  a3 := Tryf.isAgg3
  z3 := Tryf.sizeOf3
  v3 := Tryf.zeroValue3
  t4 := Tryf.underlying4
  a4 := Tryf.isAgg4
  z4 := Tryf.sizeOf4
  v4 := Tryf.zeroValue4
  t5 := Tryf.underlying5
  a5 := Tryf.isAgg5
  z5 := Tryf.sizeOf5
  v5 := Tryf.zeroValue5
  t9 := Tryf.underlying9
  a9 := Tryf.isAgg9
  z9 := Tryf.sizeOf9
  v9 := Tryf.zeroValue9
  t46 := Tryf.underlying68
  a46 := Tryf.isAgg68
  z46 := Tryf.sizeOf68
  v46 := Tryf.zeroValue68
  t51 := Tryf.underlying94
  a51 := Tryf.isAgg94
  z51 := Tryf.sizeOf94
  v51 := Tryf.zeroValue94
  t146 := Tryf.underlying99
  a146 := Tryf.isAgg99
  z146 := Tryf.sizeOf99
  v146 := Tryf.zeroValue99
  g1 := by kernel_rfl }
open Go.RowKit Go.Lib in
theorem Tryf.stringslite_Cut (s sep : ByteArray) (m : Int) (w : World) (hs : s.size < 4294967281) (hm : w.cell? ⟨5, 0, none⟩ = some (.int .i64 m)) :
    Calls Tryf.prog 40 #[.string s, .string sep] w fun e w' => e = .returned (.tuple #[.string ⟨(Lib.cut s.data.toList sep.data.toList).1.toArray⟩, .string ⟨(Lib.cut s.data.toList sep.data.toList).2.1.toArray⟩, .bool (Lib.cut s.data.toList sep.data.toList).2.2]) ∧ ∃ n, w' = w.drewN n := Any.stringslite_Cut Tryf.lays220 s sep m w hs hm
def Tryf.lays145_ren : Go.Shelf.Ren := ⟨fun | 145 => 29 | 220 => 40 | 219 => 45 | 217 => 43 | 225 => 54 | 224 => 55 | 267 => 56 | 266 => 51 | 314 => 61 | n => n, fun | 9 => 9 | 4 => 4 | 59 => 60 | 3 => 3 | 5 => 5 | 46 => 68 | 146 => 99 | 51 => 94 | n => n, fun | 1 => 5 | n => n⟩
theorem Tryf.lays145 : Go.Proofs.Lays.n145 Tryf.prog Tryf.lays145_ren := {
  mixed := by kernel_rfl
  f145 := Tryf.func29.trans (congrArg some (by kernel_rfl))
  f217 := Tryf.func43.trans (congrArg some (by kernel_rfl))
  f219 := Tryf.func45.trans (congrArg some (by kernel_rfl))
  f220 := Tryf.func40.trans (congrArg some (by kernel_rfl))
  f224 := Tryf.func55.trans (congrArg some (by kernel_rfl))
  f225 := Tryf.func54.trans (congrArg some (by kernel_rfl))
  f266 := Tryf.func51.trans (congrArg some (by kernel_rfl))
  f267 := Tryf.func56.trans (congrArg some (by kernel_rfl))
  f314 := Tryf.func61.trans (congrArg some (by kernel_rfl))
  t3 := Tryf.underlying3
  a3 := Tryf.isAgg3
  z3 := Tryf.sizeOf3
  v3 := Tryf.zeroValue3
  t4 := Tryf.underlying4
  a4 := Tryf.isAgg4
  z4 := Tryf.sizeOf4
  v4 := Tryf.zeroValue4
  t5 := Tryf.underlying5
  a5 := Tryf.isAgg5
  z5 := Tryf.sizeOf5
  v5 := Tryf.zeroValue5
  t9 := Tryf.underlying9
  a9 := Tryf.isAgg9
  z9 := Tryf.sizeOf9
  v9 := Tryf.zeroValue9
  t46 := Tryf.underlying68
  a46 := Tryf.isAgg68
  z46 := Tryf.sizeOf68
  v46 := Tryf.zeroValue68
  t51 := Tryf.underlying94
  a51 := Tryf.isAgg94
  z51 := Tryf.sizeOf94
  v51 := Tryf.zeroValue94
  t59 := Tryf.underlying60
  a59 := Tryf.isAgg60
  z59 := Tryf.sizeOf60
  v59 := Tryf.zeroValue60
  t146 := Tryf.underlying99
  a146 := Tryf.isAgg99
  z146 := Tryf.sizeOf99
  v146 := Tryf.zeroValue99
  g1 := by kernel_rfl }
open Go.RowKit Go.Lib in
theorem Tryf.strings_Cut (s sep : ByteArray) (m : Int) (w : World) (hs : s.size < 4294967281) (hm : w.cell? ⟨5, 0, none⟩ = some (.int .i64 m)) :
    Calls Tryf.prog 29 #[.string s, .string sep] w fun e w' => e = .returned (.tuple #[.string ⟨(Lib.cut s.data.toList sep.data.toList).1.toArray⟩, .string ⟨(Lib.cut s.data.toList sep.data.toList).2.1.toArray⟩, .bool (Lib.cut s.data.toList sep.data.toList).2.2]) ∧ ∃ n, w' = w.drewN n := Any.strings_Cut Tryf.lays145 s sep m w hs hm
def Tryf.lays138_ren : Go.Shelf.Ren := ⟨fun | 138 => 41 | 195 => 49 | 218 => 50 | 143 => 33 | 219 => 45 | 217 => 43 | 225 => 54 | 224 => 55 | 267 => 56 | 266 => 51 | 314 => 61 | n => n, fun | 9 => 9 | 3 => 3 | 4 => 4 | 5 => 5 | 0 => 0 | 46 => 68 | 146 => 99 | 51 => 94 | n => n, fun | 1 => 5 | n => n⟩
theorem Tryf.lays138 : Go.Proofs.Lays.n138 Tryf.prog Tryf.lays138_ren := {
  mixed := by kernel_rfl
  f138 := Tryf.func41.trans (congrArg some (by kernel_rfl))
  f143 := Tryf.func33.trans (congrArg some (by kernel_rfl))
  f195 := Tryf.func49.trans (congrArg some (by kernel_rfl))
  f217 := Tryf.func43.trans (congrArg some (by kernel_rfl))
  f218 := Tryf.func50.trans (congrArg some (by kernel_rfl))
  f219 := Tryf.func45.trans (congrArg some (by kernel_rfl))
  f224 := Tryf.func55.trans (congrArg some (by kernel_rfl))
  f225 := Tryf.func54.trans (congrArg some (by kernel_rfl))
  f266 := Tryf.func51.trans (congrArg some (by kernel_rfl))
  f267 := Tryf.func56.trans (congrArg some (by kernel_rfl))
  f314 := Tryf.func61.trans (congrArg some (by kernel_rfl))
  t0 := Tryf.underlying0
  a0 := Tryf.isAgg0
  z0 := Tryf.sizeOf0
  v0 := Tryf.zeroValue0
  t3 := Tryf.underlying3
  a3 := Tryf.isAgg3
  z3 := Tryf.sizeOf3
  v3 := Tryf.zeroValue3
  t4 := Tryf.underlying4
  a4 := Tryf.isAgg4
  z4 := Tryf.sizeOf4
  v4 := Tryf.zeroValue4
  t5 := Tryf.underlying5
  a5 := Tryf.isAgg5
  z5 := Tryf.sizeOf5
  v5 := Tryf.zeroValue5
  t9 := Tryf.underlying9
  a9 := Tryf.isAgg9
  z9 := Tryf.sizeOf9
  v9 := Tryf.zeroValue9
  t46 := Tryf.underlying68
  a46 := Tryf.isAgg68
  z46 := Tryf.sizeOf68
  v46 := Tryf.zeroValue68
  t51 := Tryf.underlying94
  a51 := Tryf.isAgg94
  z51 := Tryf.sizeOf94
  v51 := Tryf.zeroValue94
  t146 := Tryf.underlying99
  a146 := Tryf.isAgg99
  z146 := Tryf.sizeOf99
  v146 := Tryf.zeroValue99
  g1 := by kernel_rfl }
open Go.RowKit Go.Lib in
theorem Tryf.strings_Count_one (s : ByteArray) (c : UInt8) (w : World) :
    Calls Tryf.prog 41 #[.string s, .string ⟨#[c]⟩] w fun e w' => e = .returned (.int .i64 (Lib.countByte s.data.toList c)) ∧ w' = w := Any.strings_Count_one Tryf.lays138 s c w
open Go.RowKit Go.Lib in
theorem Tryf.strings_Count (s sub : ByteArray) (m : Int) (w : World) (hs : s.size < 4294967281) (hm : w.cell? ⟨5, 0, none⟩ = some (.int .i64 m)) (h2 : 2 ≤ sub.size) :
    Calls Tryf.prog 41 #[.string s, .string sub] w fun e w' => e = .returned (.int .i64 (Lib.countB s sub)) ∧ w' = w := Any.strings_Count Tryf.lays138 s sub m w hs hm h2
def Tryf.laysM219_ren : Go.Shelf.Ren := ⟨fun | 219 => 45 | 217 => 43 | 225 => 54 | 224 => 55 | 267 => 56 | 266 => 51 | 314 => 61 | n => n, fun | 9 => 9 | 3 => 3 | 4 => 4 | 5 => 5 | 46 => 68 | 146 => 99 | 51 => 94 | n => n, fun | 1 => 5 | n => n⟩
theorem Tryf.laysM219 : Go.Proofs.LaysM.n219 Tryf.prog Tryf.laysM219_ren := {
  mixed := by kernel_rfl
  f217 := Tryf.func43.trans (congrArg some (by kernel_rfl))
  f219 := Tryf.func45.trans (congrArg some (by kernel_rfl))
  f224 := Tryf.func55.trans (congrArg some (by kernel_rfl))
  f225 := Tryf.func54.trans (congrArg some (by kernel_rfl))
  f266 := Tryf.func51.trans (congrArg some (by kernel_rfl))
  f267 := Tryf.func56.trans (congrArg some (by kernel_rfl))
  f314 := Tryf.func61.trans (congrArg some (by kernel_rfl))
  t3 := Tryf.underlying3
  a3 := Tryf.isAgg3
  z3 := Tryf.sizeOf3
  v3 := Tryf.zeroValue3
  t4 := Tryf.underlying4
  a4 := Tryf.isAgg4
  z4 := Tryf.sizeOf4
  v4 := Tryf.zeroValue4
  t5 := Tryf.underlying5
  a5 := Tryf.isAgg5
  z5 := Tryf.sizeOf5
  v5 := Tryf.zeroValue5
  t9 := Tryf.underlying9
  a9 := Tryf.isAgg9
  z9 := Tryf.sizeOf9
  v9 := Tryf.zeroValue9
  t46 := Tryf.underlying68
  a46 := Tryf.isAgg68
  z46 := Tryf.sizeOf68
  v46 := Tryf.zeroValue68
  t51 := Tryf.underlying94
  a51 := Tryf.isAgg94
  z51 := Tryf.sizeOf94
  v51 := Tryf.zeroValue94
  t146 := Tryf.underlying99
  a146 := Tryf.isAgg99
  z146 := Tryf.sizeOf99
  v146 := Tryf.zeroValue99
  g1 := by kernel_rfl
  i3 := by kernel_rfl
  i4 := by kernel_rfl
  i5 := by kernel_rfl
  i9 := by kernel_rfl
  i46 := by kernel_rfl
  i51 := by kernel_rfl
  i146 := by kernel_rfl
  m1 := by kernel_rfl
  s1_3 := fun w h => Go.Proofs.cell_of_shapedOpen_int (zero := #[.int .i64 0]) (t := 3) h (of_decide_eq_true (by kernel_rfl)) (by kernel_rfl) rfl (by kernel_rfl) (by kernel_rfl) Tryf.underlying3 }
open Go.RowKit Go.Lib in
theorem Tryf.stringslite_Index_shaped (s sub : ByteArray) (w : World) (h : w.ShapedOpen Tryf.prog) (hs : s.size < 4294967281) :
    Calls Tryf.prog 45 #[.string s, .string sub] w fun e w' => e = .returned (.int .i64 (Lib.index s.data.toList sub.data.toList)) ∧ w' = w := Any.stringslite_Index_shaped Tryf.laysM219 s sub w h hs
def Tryf.laysM143_ren : Go.Shelf.Ren := ⟨fun | 143 => 33 | 219 => 45 | 217 => 43 | 225 => 54 | 224 => 55 | 267 => 56 | 266 => 51 | 314 => 61 | n => n, fun | 9 => 9 | 3 => 3 | 4 => 4 | 5 => 5 | 46 => 68 | 146 => 99 | 51 => 94 | n => n, fun | 1 => 5 | n => n⟩
theorem Tryf.laysM143 : Go.Proofs.LaysM.n143 Tryf.prog Tryf.laysM143_ren := {
  mixed := by kernel_rfl
  f143 := Tryf.func33.trans (congrArg some (by kernel_rfl))
  f217 := Tryf.func43.trans (congrArg some (by kernel_rfl))
  f219 := Tryf.func45.trans (congrArg some (by kernel_rfl))
  f224 := Tryf.func55.trans (congrArg some (by kernel_rfl))
  f225 := Tryf.func54.trans (congrArg some (by kernel_rfl))
  f266 := Tryf.func51.trans (congrArg some (by kernel_rfl))
  f267 := Tryf.func56.trans (congrArg some (by kernel_rfl))
  f314 := Tryf.func61.trans (congrArg some (by kernel_rfl))
  t3 := Tryf.underlying3
  a3 := Tryf.isAgg3
  z3 := Tryf.sizeOf3
  v3 := Tryf.zeroValue3
  t4 := Tryf.underlying4
  a4 := Tryf.isAgg4
  z4 := Tryf.sizeOf4
  v4 := Tryf.zeroValue4
  t5 := Tryf.underlying5
  a5 := Tryf.isAgg5
  z5 := Tryf.sizeOf5
  v5 := Tryf.zeroValue5
  t9 := Tryf.underlying9
  a9 := Tryf.isAgg9
  z9 := Tryf.sizeOf9
  v9 := Tryf.zeroValue9
  t46 := Tryf.underlying68
  a46 := Tryf.isAgg68
  z46 := Tryf.sizeOf68
  v46 := Tryf.zeroValue68
  t51 := Tryf.underlying94
  a51 := Tryf.isAgg94
  z51 := Tryf.sizeOf94
  v51 := Tryf.zeroValue94
  t146 := Tryf.underlying99
  a146 := Tryf.isAgg99
  z146 := Tryf.sizeOf99
  v146 := Tryf.zeroValue99
  g1 := by kernel_rfl
  i3 := by kernel_rfl
  i4 := by kernel_rfl
  i5 := by kernel_rfl
  i9 := by kernel_rfl
  i46 := by kernel_rfl
  i51 := by kernel_rfl
  i146 := by kernel_rfl
  m1 := by kernel_rfl
  s1_3 := fun w h => Go.Proofs.cell_of_shapedOpen_int (zero := #[.int .i64 0]) (t := 3) h (of_decide_eq_true (by kernel_rfl)) (by kernel_rfl) rfl (by kernel_rfl) (by kernel_rfl) Tryf.underlying3 }
open Go.RowKit Go.Lib in
theorem Tryf.strings_Index_shaped (s sub : ByteArray) (w : World) (h : w.ShapedOpen Tryf.prog) (hs : s.size < 4294967281) :
    Calls Tryf.prog 33 #[.string s, .string sub] w fun e w' => e = .returned (.int .i64 (Lib.index s.data.toList sub.data.toList)) ∧ w' = w := Any.strings_Index_shaped Tryf.laysM143 s sub w h hs
def Tryf.laysM220_ren : Go.Shelf.Ren := ⟨fun | 220 => 40 | 219 => 45 | 217 => 43 | 225 => 54 | 224 => 55 | 267 => 56 | 266 => 51 | 314 => 61 | n => n, fun | 9 => 9 | 4 => 4 | 3 => 3 | 5 => 5 | 46 => 68 | 146 => 99 | 51 => 94 | n => n, fun | 1 => 5 | n => n⟩
theorem Tryf.laysM220 : Go.Proofs.LaysM.n220 Tryf.prog Tryf.laysM220_ren := {
  mixed := by kernel_rfl
  f217 := Tryf.func43.trans (congrArg some (by kernel_rfl))
  f219 := Tryf.func45.trans (congrArg some (by kernel_rfl))
  f220 := Tryf.func40.trans (congrArg some (by kernel_rfl))
  f224 := Tryf.func55.trans (congrArg some (by kernel_rfl))
  f225 := Tryf.func54.trans (congrArg some (by kernel_rfl))
  f266 := Tryf.func51.trans (congrArg some (by kernel_rfl))
  f267 := Tryf.func56.trans (congrArg some (by kernel_rfl))
  f314 := Tryf.func61.trans (congrArg some (by kernel_rfl))
  t3 := Tryf.underlying3
  a3 := Tryf.isAgg3
  z3 := Tryf.sizeOf3
  v3 := Tryf.zeroValue3
  t4 := Tryf.underlying4
  a4 := Tryf.isAgg4
  z4 := Tryf.sizeOf4
  v4 := Tryf.zeroValue4
  t5 := Tryf.underlying5
  a5 := Tryf.isAgg5
  z5 := Tryf.sizeOf5
  v5 := Tryf.zeroValue5
  t9 := Tryf.underlying9
  a9 := Tryf.isAgg9
  z9 := Tryf.sizeOf9
  v9 := Tryf.zeroValue9
  t46 := Tryf.underlying68
  a46 := Tryf.isAgg68
  z46 := Tryf.sizeOf68
  v46 := Tryf.zeroValue68
  t51 := Tryf.underlying94
  a51 := Tryf.isAgg94
  z51 := Tryf.sizeOf94
  v51 := Tryf.zeroValue94
  t146 := Tryf.underlying99
  a146 := Tryf.isAgg99
  z146 := Tryf.sizeOf99
  v146 := Tryf.zeroValue99
  g1 := by kernel_rfl
  i3 := by kernel_rfl
  i4 := by kernel_rfl
  i5 := by kernel_rfl
  i9 := by kernel_rfl
  i46 := by kernel_rfl
  i51 := by kernel_rfl
  i146 := by kernel_rfl
  m1 := by kernel_rfl
  s1_3 := fun w h => Go.Proofs.cell_of_shapedOpen_int (zero := #[.int .i64 0]) (t := 3) h (of_decide_eq_true (by kernel_rfl)) (by kernel_rfl) rfl (by kernel_rfl) (by kernel_rfl) Tryf.underlying3 }
open Go.RowKit Go.Lib in
theorem Tryf.stringslite_Cut_shaped (s sep : ByteArray) (w : World) (h : w.ShapedOpen Tryf.prog) (hs : s.size < 4294967281) :
    Calls Tryf.prog 40 #[.string s, .string sep] w fun e w' => e = .returned (.tuple #[.string ⟨(Lib.cut s.data.toList sep.data.toList).1.toArray⟩, .string ⟨(Lib.cut s.data.toList sep.data.toList).2.1.toArray⟩, .bool (Lib.cut s.data.toList sep.data.toList).2.2]) ∧ ∃ n, w' = w.drewN n := Any.stringslite_Cut_shaped Tryf.laysM220 s sep w h hs
def Tryf.laysM145_ren : Go.Shelf.Ren := ⟨fun | 145 => 29 | 220 => 40 | 219 => 45 | 217 => 43 | 225 => 54 | 224 => 55 | 267 => 56 | 266 => 51 | 314 => 61 | n => n, fun | 9 => 9 | 4 => 4 | 59 => 60 | 3 => 3 | 5 => 5 | 46 => 68 | 146 => 99 | 51 => 94 | n => n, fun | 1 => 5 | n => n⟩
theorem Tryf.laysM145 : Go.Proofs.LaysM.n145 Tryf.prog Tryf.laysM145_ren := {
  mixed := by kernel_rfl
  f145 := Tryf.func29.trans (congrArg some (by kernel_rfl))
  f217 := Tryf.func43.trans (congrArg some (by kernel_rfl))
  f219 := Tryf.func45.trans (congrArg some (by kernel_rfl))
  f220 := Tryf.func40.trans (congrArg some (by kernel_rfl))
  f224 := Tryf.func55.trans (congrArg some (by kernel_rfl))
  f225 := Tryf.func54.trans (congrArg some (by kernel_rfl))
  f266 := Tryf.func51.trans (congrArg some (by kernel_rfl))
  f267 := Tryf.func56.trans (congrArg some (by kernel_rfl))
  f314 := Tryf.func61.trans (congrArg some (by kernel_rfl))
  t3 := Tryf.underlying3
  a3 := Tryf.isAgg3
  z3 := Tryf.sizeOf3
  v3 := Tryf.zeroValue3
  t4 := Tryf.underlying4
  a4 := Tryf.isAgg4
  z4 := Tryf.sizeOf4
  v4 := Tryf.zeroValue4
  t5 := Tryf.underlying5
  a5 := Tryf.isAgg5
  z5 := Tryf.sizeOf5
  v5 := Tryf.zeroValue5
  t9 := Tryf.underlying9
  a9 := Tryf.isAgg9
  z9 := Tryf.sizeOf9
  v9 := Tryf.zeroValue9
  t46 := Tryf.underlying68
  a46 := Tryf.isAgg68
  z46 := Tryf.sizeOf68
  v46 := Tryf.zeroValue68
  t51 := Tryf.underlying94
  a51 := Tryf.isAgg94
  z51 := Tryf.sizeOf94
  v51 := Tryf.zeroValue94
  t59 := Tryf.underlying60
  a59 := Tryf.isAgg60
  z59 := Tryf.sizeOf60
  v59 := Tryf.zeroValue60
  t146 := Tryf.underlying99
  a146 := Tryf.isAgg99
  z146 := Tryf.sizeOf99
  v146 := Tryf.zeroValue99
  g1 := by kernel_rfl
  i3 := by kernel_rfl
  i4 := by kernel_rfl
  i5 := by kernel_rfl
  i9 := by kernel_rfl
  i46 := by kernel_rfl
  i51 := by kernel_rfl
  i59 := by kernel_rfl
  i146 := by kernel_rfl
  m1 := by kernel_rfl
  s1_3 := fun w h => Go.Proofs.cell_of_shapedOpen_int (zero := #[.int .i64 0]) (t := 3) h (of_decide_eq_true (by kernel_rfl)) (by kernel_rfl) rfl (by kernel_rfl) (by kernel_rfl) Tryf.underlying3 }
open Go.RowKit Go.Lib in
theorem Tryf.strings_Cut_shaped (s sep : ByteArray) (w : World) (h : w.ShapedOpen Tryf.prog) (hs : s.size < 4294967281) :
    Calls Tryf.prog 29 #[.string s, .string sep] w fun e w' => e = .returned (.tuple #[.string ⟨(Lib.cut s.data.toList sep.data.toList).1.toArray⟩, .string ⟨(Lib.cut s.data.toList sep.data.toList).2.1.toArray⟩, .bool (Lib.cut s.data.toList sep.data.toList).2.2]) ∧ ∃ n, w' = w.drewN n := Any.strings_Cut_shaped Tryf.laysM145 s sep w h hs
def Tryf.laysM138_ren : Go.Shelf.Ren := ⟨fun | 138 => 41 | 195 => 49 | 218 => 50 | 143 => 33 | 219 => 45 | 217 => 43 | 225 => 54 | 224 => 55 | 267 => 56 | 266 => 51 | 314 => 61 | n => n, fun | 9 => 9 | 3 => 3 | 4 => 4 | 5 => 5 | 0 => 0 | 46 => 68 | 146 => 99 | 51 => 94 | n => n, fun | 1 => 5 | n => n⟩
theorem Tryf.laysM138 : Go.Proofs.LaysM.n138 Tryf.prog Tryf.laysM138_ren := {
  mixed := by kernel_rfl
  f138 := Tryf.func41.trans (congrArg some (by kernel_rfl))
  f143 := Tryf.func33.trans (congrArg some (by kernel_rfl))
  f195 := Tryf.func49.trans (congrArg some (by kernel_rfl))
  f217 := Tryf.func43.trans (congrArg some (by kernel_rfl))
  f218 := Tryf.func50.trans (congrArg some (by kernel_rfl))
  f219 := Tryf.func45.trans (congrArg some (by kernel_rfl))
  f224 := Tryf.func55.trans (congrArg some (by kernel_rfl))
  f225 := Tryf.func54.trans (congrArg some (by kernel_rfl))
  f266 := Tryf.func51.trans (congrArg some (by kernel_rfl))
  f267 := Tryf.func56.trans (congrArg some (by kernel_rfl))
  f314 := Tryf.func61.trans (congrArg some (by kernel_rfl))
  t0 := Tryf.underlying0
  a0 := Tryf.isAgg0
  z0 := Tryf.sizeOf0
  v0 := Tryf.zeroValue0
  t3 := Tryf.underlying3
  a3 := Tryf.isAgg3
  z3 := Tryf.sizeOf3
  v3 := Tryf.zeroValue3
  t4 := Tryf.underlying4
  a4 := Tryf.isAgg4
  z4 := Tryf.sizeOf4
  v4 := Tryf.zeroValue4
  t5 := Tryf.underlying5
  a5 := Tryf.isAgg5
  z5 := Tryf.sizeOf5
  v5 := Tryf.zeroValue5
  t9 := Tryf.underlying9
  a9 := Tryf.isAgg9
  z9 := Tryf.sizeOf9
  v9 := Tryf.zeroValue9
  t46 := Tryf.underlying68
  a46 := Tryf.isAgg68
  z46 := Tryf.sizeOf68
  v46 := Tryf.zeroValue68
  t51 := Tryf.underlying94
  a51 := Tryf.isAgg94
  z51 := Tryf.sizeOf94
  v51 := Tryf.zeroValue94
  t146 := Tryf.underlying99
  a146 := Tryf.isAgg99
  z146 := Tryf.sizeOf99
  v146 := Tryf.zeroValue99
  g1 := by kernel_rfl
  i0 := by kernel_rfl
  i3 := by kernel_rfl
  i4 := by kernel_rfl
  i5 := by kernel_rfl
  i9 := by kernel_rfl
  i46 := by kernel_rfl
  i51 := by kernel_rfl
  i146 := by kernel_rfl
  m1 := by kernel_rfl
  s1_3 := fun w h => Go.Proofs.cell_of_shapedOpen_int (zero := #[.int .i64 0]) (t := 3) h (of_decide_eq_true (by kernel_rfl)) (by kernel_rfl) rfl (by kernel_rfl) (by kernel_rfl) Tryf.underlying3 }
open Go.RowKit Go.Lib in
theorem Tryf.strings_Count_shaped (s sub : ByteArray) (w : World) (h : w.ShapedOpen Tryf.prog) (hs : s.size < 4294967281) (h2 : 2 ≤ sub.size) :
    Calls Tryf.prog 41 #[.string s, .string sub] w fun e w' => e = .returned (.int .i64 (Lib.countB s sub)) ∧ w' = w := Any.strings_Count_shaped Tryf.laysM138 s sub w h hs h2
open Go.RowKit Go.Lib in
theorem Tryf.strings_Count_any (s sep : ByteArray) (m : Int) (w : World) (hs : s.size < 4294967281) (hm : w.cell? ⟨5, 0, none⟩ = some (.int .i64 m)) (h1 : 1 ≤ sep.size) :
    Calls Tryf.prog 41 #[.string s, .string sep] w fun e w' => e = .returned (.int .i64 (Lib.countB s sep)) ∧ w' = w := Any.strings_Count_any Tryf.lays138 s sep m w hs hm h1
def Tryf.lays164_ren : Go.Shelf.Ren := ⟨fun | 164 => 32 | 197 => 26 | 239 => 44 | 260 => 39 | 274 => 52 | 275 => 53 | n => n, fun | 9 => 9 | 4 => 4 | 3 => 3 | 5 => 5 | 0 => 0 | 21 => 21 | 105 => 58 | 156 => 80 | 49 => 79 | 157 => 81 | 46 => 68 | 159 => 83 | 162 => 86 | 160 => 84 | 119 => 75 | 139 => 78 | 138 => 77 | 208 => 98 | 51 => 94 | 206 => 96 | n => n, fun | 11 => 2 | 12 => 3 | 13 => 4 | 3 => 0 | 4 => 1 | n => n⟩
theorem Tryf.lays164 : Go.Proofs.Lays.n164 Tryf.prog Tryf.lays164_ren := {
  mixed := by kernel_rfl
  f164 := Tryf.func32.trans (congrArg some (by kernel_rfl))
  f197 := Tryf.func26.trans (congrArg some (by kernel_rfl))
  f239 := Tryf.func44.trans (congrArg some (by kernel_rfl))
  f260 := Tryf.func39.trans (congrArg some (by kernel_rfl))
  f274 := Tryf.func52.trans (congrArg some (by kernel_rfl))
  f275 := Tryf.func53.trans (congrArg some (by kernel_rfl))
  t0 := Tryf.underlying0
  a0 := Tryf.isAgg0
  z0 := Tryf.sizeOf0
  v0 := Tryf.zeroValue0
  t3 := Tryf.underlying3
  a3 := Tryf.isAgg3
  z3 := Tryf.sizeOf3
  v3 := Tryf.zeroValue3
  t4 := Tryf.underlying4
  a4 := Tryf.isAgg4
  z4 := Tryf.sizeOf4
  v4 := Tryf.zeroValue4
  t5 := Tryf.underlying5
  a5 := Tryf.isAgg5
  z5 := Tryf.sizeOf5
  v5 := Tryf.zeroValue5
  t9 := Tryf.underlying9
  a9 := Tryf.isAgg9
  z9 := Tryf.sizeOf9
  v9 := Tryf.zeroValue9
  t21 := Tryf.underlying21
  a21 := Tryf.isAgg21
  z21 := Tryf.sizeOf21
  v21 := Tryf.zeroValue21
  t46 := Tryf.underlying68
  a46 := Tryf.isAgg68
  z46 := Tryf.sizeOf68
  v46 := Tryf.zeroValue68
  t49 := Tryf.underlying79
  a49 := Tryf.isAgg79
  z49 := Tryf.sizeOf79
  v49 := Tryf.zeroValue79
  t51 := Tryf.underlying94
  a51 := Tryf.isAgg94
  z51 := Tryf.sizeOf94
  v51 := Tryf.zeroValue94
  t105 := Tryf.underlying58
  a105 := Tryf.isAgg58
  z105 := Tryf.sizeOf58
  v105 := Tryf.zeroValue58
  t119 := Tryf.underlying75
  a119 := Tryf.isAgg75
  z119 := Tryf.sizeOf75
  t138 := Tryf.underlying77
  a138 := Tryf.isAgg77
  z138 := Tryf.sizeOf77
  v138 := Tryf.zeroValue77
  t139 := Tryf.underlying78
  a139 := Tryf.isAgg78
  z139 := Tryf.sizeOf78
  v139 := Tryf.zeroValue78
  t156 := Tryf.underlying80
  a156 := Tryf.isAgg80
  z156 := Tryf.sizeOf80
  t157 := Tryf.underlying81
  a157 := Tryf.isAgg81
  z157 := Tryf.sizeOf81
  v157 := Tryf.zeroValue81
  t159 := Tryf.underlying83
  a159 := Tryf.isAgg83
  z159 := Tryf.sizeOf83
  v159 := Tryf.zeroValue83
  t160 := Tryf.underlying84
  a160 := Tryf.isAgg84
  z160 := Tryf.sizeOf84
  v160 := Tryf.zeroValue84
  t162 := Tryf.underlying86
  a162 := Tryf.isAgg86
  z162 := Tryf.sizeOf86
  v162 := Tryf.zeroValue86
  t206 := Tryf.underlying96
  a206 := Tryf.isAgg96
  z206 := Tryf.sizeOf96
  v206 := Tryf.zeroValue96
  t208 := Tryf.underlying98
  a208 := Tryf.isAgg98
  z208 := Tryf.sizeOf98
  v208 := Tryf.zeroValue98
  g3 := by kernel_rfl
  g4 := by kernel_rfl
  g11 := by kernel_rfl
  g12 := by kernel_rfl
  g13 := by kernel_rfl }
open Go.RowKit Go.Lib in
theorem Tryf.strings_EqualFold (s t : ByteArray) (w : World) (hs : s.size < 4294967281) (has : ∀ (j : Nat) b, s.data.toList[j]? = some b → b.toNat < 128) (hat : ∀ (j : Nat) b, t.data.toList[j]? = some b → b.toNat < 128) :
    Calls Tryf.prog 32 #[.string s, .string t] w fun e w' => e = .returned (.bool (Lib.equalFold s.data.toList t.data.toList)) ∧ w' = w := Any.strings_EqualFold Tryf.lays164 s t w hs has hat
def Tryf.lays260_ren : Go.Shelf.Ren := ⟨fun | 260 => 39 | n => n, fun | 9 => 9 | 21 => 21 | 3 => 3 | 4 => 4 | 5 => 5 | 119 => 75 | 0 => 0 | 46 => 68 | 139 => 78 | 138 => 77 | n => n, fun | 3 => 0 | 4 => 1 | n => n⟩
theorem Tryf.lays260 : Go.Proofs.Lays.n260 Tryf.prog Tryf.lays260_ren := {
  mixed := by kernel_rfl
  f260 := Tryf.func39.trans (congrArg some (by kernel_rfl))
  t0 := Tryf.underlying0
  a0 := Tryf.isAgg0
  z0 := Tryf.sizeOf0
  v0 := Tryf.zeroValue0
  t3 := Tryf.underlying3
  a3 := Tryf.isAgg3
  z3 := Tryf.sizeOf3
  v3 := Tryf.zeroValue3
  t4 := Tryf.underlying4
  a4 := Tryf.isAgg4
  z4 := Tryf.sizeOf4
  v4 := Tryf.zeroValue4
  t5 := Tryf.underlying5
  a5 := Tryf.isAgg5
  z5 := Tryf.sizeOf5
  v5 := Tryf.zeroValue5
  t9 := Tryf.underlying9
  a9 := Tryf.isAgg9
  z9 := Tryf.sizeOf9
  v9 := Tryf.zeroValue9
  t21 := Tryf.underlying21
  a21 := Tryf.isAgg21
  z21 := Tryf.sizeOf21
  v21 := Tryf.zeroValue21
  t46 := Tryf.underlying68
  a46 := Tryf.isAgg68
  z46 := Tryf.sizeOf68
  v46 := Tryf.zeroValue68
  t119 := Tryf.underlying75
  a119 := Tryf.isAgg75
  z119 := Tryf.sizeOf75
  t138 := Tryf.underlying77
  a138 := Tryf.isAgg77
  z138 := Tryf.sizeOf77
  v138 := Tryf.zeroValue77
  t139 := Tryf.underlying78
  a139 := Tryf.isAgg78
  z139 := Tryf.sizeOf78
  v139 := Tryf.zeroValue78
  g3 := by kernel_rfl
  g4 := by kernel_rfl }
open Go.RowKit Go.Lib in
theorem Tryf.utf8_decodeRuneInStringSlow (s : ByteArray) (w : World) (hT : Lib.Utf8Tabs 0 1 w) :
    Calls Tryf.prog 39 #[.string s] w fun e w' => e = .returned (.tuple #[.int .i32 (Lib.decodeGo s).1, .int .i64 (Lib.decodeGo s).2]) ∧ Below w.heap.size w w' := Any.utf8_decodeRuneInStringSlow Tryf.lays260 s w hT
def Tryf.lays197_ren : Go.Shelf.Ren := ⟨fun | 197 => 26 | 260 => 39 | n => n, fun | 9 => 9 | 21 => 21 | 3 => 3 | 4 => 4 | 5 => 5 | 105 => 58 | 119 => 75 | 0 => 0 | 46 => 68 | 139 => 78 | 138 => 77 | n => n, fun | 3 => 0 | 4 => 1 | n => n⟩
theorem Tryf.lays197 : Go.Proofs.Lays.n197 Tryf.prog Tryf.lays197_ren := {
  mixed := by kernel_rfl
  f197 := Tryf.func26.trans (congrArg some (by kernel_rfl))
  f260 := Tryf.func39.trans (congrArg some (by kernel_rfl))
  t0 := Tryf.underlying0
  a0 := Tryf.isAgg0
  z0 := Tryf.sizeOf0
  v0 := Tryf.zeroValue0
  t3 := Tryf.underlying3
  a3 := Tryf.isAgg3
  z3 := Tryf.sizeOf3
  v3 := Tryf.zeroValue3
  t4 := Tryf.underlying4
  a4 := Tryf.isAgg4
  z4 := Tryf.sizeOf4
  v4 := Tryf.zeroValue4
  t5 := Tryf.underlying5
  a5 := Tryf.isAgg5
  z5 := Tryf.sizeOf5
  v5 := Tryf.zeroValue5
  t9 := Tryf.underlying9
  a9 := Tryf.isAgg9
  z9 := Tryf.sizeOf9
  v9 := Tryf.zeroValue9
  t21 := Tryf.underlying21
  a21 := Tryf.isAgg21
  z21 := Tryf.sizeOf21
  v21 := Tryf.zeroValue21
  t46 := Tryf.underlying68
  a46 := Tryf.isAgg68
  z46 := Tryf.sizeOf68
  v46 := Tryf.zeroValue68
  t105 := Tryf.underlying58
  a105 := Tryf.isAgg58
  z105 := Tryf.sizeOf58
  v105 := Tryf.zeroValue58
  t119 := Tryf.underlying75
  a119 := Tryf.isAgg75
  z119 := Tryf.sizeOf75
  t138 := Tryf.underlying77
  a138 := Tryf.isAgg77
  z138 := Tryf.sizeOf77
  v138 := Tryf.zeroValue77
  t139 := Tryf.underlying78
  a139 := Tryf.isAgg78
  z139 := Tryf.sizeOf78
  v139 := Tryf.zeroValue78
  g3 := by kernel_rfl
  g4 := by kernel_rfl }
open Go.RowKit Go.Lib in
theorem Tryf.utf8_DecodeRuneInString (s : ByteArray) (w : World) (hT : Lib.Utf8Tabs 0 1 w) :
    Calls Tryf.prog 26 #[.string s] w fun e w' => e = .returned (.tuple #[.int .i32 (Lib.decodeGo s).1, .int .i64 (Lib.decodeGo s).2]) ∧ Below w.heap.size w w' := Any.utf8_DecodeRuneInString Tryf.lays197 s w hT
def Tryf.lays274_ren : Go.Shelf.Ren := ⟨fun | 274 => 52 | n => n, fun | 21 => 21 | 162 => 86 | 160 => 84 | 3 => 3 | 4 => 4 | 46 => 68 | 0 => 0 | 208 => 98 | 51 => 94 | 206 => 96 | n => n, fun | n => n⟩
theorem Tryf.lays274 : Go.Proofs.Lays.n274 Tryf.prog Tryf.lays274_ren := {
  mixed := by kernel_rfl
  f274 := Tryf.func52.trans (congrArg some (by kernel_rfl))
  t0 := Tryf.underlying0
  a0 := Tryf.isAgg0
  z0 := Tryf.sizeOf0
  v0 := Tryf.zeroValue0
  t3 := Tryf.underlying3
  a3 := Tryf.isAgg3
  z3 := Tryf.sizeOf3
  v3 := Tryf.zeroValue3
  t4 := Tryf.underlying4
  a4 := Tryf.isAgg4
  z4 := Tryf.sizeOf4
  v4 := Tryf.zeroValue4
  t21 := Tryf.underlying21
  a21 := Tryf.isAgg21
  z21 := Tryf.sizeOf21
  v21 := Tryf.zeroValue21
  t46 := Tryf.underlying68
  a46 := Tryf.isAgg68
  z46 := Tryf.sizeOf68
  v46 := Tryf.zeroValue68
  t51 := Tryf.underlying94
  a51 := Tryf.isAgg94
  z51 := Tryf.sizeOf94
  v51 := Tryf.zeroValue94
  t160 := Tryf.underlying84
  a160 := Tryf.isAgg84
  z160 := Tryf.sizeOf84
  v160 := Tryf.zeroValue84
  t162 := Tryf.underlying86
  a162 := Tryf.isAgg86
  z162 := Tryf.sizeOf86
  v162 := Tryf.zeroValue86
  t208 := Tryf.underlying98
  a208 := Tryf.isAgg98
  z208 := Tryf.sizeOf98
  v208 := Tryf.zeroValue98 }
open Go.RowKit Go.Lib in
theorem Tryf.unicode_lookupCaseRange (T : Array CaseRow) (R oR cap : Nat) (r : Int) (w : World) (hT : CaseTab R oR T w) (hok : CaseOk T) (hn : T.size ≤ 1000000000) :
    Calls Tryf.prog 52 #[.int .i32 r, .slice (some ⟨R, oR, none⟩) T.size cap] w fun e w' =>
      e = .returned (match lookupIdx T r (T.size + 1) 0 T.size with | some i => .pointer (some ⟨R, oR + i * 5, none⟩) | none => .pointer none) ∧ w' = w := Any.unicode_lookupCaseRange Tryf.lays274 T R oR cap r w hT hok hn
def Tryf.lays275_ren : Go.Shelf.Ren := ⟨fun | 275 => 53 | n => n, fun | 3 => 3 | 21 => 21 | 160 => 84 | 0 => 0 | 208 => 98 | 206 => 96 | 4 => 4 | 51 => 94 | n => n, fun | n => n⟩
theorem Tryf.lays275 : Go.Proofs.Lays.n275 Tryf.prog Tryf.lays275_ren := {
  mixed := by kernel_rfl
  f275 := Tryf.func53.trans (congrArg some (by kernel_rfl))
  t0 := Tryf.underlying0
  a0 := Tryf.isAgg0
  z0 := Tryf.sizeOf0
  v0 := Tryf.zeroValue0
  t3 := Tryf.underlying3
  a3 := Tryf.isAgg3
  z3 := Tryf.sizeOf3
  v3 := Tryf.zeroValue3
  t4 := Tryf.underlying4
  a4 := Tryf.isAgg4
  z4 := Tryf.sizeOf4
  v4 := Tryf.zeroValue4
  t21 := Tryf.underlying21
  a21 := Tryf.isAgg21
  z21 := Tryf.sizeOf21
  v21 := Tryf.zeroValue21
  t51 := Tryf.underlying94
  a51 := Tryf.isAgg94
  z51 := Tryf.sizeOf94
  v51 := Tryf.zeroValue94
  t160 := Tryf.underlying84
  a160 := Tryf.isAgg84
  z160 := Tryf.sizeOf84
  v160 := Tryf.zeroValue84
  t206 := Tryf.underlying96
  a206 := Tryf.isAgg96
  z206 := Tryf.sizeOf96
  v206 := Tryf.zeroValue96
  t208 := Tryf.underlying98
  a208 := Tryf.isAgg98
  z208 := Tryf.sizeOf98
  v208 := Tryf.zeroValue98 }
open Go.RowKit Go.Lib in
theorem Tryf.unicode_convertCase (c : Nat) (hc : c < 3) (r : Int) (A o : Nat) (x : CaseRow) (w : World) (hlo : (x.1 : Int) ≤ r) (hhi : r ≤ (x.2.1 : Int)) (hH : x.2.1 < 2147483647) (c0 : w.cell? ⟨A, o, none⟩ = some (.int .u32 x.1)) (cD : w.cell? ⟨A, o + 2 + c, none⟩ = some (.int .i32 (x.delta c))) :
    Calls Tryf.prog 53 #[.int .i64 c, .int .i32 r, .pointer (some ⟨A, o, none⟩)] w fun e w' => e = .returned (.int .i32 (wrap32 (convertR c r x))) ∧ ∃ q, w' = w.drewN q := Any.unicode_convertCase Tryf.lays275 c hc r A o x w hlo hhi hH c0 cD
end Go.Proofs
