/-
  The shelf's contracts at this dump, written by the kit's own commands (lay-shelf, lay-plain) for this program.
-/
import Derived.Shelf.Small.Strs
import Derived.Shelf.Utf8.RuneCount
import Derived.Shelf.Strings.Search1
import Derived.Shelf.Strings.Search2
import Derived.Shelf.Strings.Search3
import Derived.Shelf.Strings.Count
import Derived.Shelf.LaysM
import Derived.Shelf.Strings.Shaped
import Derived.Shelf.Strings.LastIndex
import Derived.Shelf.Strings.LastIndexAll
import Derived.Shelf.Strings.Split
import Derived.Shelf.Unicode.Decode
import Derived.Shelf.Strings.RuneCount
import Derived.Shelf.Strings.Explode
import Derived.Shelf.Unicode.DecodeSlow
import Derived.Shelf.Unicode.DecodeAny
import Derived.Test.Qxb6605388aDoorProg
namespace Go.Proofs
open Go.Shelf
def Tryd.lays137_ren : Go.Shelf.Ren := ⟨fun | 137 => 16 | 217 => 20 | 266 => 24 | n => n, fun | 9 => 9 | 5 => 5 | 3 => 3 | n => n, fun | n => n⟩
theorem Tryd.lays137 : Go.Proofs.Lays.n137 Tryd.prog Tryd.lays137_ren := {
  mixed := by kernel_rfl
  f137 := Tryd.func16.trans (congrArg some (by kernel_rfl))
  f217 := Tryd.func20.trans (congrArg some (by kernel_rfl))
  f266 := Tryd.func24.trans (congrArg some (by kernel_rfl))
  t3 := Tryd.underlying3
  a3 := Tryd.isAgg3
  z3 := Tryd.sizeOf3
  v3 := Tryd.zeroValue3
  t5 := Tryd.underlying5
  a5 := Tryd.isAgg5
  z5 := Tryd.sizeOf5
  v5 := Tryd.zeroValue5
  t9 := Tryd.underlying9
  a9 := Tryd.isAgg9
  z9 := Tryd.sizeOf9
  v9 := Tryd.zeroValue9 }
open Go.RowKit in
theorem Tryd.strings_IndexByte (s : ByteArray) (c : Int) (w : World) :
    Calls Tryd.prog 16 #[.string s, .int .u8 c] w fun e w' => e = .returned (.int .i64 (Lib.indexByte s.data.toList c.toNat.toUInt8)) ∧ w' = w := Any.strings_IndexByte Tryd.lays137 s c w
def Tryd.lays195_ren : Go.Shelf.Ren := ⟨fun | 195 => 30 | n => n, fun | 9 => 9 | 3 => 3 | 0 => 0 | 4 => 4 | n => n, fun | n => n⟩
theorem Tryd.lays195 : Go.Proofs.Lays.n195 Tryd.prog Tryd.lays195_ren := {
  mixed := by kernel_rfl
  f195 := Tryd.func30.trans (congrArg some (by kernel_rfl))
  t0 := Tryd.underlying0
  a0 := Tryd.isAgg0
  z0 := Tryd.sizeOf0
  v0 := Tryd.zeroValue0
  t3 := Tryd.underlying3
  a3 := Tryd.isAgg3
  z3 := Tryd.sizeOf3
  v3 := Tryd.zeroValue3
  t4 := Tryd.underlying4
  a4 := Tryd.isAgg4
  z4 := Tryd.sizeOf4
  v4 := Tryd.zeroValue4
  t9 := Tryd.underlying9
  a9 := Tryd.isAgg9
  z9 := Tryd.sizeOf9
  v9 := Tryd.zeroValue9 }
open Go.RowKit in
theorem Tryd.utf8_RuneCountInString (s : ByteArray) (w : World) (hs : s.size < 9223372036854775807) :
    Calls Tryd.prog 30 #[.string s] w fun e w' => e = .returned (.int .i64 (Lib.runeCount s)) ∧ ∃ pos, w' = w.iter s pos := Any.utf8_RuneCountInString Tryd.lays195 s w hs
def Tryd.lays217_ren : Go.Shelf.Ren := ⟨fun | 217 => 20 | 266 => 24 | n => n, fun | 9 => 9 | 5 => 5 | 3 => 3 | n => n, fun | n => n⟩
theorem Tryd.lays217 : Go.Proofs.Lays.n217 Tryd.prog Tryd.lays217_ren := {
  mixed := by kernel_rfl
  f217 := Tryd.func20.trans (congrArg some (by kernel_rfl))
  f266 := Tryd.func24.trans (congrArg some (by kernel_rfl))
  t3 := Tryd.underlying3
  a3 := Tryd.isAgg3
  z3 := Tryd.sizeOf3
  v3 := Tryd.zeroValue3
  t5 := Tryd.underlying5
  a5 := Tryd.isAgg5
  z5 := Tryd.sizeOf5
  v5 := Tryd.zeroValue5
  t9 := Tryd.underlying9
  a9 := Tryd.isAgg9
  z9 := Tryd.sizeOf9
  v9 := Tryd.zeroValue9 }
open Go.RowKit Go.Lib in
theorem Tryd.stringslite_IndexByte (s : ByteArray) (c : Int) (w : World) :
    Calls Tryd.prog 20 #[.string s, .int .u8 c] w fun e w' => e = .returned (.int .i64 (Lib.indexByte s.data.toList c.toNat.toUInt8)) ∧ w' = w := Any.stringslite_IndexByte Tryd.lays217 s c w
def Tryd.lays224_ren : Go.Shelf.Ren := ⟨fun | 224 => 34 | n => n, fun | 3 => 3 | n => n, fun | n => n⟩
theorem Tryd.lays224 : Go.Proofs.Lays.n224 Tryd.prog Tryd.lays224_ren := {
  mixed := by kernel_rfl
  f224 := Tryd.func34.trans (congrArg some (by kernel_rfl))
  t3 := Tryd.underlying3
  a3 := Tryd.isAgg3
  z3 := Tryd.sizeOf3
  v3 := Tryd.zeroValue3 }
open Go.RowKit Go.Lib in
theorem Tryd.bytealg_Cutover (n : Int) (h0 : 0 ≤ n) (h1 : n < 4611686018427387904) (w : World) :
    Calls Tryd.prog 34 #[.int .i64 n] w fun e w' => e = .returned (.int .i64 ((n + 16) / 8)) ∧ w' = w := Any.bytealg_Cutover Tryd.lays224 n h0 h1 w
def Tryd.lays314_ren : Go.Shelf.Ren := ⟨fun | 314 => 38 | n => n, fun | 9 => 9 | 51 => 41 | 3 => 3 | 4 => 4 | 5 => 5 | 46 => 40 | n => n, fun | n => n⟩
theorem Tryd.lays314 : Go.Proofs.Lays.n314 Tryd.prog Tryd.lays314_ren := {
  mixed := by kernel_rfl
  f314 := Tryd.func38.trans (congrArg some (by kernel_rfl))
  t3 := Tryd.underlying3
  a3 := Tryd.isAgg3
  z3 := Tryd.sizeOf3
  v3 := Tryd.zeroValue3
  t4 := Tryd.underlying4
  a4 := Tryd.isAgg4
  z4 := Tryd.sizeOf4
  v4 := Tryd.zeroValue4
  t5 := Tryd.underlying5
  a5 := Tryd.isAgg5
  z5 := Tryd.sizeOf5
  v5 := Tryd.zeroValue5
  t9 := Tryd.underlying9
  a9 := Tryd.isAgg9
  z9 := Tryd.sizeOf9
  v9 := Tryd.zeroValue9
  t46 := Tryd.underlying40
  a46 := Tryd.isAgg40
  z46 := Tryd.sizeOf40
  v46 := Tryd.zeroValue40
  t51 := Tryd.underlying41
  a51 := Tryd.isAgg41
  z51 := Tryd.sizeOf41
  v51 := Tryd.zeroValue41 }
open Go.RowKit Go.Lib in
theorem Tryd.bytealg_hashStr (sep : ByteArray) (hs : sep.size < 4294967281) (w : World) :
    Calls Tryd.prog 38 #[.string sep] w fun e w' => e = .returned (.tuple #[.int .u32 (RK.H sep.data.toList % 4294967296), .int .u32 (16777619 ^ sep.size % 4294967296)]) ∧ w' = w := Any.bytealg_hashStr Tryd.lays314 sep hs w
def Tryd.lays267_ren : Go.Shelf.Ren := ⟨fun | 267 => 35 | 314 => 38 | n => n, fun | 9 => 9 | 3 => 3 | 146 => 42 | 51 => 41 | 4 => 4 | 5 => 5 | 46 => 40 | n => n, fun | n => n⟩
theorem Tryd.lays267 : Go.Proofs.Lays.n267 Tryd.prog Tryd.lays267_ren := {
  mixed := by kernel_rfl
  f267 := Tryd.func35.trans (congrArg some (by kernel_rfl))
  f314 := Tryd.func38.trans (congrArg some (by kernel_rfl))
  t3 := Tryd.underlying3
  a3 := Tryd.isAgg3
  z3 := Tryd.sizeOf3
  v3 := Tryd.zeroValue3
  t4 := Tryd.underlying4
  a4 := Tryd.isAgg4
  z4 := Tryd.sizeOf4
  v4 := Tryd.zeroValue4
  t5 := Tryd.underlying5
  a5 := Tryd.isAgg5
  z5 := Tryd.sizeOf5
  v5 := Tryd.zeroValue5
  t9 := Tryd.underlying9
  a9 := Tryd.isAgg9
  z9 := Tryd.sizeOf9
  v9 := Tryd.zeroValue9
  t46 := Tryd.underlying40
  a46 := Tryd.isAgg40
  z46 := Tryd.sizeOf40
  v46 := Tryd.zeroValue40
  t51 := Tryd.underlying41
  a51 := Tryd.isAgg41
  z51 := Tryd.sizeOf41
  v51 := Tryd.zeroValue41
  t146 := Tryd.underlying42
  a146 := Tryd.isAgg42
  z146 := Tryd.sizeOf42
  v146 := Tryd.zeroValue42 }
open Go.RowKit Go.Lib in
theorem Tryd.bytealg_IndexRabinKarp (s sep : ByteArray) (h1 : 1 ≤ sep.size) (h2 : sep.size ≤ s.size) (hs : s.size < 4294967281) (w : World) :
    Calls Tryd.prog 35 #[.string s, .string sep] w fun e w' => e = .returned (.int .i64 (Lib.index s.data.toList sep.data.toList)) ∧ w' = w := Any.bytealg_IndexRabinKarp Tryd.lays267 s sep h1 h2 hs w
def Tryd.lays219_ren : Go.Shelf.Ren := ⟨fun | 219 => 27 | 217 => 20 | 225 => 33 | 224 => 34 | 267 => 35 | 266 => 24 | 314 => 38 | n => n, fun | 9 => 9 | 3 => 3 | 4 => 4 | 5 => 5 | 46 => 40 | 146 => 42 | 51 => 41 | n => n, fun | 1 => 0 | n => n⟩
theorem Tryd.lays219 : Go.Proofs.Lays.n219 Tryd.prog Tryd.lays219_ren := {
  mixed := by kernel_rfl
  f217 := Tryd.func20.trans (congrArg some (by kernel_rfl))
  f219 := Tryd.func27.trans (congrArg some (by kernel_rfl))
  f224 := Tryd.func34.trans (congrArg some (by kernel_rfl))
  f225 := Tryd.func33.trans (congrArg some (by kernel_rfl))
  f266 := Tryd.func24.trans (congrArg some (by kernel_rfl))
  f267 := Tryd.func35.trans (congrArg some (by kernel_rfl))
  f314 := Tryd.func38.trans (congrArg some (by kernel_rfl))
  t3 := Tryd.underlying3
  a3 := Tryd.isAgg3
  z3 := Tryd.sizeOf3
  v3 := Tryd.zeroValue3
  t4 := Tryd.underlying4
  a4 := Tryd.isAgg4
  z4 := Tryd.sizeOf4
  v4 := Tryd.zeroValue4
  t5 := Tryd.underlying5
  a5 := Tryd.isAgg5
  z5 := Tryd.sizeOf5
  v5 := Tryd.zeroValue5
  t9 := Tryd.underlying9
  a9 := Tryd.isAgg9
  z9 := Tryd.sizeOf9
  v9 := Tryd.zeroValue9
  t46 := Tryd.underlying40
  a46 := Tryd.isAgg40
  z46 := Tryd.sizeOf40
  v46 := Tryd.zeroValue40
  t51 := Tryd.underlying41
  a51 := Tryd.isAgg41
  z51 := Tryd.sizeOf41
  v51 := Tryd.zeroValue41
  t146 := Tryd.underlying42
  a146 := Tryd.isAgg42
  z146 := Tryd.sizeOf42
  v146 := Tryd.zeroValue42
  g1 := by kernel_rfl }
open Go.RowKit Go.Lib in
theorem Tryd.stringslite_Index_one (s : ByteArray) (c : UInt8) (w : World) :
    Calls Tryd.prog 27 #[.string s, .string ⟨#[c]⟩] w fun e w' => e = .returned (.int .i64 (Lib.indexByte s.data.toList c)) ∧ w' = w := Any.stringslite_Index_one Tryd.lays219 s c w
open Go.RowKit Go.Lib in
theorem Tryd.stringslite_Index (s sub : ByteArray) (m : Int) (w : World) (hs : s.size < 4294967281) (hm : w.cell? ⟨0, 0, none⟩ = some (.int .i64 m)) :
    Calls Tryd.prog 27 #[.string s, .string sub] w fun e w' => e = .returned (.int .i64 (Lib.index s.data.toList sub.data.toList)) ∧ w' = w := Any.stringslite_Index Tryd.lays219 s sub m w hs hm
def Tryd.lays143_ren : Go.Shelf.Ren := ⟨fun | 143 => 22 | 219 => 27 | 217 => 20 | 225 => 33 | 224 => 34 | 267 => 35 | 266 => 24 | 314 => 38 | n => n, fun | 9 => 9 | 3 => 3 | 4 => 4 | 5 => 5 | 46 => 40 | 146 => 42 | 51 => 41 | n => n, fun | 1 => 0 | n => n⟩
theorem Tryd.lays143 : Go.Proofs.Lays.n143 Tryd.prog Tryd.lays143_ren := {
  mixed := by kernel_rfl
  f143 := Tryd.func22.trans (congrArg some (by kernel_rfl))
  f217 := Tryd.func20.trans (congrArg some (by kernel_rfl))
  f219 := Tryd.func27.trans (congrArg some (by kernel_rfl))
  f224 := Tryd.func34.trans (congrArg some (by kernel_rfl))
  f225 := Tryd.func33.trans (congrArg some (by kernel_rfl))
  f266 := Tryd.func24.trans (congrArg some (by kernel_rfl))
  f267 := Tryd.func35.trans (congrArg some (by kernel_rfl))
  f314 := Tryd.func38.trans (congrArg some (by kernel_rfl))
  t3 := Tryd.underlying3
  a3 := Tryd.isAgg3
  z3 := Tryd.sizeOf3
  v3 := Tryd.zeroValue3
  t4 := Tryd.underlying4
  a4 := Tryd.isAgg4
  z4 := Tryd.sizeOf4
  v4 := Tryd.zeroValue4
  t5 := Tryd.underlying5
  a5 := Tryd.isAgg5
  z5 := Tryd.sizeOf5
  v5 := Tryd.zeroValue5
  t9 := Tryd.underlying9
  a9 := Tryd.isAgg9
  z9 := Tryd.sizeOf9
  v9 := Tryd.zeroValue9
  t46 := Tryd.underlying40
  a46 := Tryd.isAgg40
  z46 := Tryd.sizeOf40
  v46 := Tryd.zeroValue40
  t51 := Tryd.underlying41
  a51 := Tryd.isAgg41
  z51 := Tryd.sizeOf41
  v51 := Tryd.zeroValue41
  t146 := Tryd.underlying42
  a146 := Tryd.isAgg42
  z146 := Tryd.sizeOf42
  v146 := Tryd.zeroValue42
  g1 := by kernel_rfl }
open Go.RowKit Go.Lib in
theorem Tryd.strings_Index_one (s : ByteArray) (c : UInt8) (w : World) :
    Calls Tryd.prog 22 #[.string s, .string ⟨#[c]⟩] w fun e w' => e = .returned (.int .i64 (Lib.indexByte s.data.toList c)) ∧ w' = w := Any.strings_Index_one Tryd.lays143 s c w
open Go.RowKit Go.Lib in
theorem Tryd.strings_Index (s sub : ByteArray) (m : Int) (w : World) (hs : s.size < 4294967281) (hm : w.cell? ⟨0, 0, none⟩ = some (.int .i64 m)) :
    Calls Tryd.prog 22 #[.string s, .string sub] w fun e w' => e = .returned (.int .i64 (Lib.index s.data.toList sub.data.toList)) ∧ w' = w := Any.strings_Index Tryd.lays143 s sub m w hs hm
def Tryd.lays144_ren : Go.Shelf.Ren := ⟨fun | 144 => 18 | 143 => 22 | 219 => 27 | 217 => 20 | 225 => 33 | 224 => 34 | 267 => 35 | 266 => 24 | 314 => 38 | n => n, fun | 9 => 9 | 4 => 4 | 3 => 3 | 5 => 5 | 46 => 40 | 146 => 42 | 51 => 41 | n => n, fun | 1 => 0 | n => n⟩
theorem Tryd.lays144 : Go.Proofs.Lays.n144 Tryd.prog Tryd.lays144_ren := {
  mixed := by kernel_rfl
  f143 := Tryd.func22.trans (congrArg some (by kernel_rfl))
  f144 := Tryd.func18.trans (congrArg some (by kernel_rfl))
  f217 := Tryd.func20.trans (congrArg some (by kernel_rfl))
  f219 := Tryd.func27.trans (congrArg some (by kernel_rfl))
  f224 := Tryd.func34.trans (congrArg some (by kernel_rfl))
  f225 := Tryd.func33.trans (congrArg some (by kernel_rfl))
  f266 := Tryd.func24.trans (congrArg some (by kernel_rfl))
  f267 := Tryd.func35.trans (congrArg some (by kernel_rfl))
  f314 := Tryd.func38.trans (congrArg some (by kernel_rfl))
  t3 := Tryd.underlying3
  a3 := Tryd.isAgg3
  z3 := Tryd.sizeOf3
  v3 := Tryd.zeroValue3
  t4 := Tryd.underlying4
  a4 := Tryd.isAgg4
  z4 := Tryd.sizeOf4
  v4 := Tryd.zeroValue4
  t5 := Tryd.underlying5
  a5 := Tryd.isAgg5
  z5 := Tryd.sizeOf5
  v5 := Tryd.zeroValue5
  t9 := Tryd.underlying9
  a9 := Tryd.isAgg9
  z9 := Tryd.sizeOf9
  v9 := Tryd.zeroValue9
  t46 := Tryd.underlying40
  a46 := Tryd.isAgg40
  z46 := Tryd.sizeOf40
  v46 := Tryd.zeroValue40
  t51 := Tryd.underlying41
  a51 := Tryd.isAgg41
  z51 := Tryd.sizeOf41
  v51 := Tryd.zeroValue41
  t146 := Tryd.underlying42
  a146 := Tryd.isAgg42
  z146 := Tryd.sizeOf42
  v146 := Tryd.zeroValue42
  g1 := by kernel_rfl }
open Go.RowKit Go.Lib in
theorem Tryd.strings_Contains_one (s : ByteArray) (c : UInt8) (w : World) :
    Calls Tryd.prog 18 #[.string s, .string ⟨#[c]⟩] w fun e w' => e = .returned (.bool (decide (0 ≤ Lib.indexByte s.data.toList c))) ∧ w' = w := Any.strings_Contains_one Tryd.lays144 s c w
open Go.RowKit Go.Lib in
theorem Tryd.strings_Contains (s sub : ByteArray) (m : Int) (w : World) (hs : s.size < 4294967281) (hm : w.cell? ⟨0, 0, none⟩ = some (.int .i64 m)) :
    Calls Tryd.prog 18 #[.string s, .string sub] w fun e w' => e = .returned (.bool (Lib.contains s.data.toList sub.data.toList)) ∧ w' = w := Any.strings_Contains Tryd.lays144 s sub m w hs hm
def Tryd.lays138_ren : Go.Shelf.Ren := ⟨fun | 138 => 26 | 195 => 30 | 218 => 32 | 143 => 22 | 219 => 27 | 217 => 20 | 225 => 33 | 224 => 34 | 267 => 35 | 266 => 24 | 314 => 38 | n => n, fun | 9 => 9 | 3 => 3 | 4 => 4 | 5 => 5 | 0 => 0 | 46 => 40 | 146 => 42 | 51 => 41 | n => n, fun | 1 => 0 | n => n⟩
theorem Tryd.lays138 : Go.Proofs.Lays.n138 Tryd.prog Tryd.lays138_ren := {
  mixed := by kernel_rfl
  f138 := Tryd.func26.trans (congrArg some (by kernel_rfl))
  f143 := Tryd.func22.trans (congrArg some (by kernel_rfl))
  f195 := Tryd.func30.trans (congrArg some (by kernel_rfl))
  f217 := Tryd.func20.trans (congrArg some (by kernel_rfl))
  f218 := Tryd.func32.trans (congrArg some (by kernel_rfl))
  f219 := Tryd.func27.trans (congrArg some (by kernel_rfl))
  f224 := Tryd.func34.trans (congrArg some (by kernel_rfl))
  f225 := Tryd.func33.trans (congrArg some (by kernel_rfl))
  f266 := Tryd.func24.trans (congrArg some (by kernel_rfl))
  f267 := Tryd.func35.trans (congrArg some (by kernel_rfl))
  f314 := Tryd.func38.trans (congrArg some (by kernel_rfl))
  t0 := Tryd.underlying0
  a0 := Tryd.isAgg0
  z0 := Tryd.sizeOf0
  v0 := Tryd.zeroValue0
  t3 := Tryd.underlying3
  a3 := Tryd.isAgg3
  z3 := Tryd.sizeOf3
  v3 := Tryd.zeroValue3
  t4 := Tryd.underlying4
  a4 := Tryd.isAgg4
  z4 := Tryd.sizeOf4
  v4 := Tryd.zeroValue4
  t5 := Tryd.underlying5
  a5 := Tryd.isAgg5
  z5 := Tryd.sizeOf5
  v5 := Tryd.zeroValue5
  t9 := Tryd.underlying9
  a9 := Tryd.isAgg9
  z9 := Tryd.sizeOf9
  v9 := Tryd.zeroValue9
  t46 := Tryd.underlying40
  a46 := Tryd.isAgg40
  z46 := Tryd.sizeOf40
  v46 := Tryd.zeroValue40
  t51 := Tryd.underlying41
  a51 := Tryd.isAgg41
  z51 := Tryd.sizeOf41
  v51 := Tryd.zeroValue41
  t146 := Tryd.underlying42
  a146 := Tryd.isAgg42
  z146 := Tryd.sizeOf42
  v146 := Tryd.zeroValue42
  g1 := by kernel_rfl }
open Go.RowKit Go.Lib in
theorem Tryd.strings_Count_one (s : ByteArray) (c : UInt8) (w : World) :
    Calls Tryd.prog 26 #[.string s, .string ⟨#[c]⟩] w fun e w' => e = .returned (.int .i64 (Lib.countByte s.data.toList c)) ∧ w' = w := Any.strings_Count_one Tryd.lays138 s c w
open Go.RowKit Go.Lib in
theorem Tryd.strings_Count (s sub : ByteArray) (m : Int) (w : World) (hs : s.size < 4294967281) (hm : w.cell? ⟨0, 0, none⟩ = some (.int .i64 m)) (h2 : 2 ≤ sub.size) :
    Calls Tryd.prog 26 #[.string s, .string sub] w fun e w' => e = .returned (.int .i64 (Lib.countB s sub)) ∧ w' = w := Any.strings_Count Tryd.lays138 s sub m w hs hm h2
def Tryd.laysM219_ren : Go.Shelf.Ren := ⟨fun | 219 => 27 | 217 => 20 | 225 => 33 | 224 => 34 | 267 => 35 | 266 => 24 | 314 => 38 | n => n, fun | 9 => 9 | 3 => 3 | 4 => 4 | 5 => 5 | 46 => 40 | 146 => 42 | 51 => 41 | n => n, fun | 1 => 0 | n => n⟩
theorem Tryd.laysM219 : Go.Proofs.LaysM.n219 Tryd.prog Tryd.laysM219_ren := {
  mixed := by kernel_rfl
  f217 := Tryd.func20.trans (congrArg some (by kernel_rfl))
  f219 := Tryd.func27.trans (congrArg some (by kernel_rfl))
  f224 := Tryd.func34.trans (congrArg some (by kernel_rfl))
  f225 := Tryd.func33.trans (congrArg some (by kernel_rfl))
  f266 := Tryd.func24.trans (congrArg some (by kernel_rfl))
  f267 := Tryd.func35.trans (congrArg some (by kernel_rfl))
  f314 := Tryd.func38.trans (congrArg some (by kernel_rfl))
  t3 := Tryd.underlying3
  a3 := Tryd.isAgg3
  z3 := Tryd.sizeOf3
  v3 := Tryd.zeroValue3
  t4 := Tryd.underlying4
  a4 := Tryd.isAgg4
  z4 := Tryd.sizeOf4
  v4 := Tryd.zeroValue4
  t5 := Tryd.underlying5
  a5 := Tryd.isAgg5
  z5 := Tryd.sizeOf5
  v5 := Tryd.zeroValue5
  t9 := Tryd.underlying9
  a9 := Tryd.isAgg9
  z9 := Tryd.sizeOf9
  v9 := Tryd.zeroValue9
  t46 := Tryd.underlying40
  a46 := Tryd.isAgg40
  z46 := Tryd.sizeOf40
  v46 := Tryd.zeroValue40
  t51 := Tryd.underlying41
  a51 := Tryd.isAgg41
  z51 := Tryd.sizeOf41
  v51 := Tryd.zeroValue41
  t146 := Tryd.underlying42
  a146 := Tryd.isAgg42
  z146 := Tryd.sizeOf42
  v146 := Tryd.zeroValue42
  g1 := by kernel_rfl
  i3 := by kernel_rfl
  i4 := by kernel_rfl
  i5 := by kernel_rfl
  i9 := by kernel_rfl
  i46 := by kernel_rfl
  i51 := by kernel_rfl
  i146 := by kernel_rfl
  m1 := by kernel_rfl
  s1_3 := fun w h => Go.Proofs.cell_of_shapedOpen_int (zero := #[.int .i64 0]) (t := 3) h (of_decide_eq_true (by kernel_rfl)) (by kernel_rfl) rfl (by kernel_rfl) (by kernel_rfl) Tryd.underlying3 }
open Go.RowKit Go.Lib in
theorem Tryd.stringslite_Index_shaped (s sub : ByteArray) (w : World) (h : w.ShapedOpen Tryd.prog) (hs : s.size < 4294967281) :
    Calls Tryd.prog 27 #[.string s, .string sub] w fun e w' => e = .returned (.int .i64 (Lib.index s.data.toList sub.data.toList)) ∧ w' = w := Any.stringslite_Index_shaped Tryd.laysM219 s sub w h hs
def Tryd.laysM143_ren : Go.Shelf.Ren := ⟨fun | 143 => 22 | 219 => 27 | 217 => 20 | 225 => 33 | 224 => 34 | 267 => 35 | 266 => 24 | 314 => 38 | n => n, fun | 9 => 9 | 3 => 3 | 4 => 4 | 5 => 5 | 46 => 40 | 146 => 42 | 51 => 41 | n => n, fun | 1 => 0 | n => n⟩
theorem Tryd.laysM143 : Go.Proofs.LaysM.n143 Tryd.prog Tryd.laysM143_ren := {
  mixed := by kernel_rfl
  f143 := Tryd.func22.trans (congrArg some (by kernel_rfl))
  f217 := Tryd.func20.trans (congrArg some (by kernel_rfl))
  f219 := Tryd.func27.trans (congrArg some (by kernel_rfl))
  f224 := Tryd.func34.trans (congrArg some (by kernel_rfl))
  f225 := Tryd.func33.trans (congrArg some (by kernel_rfl))
  f266 := Tryd.func24.trans (congrArg some (by kernel_rfl))
  f267 := Tryd.func35.trans (congrArg some (by kernel_rfl))
  f314 := Tryd.func38.trans (congrArg some (by kernel_rfl))
  t3 := Tryd.underlying3
  a3 := Tryd.isAgg3
  z3 := Tryd.sizeOf3
  v3 := Tryd.zeroValue3
  t4 := Tryd.underlying4
  a4 := Tryd.isAgg4
  z4 := Tryd.sizeOf4
  v4 := Tryd.zeroValue4
  t5 := Tryd.underlying5
  a5 := Tryd.isAgg5
  z5 := Tryd.sizeOf5
  v5 := Tryd.zeroValue5
  t9 := Tryd.underlying9
  a9 := Tryd.isAgg9
  z9 := Tryd.sizeOf9
  v9 := Tryd.zeroValue9
  t46 := Tryd.underlying40
  a46 := Tryd.isAgg40
  z46 := Tryd.sizeOf40
  v46 := Tryd.zeroValue40
  t51 := Tryd.underlying41
  a51 := Tryd.isAgg41
  z51 := Tryd.sizeOf41
  v51 := Tryd.zeroValue41
  t146 := Tryd.underlying42
  a146 := Tryd.isAgg42
  z146 := Tryd.sizeOf42
  v146 := Tryd.zeroValue42
  g1 := by kernel_rfl
  i3 := by kernel_rfl
  i4 := by kernel_rfl
  i5 := by kernel_rfl
  i9 := by kernel_rfl
  i46 := by kernel_rfl
  i51 := by kernel_rfl
  i146 := by kernel_rfl
  m1 := by kernel_rfl
  s1_3 := fun w h => Go.Proofs.cell_of_shapedOpen_int (zero := #[.int .i64 0]) (t := 3) h (of_decide_eq_true (by kernel_rfl)) (by kernel_rfl) rfl (by kernel_rfl) (by kernel_rfl) Tryd.underlying3 }
open Go.RowKit Go.Lib in
theorem Tryd.strings_Index_shaped (s sub : ByteArray) (w : World) (h : w.ShapedOpen Tryd.prog) (hs : s.size < 4294967281) :
    Calls Tryd.prog 22 #[.string s, .string sub] w fun e w' => e = .returned (.int .i64 (Lib.index s.data.toList sub.data.toList)) ∧ w' = w := Any.strings_Index_shaped Tryd.laysM143 s sub w h hs
def Tryd.laysM144_ren : Go.Shelf.Ren := ⟨fun | 144 => 18 | 143 => 22 | 219 => 27 | 217 => 20 | 225 => 33 | 224 => 34 | 267 => 35 | 266 => 24 | 314 => 38 | n => n, fun | 9 => 9 | 4 => 4 | 3 => 3 | 5 => 5 | 46 => 40 | 146 => 42 | 51 => 41 | n => n, fun | 1 => 0 | n => n⟩
theorem Tryd.laysM144 : Go.Proofs.LaysM.n144 Tryd.prog Tryd.laysM144_ren := {
  mixed := by kernel_rfl
  f143 := Tryd.func22.trans (congrArg some (by kernel_rfl))
  f144 := Tryd.func18.trans (congrArg some (by kernel_rfl))
  f217 := Tryd.func20.trans (congrArg some (by kernel_rfl))
  f219 := Tryd.func27.trans (congrArg some (by kernel_rfl))
  f224 := Tryd.func34.trans (congrArg some (by kernel_rfl))
  f225 := Tryd.func33.trans (congrArg some (by kernel_rfl))
  f266 := Tryd.func24.trans (congrArg some (by kernel_rfl))
  f267 := Tryd.func35.trans (congrArg some (by kernel_rfl))
  f314 := Tryd.func38.trans (congrArg some (by kernel_rfl))
  t3 := Tryd.underlying3
  a3 := Tryd.isAgg3
  z3 := Tryd.sizeOf3
  v3 := Tryd.zeroValue3
  t4 := Tryd.underlying4
  a4 := Tryd.isAgg4
  z4 := Tryd.sizeOf4
  v4 := Tryd.zeroValue4
  t5 := Tryd.underlying5
  a5 := Tryd.isAgg5
  z5 := Tryd.sizeOf5
  v5 := Tryd.zeroValue5
  t9 := Tryd.underlying9
  a9 := Tryd.isAgg9
  z9 := Tryd.sizeOf9
  v9 := Tryd.zeroValue9
  t46 := Tryd.underlying40
  a46 := Tryd.isAgg40
  z46 := Tryd.sizeOf40
  v46 := Tryd.zeroValue40
  t51 := Tryd.underlying41
  a51 := Tryd.isAgg41
  z51 := Tryd.sizeOf41
  v51 := Tryd.zeroValue41
  t146 := Tryd.underlying42
  a146 := Tryd.isAgg42
  z146 := Tryd.sizeOf42
  v146 := Tryd.zeroValue42
  g1 := by kernel_rfl
  i3 := by kernel_rfl
  i4 := by kernel_rfl
  i5 := by kernel_rfl
  i9 := by kernel_rfl
  i46 := by kernel_rfl
  i51 := by kernel_rfl
  i146 := by kernel_rfl
  m1 := by kernel_rfl
  s1_3 := fun w h => Go.Proofs.cell_of_shapedOpen_int (zero := #[.int .i64 0]) (t := 3) h (of_decide_eq_true (by kernel_rfl)) (by kernel_rfl) rfl (by kernel_rfl) (by kernel_rfl) Tryd.underlying3 }
open Go.RowKit Go.Lib in
theorem Tryd.strings_Contains_shaped (s sub : ByteArray) (w : World) (h : w.ShapedOpen Tryd.prog) (hs : s.size < 4294967281) :
    Calls Tryd.prog 18 #[.string s, .string sub] w fun e w' => e = .returned (.bool (Lib.contains s.data.toList sub.data.toList)) ∧ w' = w := Any.strings_Contains_shaped Tryd.laysM144 s sub w h hs
def Tryd.laysM138_ren : Go.Shelf.Ren := ⟨fun | 138 => 26 | 195 => 30 | 218 => 32 | 143 => 22 | 219 => 27 | 217 => 20 | 225 => 33 | 224 => 34 | 267 => 35 | 266 => 24 | 314 => 38 | n => n, fun | 9 => 9 | 3 => 3 | 4 => 4 | 5 => 5 | 0 => 0 | 46 => 40 | 146 => 42 | 51 => 41 | n => n, fun | 1 => 0 | n => n⟩
theorem Tryd.laysM138 : Go.Proofs.LaysM.n138 Tryd.prog Tryd.laysM138_ren := {
  mixed := by kernel_rfl
  f138 := Tryd.func26.trans (congrArg some (by kernel_rfl))
  f143 := Tryd.func22.trans (congrArg some (by kernel_rfl))
  f195 := Tryd.func30.trans (congrArg some (by kernel_rfl))
  f217 := Tryd.func20.trans (congrArg some (by kernel_rfl))
  f218 := Tryd.func32.trans (congrArg some (by kernel_rfl))
  f219 := Tryd.func27.trans (congrArg some (by kernel_rfl))
  f224 := Tryd.func34.trans (congrArg some (by kernel_rfl))
  f225 := Tryd.func33.trans (congrArg some (by kernel_rfl))
  f266 := Tryd.func24.trans (congrArg some (by kernel_rfl))
  f267 := Tryd.func35.trans (congrArg some (by kernel_rfl))
  f314 := Tryd.func38.trans (congrArg some (by kernel_rfl))
  t0 := Tryd.underlying0
  a0 := Tryd.isAgg0
  z0 := Tryd.sizeOf0
  v0 := Tryd.zeroValue0
  t3 := Tryd.underlying3
  a3 := Tryd.isAgg3
  z3 := Tryd.sizeOf3
  v3 := Tryd.zeroValue3
  t4 := Tryd.underlying4
  a4 := Tryd.isAgg4
  z4 := Tryd.sizeOf4
  v4 := Tryd.zeroValue4
  t5 := Tryd.underlying5
  a5 := Tryd.isAgg5
  z5 := Tryd.sizeOf5
  v5 := Tryd.zeroValue5
  t9 := Tryd.underlying9
  a9 := Tryd.isAgg9
  z9 := Tryd.sizeOf9
  v9 := Tryd.zeroValue9
  t46 := Tryd.underlying40
  a46 := Tryd.isAgg40
  z46 := Tryd.sizeOf40
  v46 := Tryd.zeroValue40
  t51 := Tryd.underlying41
  a51 := Tryd.isAgg41
  z51 := Tryd.sizeOf41
  v51 := Tryd.zeroValue41
  t146 := Tryd.underlying42
  a146 := Tryd.isAgg42
  z146 := Tryd.sizeOf42
  v146 := Tryd.zeroValue42
  g1 := by kernel_rfl
  i0 := by kernel_rfl
  i3 := by kernel_rfl
  i4 := by kernel_rfl
  i5 := by kernel_rfl
  i9 := by kernel_rfl
  i46 := by kernel_rfl
  i51 := by kernel_rfl
  i146 := by kernel_rfl
  m1 := by kernel_rfl
  s1_3 := fun w h => Go.Proofs.cell_of_shapedOpen_int (zero := #[.int .i64 0]) (t := 3) h (of_decide_eq_true (by kernel_rfl)) (by kernel_rfl) rfl (by kernel_rfl) (by kernel_rfl) Tryd.underlying3 }
open Go.RowKit Go.Lib in
theorem Tryd.strings_Count_shaped (s sub : ByteArray) (w : World) (h : w.ShapedOpen Tryd.prog) (hs : s.size < 4294967281) (h2 : 2 ≤ sub.size) :
    Calls Tryd.prog 26 #[.string s, .string sub] w fun e w' => e = .returned (.int .i64 (Lib.countB s sub)) ∧ w' = w := Any.strings_Count_shaped Tryd.laysM138 s sub w h hs h2
def Tryd.lays222_ren : Go.Shelf.Ren := ⟨fun | 222 => 28 | n => n, fun | 9 => 9 | 5 => 5 | 3 => 3 | 4 => 4 | n => n, fun | n => n⟩
theorem Tryd.lays222 : Go.Proofs.Lays.n222 Tryd.prog Tryd.lays222_ren := {
  mixed := by kernel_rfl
  f222 := Tryd.func28.trans (congrArg some (by kernel_rfl))
  t3 := Tryd.underlying3
  a3 := Tryd.isAgg3
  z3 := Tryd.sizeOf3
  v3 := Tryd.zeroValue3
  t4 := Tryd.underlying4
  a4 := Tryd.isAgg4
  z4 := Tryd.sizeOf4
  v4 := Tryd.zeroValue4
  t5 := Tryd.underlying5
  a5 := Tryd.isAgg5
  z5 := Tryd.sizeOf5
  v5 := Tryd.zeroValue5
  t9 := Tryd.underlying9
  a9 := Tryd.isAgg9
  z9 := Tryd.sizeOf9
  v9 := Tryd.zeroValue9 }
open Go.RowKit Go.Lib in
theorem Tryd.bytealg_LastIndexByteString_nm (s : ByteArray) (c : Int) (hs : s.size < 4611686018427387904) (w : World) :
    Calls Tryd.prog 28 #[.string s, .int .u8 c] w fun e w' => e = .returned (.int .i64 (Lib.lastIndexByte s c)) ∧ w' = w := Any.bytealg_LastIndexByteString_nm Tryd.lays222 s c hs w
def Tryd.lays148_ren : Go.Shelf.Ren := ⟨fun | 148 => 23 | 222 => 28 | 223 => 29 | 269 => 36 | n => n, fun | 9 => 9 | 3 => 3 | 4 => 4 | 5 => 5 | 146 => 42 | 51 => 41 | 46 => 40 | n => n, fun | n => n⟩
theorem Tryd.lays148 : Go.Proofs.Lays.n148 Tryd.prog Tryd.lays148_ren := {
  mixed := by kernel_rfl
  f148 := Tryd.func23.trans (congrArg some (by kernel_rfl))
  f222 := Tryd.func28.trans (congrArg some (by kernel_rfl))
  f223 := Tryd.func29.trans (congrArg some (by kernel_rfl))
  f269 := Tryd.func36.trans (congrArg some (by kernel_rfl))
  t3 := Tryd.underlying3
  a3 := Tryd.isAgg3
  z3 := Tryd.sizeOf3
  v3 := Tryd.zeroValue3
  t4 := Tryd.underlying4
  a4 := Tryd.isAgg4
  z4 := Tryd.sizeOf4
  v4 := Tryd.zeroValue4
  t5 := Tryd.underlying5
  a5 := Tryd.isAgg5
  z5 := Tryd.sizeOf5
  v5 := Tryd.zeroValue5
  t9 := Tryd.underlying9
  a9 := Tryd.isAgg9
  z9 := Tryd.sizeOf9
  v9 := Tryd.zeroValue9
  t46 := Tryd.underlying40
  a46 := Tryd.isAgg40
  z46 := Tryd.sizeOf40
  v46 := Tryd.zeroValue40
  t51 := Tryd.underlying41
  a51 := Tryd.isAgg41
  z51 := Tryd.sizeOf41
  v51 := Tryd.zeroValue41
  t146 := Tryd.underlying42
  a146 := Tryd.isAgg42
  z146 := Tryd.sizeOf42
  v146 := Tryd.zeroValue42 }
open Go.RowKit Go.Lib in
theorem Tryd.strings_LastIndex_one (s sub : ByteArray) (h1 : sub.size = 1) (hs : s.size < 4611686018427387904) (w : World) :
    Calls Tryd.prog 23 #[.string s, .string sub] w fun e w' => e = .returned (.int .i64 (Lib.lastIndexByte s ((sub[0]'(by omega)).toNat : Int))) ∧ w' = w := Any.strings_LastIndex_one Tryd.lays148 s sub h1 hs w
open Go.RowKit Go.Lib in
theorem Tryd.strings_LastIndex_empty (s sub : ByteArray) (h0 : sub.size = 0) (w : World) :
    Calls Tryd.prog 23 #[.string s, .string sub] w fun e w' => e = .returned (.int .i64 s.size) ∧ w' = w := Any.strings_LastIndex_empty Tryd.lays148 s sub h0 w
open Go.RowKit Go.Lib in
theorem Tryd.strings_LastIndex_longer (s sub : ByteArray) (h2 : 2 ≤ sub.size) (hl : s.size < sub.size) (w : World) :
    Calls Tryd.prog 23 #[.string s, .string sub] w fun e w' => e = .returned (.int .i64 (-1)) ∧ w' = w := Any.strings_LastIndex_longer Tryd.lays148 s sub h2 hl w
open Go.RowKit Go.Lib in
theorem Tryd.strings_LastIndex_whole (s sub : ByteArray) (h2 : 2 ≤ sub.size) (hl : sub.size = s.size) (w : World) :
    Calls Tryd.prog 23 #[.string s, .string sub] w fun e w' => e = .returned (.int .i64 (if sub = s then 0 else -1)) ∧ w' = w := Any.strings_LastIndex_whole Tryd.lays148 s sub h2 hl w
def Tryd.lays269_ren : Go.Shelf.Ren := ⟨fun | 269 => 36 | n => n, fun | 9 => 9 | 51 => 41 | 3 => 3 | 4 => 4 | 5 => 5 | 46 => 40 | n => n, fun | n => n⟩
theorem Tryd.lays269 : Go.Proofs.Lays.n269 Tryd.prog Tryd.lays269_ren := {
  mixed := by kernel_rfl
  f269 := Tryd.func36.trans (congrArg some (by kernel_rfl))
  t3 := Tryd.underlying3
  a3 := Tryd.isAgg3
  z3 := Tryd.sizeOf3
  v3 := Tryd.zeroValue3
  t4 := Tryd.underlying4
  a4 := Tryd.isAgg4
  z4 := Tryd.sizeOf4
  v4 := Tryd.zeroValue4
  t5 := Tryd.underlying5
  a5 := Tryd.isAgg5
  z5 := Tryd.sizeOf5
  v5 := Tryd.zeroValue5
  t9 := Tryd.underlying9
  a9 := Tryd.isAgg9
  z9 := Tryd.sizeOf9
  v9 := Tryd.zeroValue9
  t46 := Tryd.underlying40
  a46 := Tryd.isAgg40
  z46 := Tryd.sizeOf40
  v46 := Tryd.zeroValue40
  t51 := Tryd.underlying41
  a51 := Tryd.isAgg41
  z51 := Tryd.sizeOf41
  v51 := Tryd.zeroValue41 }
open Go.RowKit Go.Lib in
theorem Tryd.bytealg_hashStrRev (sep : ByteArray) (hs : sep.size < 4611686018427387904) (w : World) :
    Calls Tryd.prog 36 #[.string sep] w fun e w' => e = .returned (.tuple #[.int .u32 (RK.H sep.data.toList.reverse % 4294967296), .int .u32 (16777619 ^ sep.size % 4294967296)]) ∧ w' = w := Any.bytealg_hashStrRev Tryd.lays269 sep hs w
def Tryd.lays223_ren : Go.Shelf.Ren := ⟨fun | 223 => 29 | 269 => 36 | n => n, fun | 9 => 9 | 3 => 3 | 146 => 42 | 51 => 41 | 4 => 4 | 5 => 5 | 46 => 40 | n => n, fun | n => n⟩
theorem Tryd.lays223 : Go.Proofs.Lays.n223 Tryd.prog Tryd.lays223_ren := {
  mixed := by kernel_rfl
  f223 := Tryd.func29.trans (congrArg some (by kernel_rfl))
  f269 := Tryd.func36.trans (congrArg some (by kernel_rfl))
  t3 := Tryd.underlying3
  a3 := Tryd.isAgg3
  z3 := Tryd.sizeOf3
  v3 := Tryd.zeroValue3
  t4 := Tryd.underlying4
  a4 := Tryd.isAgg4
  z4 := Tryd.sizeOf4
  v4 := Tryd.zeroValue4
  t5 := Tryd.underlying5
  a5 := Tryd.isAgg5
  z5 := Tryd.sizeOf5
  v5 := Tryd.zeroValue5
  t9 := Tryd.underlying9
  a9 := Tryd.isAgg9
  z9 := Tryd.sizeOf9
  v9 := Tryd.zeroValue9
  t46 := Tryd.underlying40
  a46 := Tryd.isAgg40
  z46 := Tryd.sizeOf40
  v46 := Tryd.zeroValue40
  t51 := Tryd.underlying41
  a51 := Tryd.isAgg41
  z51 := Tryd.sizeOf41
  v51 := Tryd.zeroValue41
  t146 := Tryd.underlying42
  a146 := Tryd.isAgg42
  z146 := Tryd.sizeOf42
  v146 := Tryd.zeroValue42 }
open Go.RowKit Go.Lib in
theorem Tryd.bytealg_LastIndexRabinKarp (s sep : ByteArray) (h1 : 1 ≤ sep.size) (h2 : sep.size ≤ s.size) (hs : s.size < 4611686018427387904) (w : World) :
    Calls Tryd.prog 29 #[.string s, .string sep] w fun e w' => e = .returned (.int .i64 (Lib.lastIndex s.data.toList sep.data.toList)) ∧ w' = w := Any.bytealg_LastIndexRabinKarp Tryd.lays223 s sep h1 h2 hs w
open Go.RowKit Go.Lib in
theorem Tryd.strings_LastIndex_hash (s sub : ByteArray) (h2 : 2 ≤ sub.size) (hl : sub.size < s.size) (hs : s.size < 4611686018427387904) (w : World) :
    Calls Tryd.prog 23 #[.string s, .string sub] w fun e w' => e = .returned (.int .i64 (Lib.lastIndex s.data.toList sub.data.toList)) ∧ w' = w := Any.strings_LastIndex_hash Tryd.lays148 s sub h2 hl hs w
open Go.RowKit Go.Lib in
theorem Tryd.strings_LastIndex (s sub : ByteArray) (hs : s.size < 4611686018427387904) (w : World) :
    Calls Tryd.prog 23 #[.string s, .string sub] w fun e w' => e = .returned (.int .i64 (Lib.lastIndex s.data.toList sub.data.toList)) ∧ w' = w := Any.strings_LastIndex Tryd.lays148 s sub hs w
open Go.RowKit Go.Lib in
theorem Tryd.strings_Count_any (s sep : ByteArray) (m : Int) (w : World) (hs : s.size < 4294967281) (hm : w.cell? ⟨0, 0, none⟩ = some (.int .i64 m)) (h1 : 1 ≤ sep.size) :
    Calls Tryd.prog 26 #[.string s, .string sep] w fun e w' => e = .returned (.int .i64 (Lib.countB s sep)) ∧ w' = w := Any.strings_Count_any Tryd.lays138 s sep m w hs hm h1
def Tryd.lays221_ren : Go.Shelf.Ren := ⟨fun | 221 => 21 | 268 => 25 | 138 => 26 | 143 => 22 | 195 => 30 | 197 => 31 | 218 => 32 | 219 => 27 | 260 => 37 | 217 => 20 | 225 => 33 | 224 => 34 | 267 => 35 | 266 => 24 | 314 => 38 | n => n, fun | 9 => 9 | 3 => 3 | 31 => 23 | 4 => 4 | 0 => 0 | 105 => 37 | 21 => 21 | 5 => 5 | 46 => 40 | 119 => 44 | 139 => 47 | 138 => 46 | 146 => 42 | 51 => 41 | n => n, fun | 1 => 0 | 3 => 1 | 4 => 2 | n => n⟩
theorem Tryd.lays221 : Go.Proofs.Lays.n221 Tryd.prog Tryd.lays221_ren := {
  mixed := by kernel_rfl
  f138 := Tryd.func26.trans (congrArg some (by kernel_rfl))
  f143 := Tryd.func22.trans (congrArg some (by kernel_rfl))
  f195 := Tryd.func30.trans (congrArg some (by kernel_rfl))
  f197 := Tryd.func31.trans (congrArg some (by kernel_rfl))
  f217 := Tryd.func20.trans (congrArg some (by kernel_rfl))
  f218 := Tryd.func32.trans (congrArg some (by kernel_rfl))
  f219 := Tryd.func27.trans (congrArg some (by kernel_rfl))
  f221 := Tryd.func21.trans (congrArg some (by kernel_rfl))
  f224 := Tryd.func34.trans (congrArg some (by kernel_rfl))
  f225 := Tryd.func33.trans (congrArg some (by kernel_rfl))
  f260 := Tryd.func37.trans (congrArg some (by kernel_rfl))
  f266 := Tryd.func24.trans (congrArg some (by kernel_rfl))
  f267 := Tryd.func35.trans (congrArg some (by kernel_rfl))
  f268 := Tryd.func25.trans (congrArg some (by kernel_rfl))
  f314 := Tryd.func38.trans (congrArg some (by kernel_rfl))
  t0 := Tryd.underlying0
  a0 := Tryd.isAgg0
  z0 := Tryd.sizeOf0
  v0 := Tryd.zeroValue0
  t3 := Tryd.underlying3
  a3 := Tryd.isAgg3
  z3 := Tryd.sizeOf3
  v3 := Tryd.zeroValue3
  t4 := Tryd.underlying4
  a4 := Tryd.isAgg4
  z4 := Tryd.sizeOf4
  v4 := Tryd.zeroValue4
  t5 := Tryd.underlying5
  a5 := Tryd.isAgg5
  z5 := Tryd.sizeOf5
  v5 := Tryd.zeroValue5
  t9 := Tryd.underlying9
  a9 := Tryd.isAgg9
  z9 := Tryd.sizeOf9
  v9 := Tryd.zeroValue9
  t21 := Tryd.underlying21
  a21 := Tryd.isAgg21
  z21 := Tryd.sizeOf21
  v21 := Tryd.zeroValue21
  t31 := Tryd.underlying23
  a31 := Tryd.isAgg23
  z31 := Tryd.sizeOf23
  v31 := Tryd.zeroValue23
  t46 := Tryd.underlying40
  a46 := Tryd.isAgg40
  z46 := Tryd.sizeOf40
  v46 := Tryd.zeroValue40
  t51 := Tryd.underlying41
  a51 := Tryd.isAgg41
  z51 := Tryd.sizeOf41
  v51 := Tryd.zeroValue41
  t105 := Tryd.underlying37
  a105 := Tryd.isAgg37
  z105 := Tryd.sizeOf37
  v105 := Tryd.zeroValue37
  t119 := Tryd.underlying44
  a119 := Tryd.isAgg44
  z119 := Tryd.sizeOf44
  t138 := Tryd.underlying46
  a138 := Tryd.isAgg46
  z138 := Tryd.sizeOf46
  v138 := Tryd.zeroValue46
  t139 := Tryd.underlying47
  a139 := Tryd.isAgg47
  z139 := Tryd.sizeOf47
  v139 := Tryd.zeroValue47
  t146 := Tryd.underlying42
  a146 := Tryd.isAgg42
  z146 := Tryd.sizeOf42
  v146 := Tryd.zeroValue42
  g1 := by kernel_rfl
  g3 := by kernel_rfl
  g4 := by kernel_rfl }
open Go.RowKit Go.Lib in
theorem Tryd.strings_genSplit (s sep : ByteArray) (sv : Nat) (n : Int) (N : Nat) (m : Int) (w : World) (hs : s.size < 4294967281) (hm : w.cell? ⟨0, 0, none⟩ = some (.int .i64 m)) (h1 : 1 ≤ sep.size) (hsv : sv ≤ sep.size) (hn0 : n ≠ 0) (hn63 : n ≤ 9223372036854775807) (hN : (N : Int) = min (if n < 0 then (Lib.countB s sep : Int) + 1 else n) ((s.size : Int) + 1)) :
    Calls Tryd.prog 21 #[.string s, .string sep, .int .i64 sv, .int .i64 n] w fun e w' =>
      e = .returned (.slice (some ⟨w.heap.size, 0, none⟩) (Lib.splitB sep sv (N - 1) s).length N) ∧ w' = w.alloc (.cells (Lib.cellsOf (Lib.splitB sep sv (N - 1) s) N) 9) := Any.strings_genSplit Tryd.lays221 (by kernel_rfl) s sep sv n N m w hs hm h1 hsv hn0 hn63 hN
def Tryd.lays146_ren : Go.Shelf.Ren := ⟨fun | 146 => 17 | 221 => 21 | 268 => 25 | 138 => 26 | 143 => 22 | 195 => 30 | 197 => 31 | 218 => 32 | 219 => 27 | 260 => 37 | 217 => 20 | 225 => 33 | 224 => 34 | 267 => 35 | 266 => 24 | 314 => 38 | n => n, fun | 9 => 9 | 31 => 23 | 3 => 3 | 4 => 4 | 0 => 0 | 105 => 37 | 21 => 21 | 5 => 5 | 46 => 40 | 119 => 44 | 139 => 47 | 138 => 46 | 146 => 42 | 51 => 41 | n => n, fun | 1 => 0 | 3 => 1 | 4 => 2 | n => n⟩
theorem Tryd.lays146 : Go.Proofs.Lays.n146 Tryd.prog Tryd.lays146_ren := {
  mixed := by kernel_rfl
  f138 := Tryd.func26.trans (congrArg some (by kernel_rfl))
  f143 := Tryd.func22.trans (congrArg some (by kernel_rfl))
  f146 := Tryd.func17.trans (congrArg some (by kernel_rfl))
  f195 := Tryd.func30.trans (congrArg some (by kernel_rfl))
  f197 := Tryd.func31.trans (congrArg some (by kernel_rfl))
  f217 := Tryd.func20.trans (congrArg some (by kernel_rfl))
  f218 := Tryd.func32.trans (congrArg some (by kernel_rfl))
  f219 := Tryd.func27.trans (congrArg some (by kernel_rfl))
  f221 := Tryd.func21.trans (congrArg some (by kernel_rfl))
  f224 := Tryd.func34.trans (congrArg some (by kernel_rfl))
  f225 := Tryd.func33.trans (congrArg some (by kernel_rfl))
  f260 := Tryd.func37.trans (congrArg some (by kernel_rfl))
  f266 := Tryd.func24.trans (congrArg some (by kernel_rfl))
  f267 := Tryd.func35.trans (congrArg some (by kernel_rfl))
  f268 := Tryd.func25.trans (congrArg some (by kernel_rfl))
  f314 := Tryd.func38.trans (congrArg some (by kernel_rfl))
  t0 := Tryd.underlying0
  a0 := Tryd.isAgg0
  z0 := Tryd.sizeOf0
  v0 := Tryd.zeroValue0
  t3 := Tryd.underlying3
  a3 := Tryd.isAgg3
  z3 := Tryd.sizeOf3
  v3 := Tryd.zeroValue3
  t4 := Tryd.underlying4
  a4 := Tryd.isAgg4
  z4 := Tryd.sizeOf4
  v4 := Tryd.zeroValue4
  t5 := Tryd.underlying5
  a5 := Tryd.isAgg5
  z5 := Tryd.sizeOf5
  v5 := Tryd.zeroValue5
  t9 := Tryd.underlying9
  a9 := Tryd.isAgg9
  z9 := Tryd.sizeOf9
  v9 := Tryd.zeroValue9
  t21 := Tryd.underlying21
  a21 := Tryd.isAgg21
  z21 := Tryd.sizeOf21
  v21 := Tryd.zeroValue21
  t31 := Tryd.underlying23
  a31 := Tryd.isAgg23
  z31 := Tryd.sizeOf23
  v31 := Tryd.zeroValue23
  t46 := Tryd.underlying40
  a46 := Tryd.isAgg40
  z46 := Tryd.sizeOf40
  v46 := Tryd.zeroValue40
  t51 := Tryd.underlying41
  a51 := Tryd.isAgg41
  z51 := Tryd.sizeOf41
  v51 := Tryd.zeroValue41
  t105 := Tryd.underlying37
  a105 := Tryd.isAgg37
  z105 := Tryd.sizeOf37
  v105 := Tryd.zeroValue37
  t119 := Tryd.underlying44
  a119 := Tryd.isAgg44
  z119 := Tryd.sizeOf44
  t138 := Tryd.underlying46
  a138 := Tryd.isAgg46
  z138 := Tryd.sizeOf46
  v138 := Tryd.zeroValue46
  t139 := Tryd.underlying47
  a139 := Tryd.isAgg47
  z139 := Tryd.sizeOf47
  v139 := Tryd.zeroValue47
  t146 := Tryd.underlying42
  a146 := Tryd.isAgg42
  z146 := Tryd.sizeOf42
  v146 := Tryd.zeroValue42
  g1 := by kernel_rfl
  g3 := by kernel_rfl
  g4 := by kernel_rfl }
open Go.RowKit Go.Lib in
theorem Tryd.strings_Split (s sep : ByteArray) (m : Int) (w : World) (hs : s.size < 4294967281) (hm : w.cell? ⟨0, 0, none⟩ = some (.int .i64 m)) (h1 : 1 ≤ sep.size) :
    Calls Tryd.prog 17 #[.string s, .string sep] w fun e w' =>
      e = .returned (.slice (some ⟨w.heap.size, 0, none⟩) (Lib.countB s sep + 1) (Lib.countB s sep + 1)) ∧ w' = w.alloc (.cells ((Lib.splitB sep 0 (Lib.countB s sep) s).map Value.string).toArray 9) := Any.strings_Split Tryd.lays146 (by kernel_rfl) s sep m w hs hm h1
def Tryd.lays197_ren : Go.Shelf.Ren := ⟨fun | 197 => 31 | 260 => 37 | n => n, fun | 9 => 9 | 21 => 21 | 3 => 3 | 4 => 4 | 5 => 5 | 105 => 37 | 119 => 44 | 0 => 0 | 46 => 40 | 139 => 47 | 138 => 46 | n => n, fun | 3 => 1 | 4 => 2 | n => n⟩
theorem Tryd.lays197 : Go.Proofs.Lays.n197 Tryd.prog Tryd.lays197_ren := {
  mixed := by kernel_rfl
  f197 := Tryd.func31.trans (congrArg some (by kernel_rfl))
  f260 := Tryd.func37.trans (congrArg some (by kernel_rfl))
  t0 := Tryd.underlying0
  a0 := Tryd.isAgg0
  z0 := Tryd.sizeOf0
  v0 := Tryd.zeroValue0
  t3 := Tryd.underlying3
  a3 := Tryd.isAgg3
  z3 := Tryd.sizeOf3
  v3 := Tryd.zeroValue3
  t4 := Tryd.underlying4
  a4 := Tryd.isAgg4
  z4 := Tryd.sizeOf4
  v4 := Tryd.zeroValue4
  t5 := Tryd.underlying5
  a5 := Tryd.isAgg5
  z5 := Tryd.sizeOf5
  v5 := Tryd.zeroValue5
  t9 := Tryd.underlying9
  a9 := Tryd.isAgg9
  z9 := Tryd.sizeOf9
  v9 := Tryd.zeroValue9
  t21 := Tryd.underlying21
  a21 := Tryd.isAgg21
  z21 := Tryd.sizeOf21
  v21 := Tryd.zeroValue21
  t46 := Tryd.underlying40
  a46 := Tryd.isAgg40
  z46 := Tryd.sizeOf40
  v46 := Tryd.zeroValue40
  t105 := Tryd.underlying37
  a105 := Tryd.isAgg37
  z105 := Tryd.sizeOf37
  v105 := Tryd.zeroValue37
  t119 := Tryd.underlying44
  a119 := Tryd.isAgg44
  z119 := Tryd.sizeOf44
  t138 := Tryd.underlying46
  a138 := Tryd.isAgg46
  z138 := Tryd.sizeOf46
  v138 := Tryd.zeroValue46
  t139 := Tryd.underlying47
  a139 := Tryd.isAgg47
  z139 := Tryd.sizeOf47
  v139 := Tryd.zeroValue47
  g3 := by kernel_rfl
  g4 := by kernel_rfl }
open Go.RowKit Go.Lib in
theorem Tryd.utf8_DecodeRuneInString_ascii (s : ByteArray) (x : UInt8) (w : World) (h0 : s.data.toList[0]? = some x) (hx : x.toNat < 128) :
    Calls Tryd.prog 31 #[.string s] w fun e w' => e = .returned (.tuple #[.int .i32 x.toNat, .int .i64 1]) ∧ w' = w := Any.utf8_DecodeRuneInString_ascii Tryd.lays197 s x w h0 hx
open Go.RowKit Go.Lib in
theorem Tryd.utf8_RuneCountInString_ascii (s : ByteArray) (w : World) (hs : s.size < 4294967281) (hascii : ∀ (j : Nat) b, s.data.toList[j]? = some b → b.toNat < 128) :
    Calls Tryd.prog 30 #[.string s] w fun e w' => e = .returned (.int .i64 s.size) ∧ w' = w.iter s s.size := Any.utf8_RuneCountInString_ascii Tryd.lays195 s w hs hascii
def Tryd.lays268_ren : Go.Shelf.Ren := ⟨fun | 268 => 25 | 195 => 30 | 197 => 31 | 260 => 37 | n => n, fun | 9 => 9 | 3 => 3 | 31 => 23 | 4 => 4 | 105 => 37 | 21 => 21 | 0 => 0 | 5 => 5 | 119 => 44 | 46 => 40 | 139 => 47 | 138 => 46 | n => n, fun | 3 => 1 | 4 => 2 | n => n⟩
theorem Tryd.lays268 : Go.Proofs.Lays.n268 Tryd.prog Tryd.lays268_ren := {
  mixed := by kernel_rfl
  f195 := Tryd.func30.trans (congrArg some (by kernel_rfl))
  f197 := Tryd.func31.trans (congrArg some (by kernel_rfl))
  f260 := Tryd.func37.trans (congrArg some (by kernel_rfl))
  f268 := Tryd.func25.trans (congrArg some (by kernel_rfl))
  t0 := Tryd.underlying0
  a0 := Tryd.isAgg0
  z0 := Tryd.sizeOf0
  v0 := Tryd.zeroValue0
  t3 := Tryd.underlying3
  a3 := Tryd.isAgg3
  z3 := Tryd.sizeOf3
  v3 := Tryd.zeroValue3
  t4 := Tryd.underlying4
  a4 := Tryd.isAgg4
  z4 := Tryd.sizeOf4
  v4 := Tryd.zeroValue4
  t5 := Tryd.underlying5
  a5 := Tryd.isAgg5
  z5 := Tryd.sizeOf5
  v5 := Tryd.zeroValue5
  t9 := Tryd.underlying9
  a9 := Tryd.isAgg9
  z9 := Tryd.sizeOf9
  v9 := Tryd.zeroValue9
  t21 := Tryd.underlying21
  a21 := Tryd.isAgg21
  z21 := Tryd.sizeOf21
  v21 := Tryd.zeroValue21
  t31 := Tryd.underlying23
  a31 := Tryd.isAgg23
  z31 := Tryd.sizeOf23
  v31 := Tryd.zeroValue23
  t46 := Tryd.underlying40
  a46 := Tryd.isAgg40
  z46 := Tryd.sizeOf40
  v46 := Tryd.zeroValue40
  t105 := Tryd.underlying37
  a105 := Tryd.isAgg37
  z105 := Tryd.sizeOf37
  v105 := Tryd.zeroValue37
  t119 := Tryd.underlying44
  a119 := Tryd.isAgg44
  z119 := Tryd.sizeOf44
  t138 := Tryd.underlying46
  a138 := Tryd.isAgg46
  z138 := Tryd.sizeOf46
  v138 := Tryd.zeroValue46
  t139 := Tryd.underlying47
  a139 := Tryd.isAgg47
  z139 := Tryd.sizeOf47
  v139 := Tryd.zeroValue47
  g3 := by kernel_rfl
  g4 := by kernel_rfl }
open Go.RowKit Go.Lib in
theorem Tryd.strings_explode_all (s : ByteArray) (n : Int) (w : World) (hn : n < 0) (hs : s.size < 4294967281) (hascii : ∀ (j : Nat) b, s.data.toList[j]? = some b → b.toNat < 128) :
    Calls Tryd.prog 25 #[.string s, .int .i64 n] w fun e w' =>
      e = .returned (.slice (some ⟨(w.iter s s.size).heap.size, 0, none⟩) s.size s.size) ∧ w' = (w.iter s s.size).alloc (.cells ((Lib.charsB s).map Value.string).toArray 9) := Any.strings_explode_all Tryd.lays268 (by kernel_rfl) s n w hn hs hascii
open Go.RowKit Go.Lib in
theorem Tryd.strings_genSplit_chars (s sep : ByteArray) (sv n : Int) (w : World) (h0 : sep.size = 0) (hn : n < 0) (hs : s.size < 4294967281) (hascii : ∀ (j : Nat) b, s.data.toList[j]? = some b → b.toNat < 128) :
    Calls Tryd.prog 21 #[.string s, .string sep, .int .i64 sv, .int .i64 n] w fun e w' =>
      e = .returned (.slice (some ⟨(w.iter s s.size).heap.size, 0, none⟩) s.size s.size) ∧ w' = (w.iter s s.size).alloc (.cells ((Lib.charsB s).map Value.string).toArray 9) := Any.strings_genSplit_chars Tryd.lays221 (by kernel_rfl) s sep sv n w h0 hn hs hascii
open Go.RowKit Go.Lib in
theorem Tryd.strings_Split_chars (s sep : ByteArray) (w : World) (h0 : sep.size = 0) (hs : s.size < 4294967281) (hascii : ∀ (j : Nat) b, s.data.toList[j]? = some b → b.toNat < 128) :
    Calls Tryd.prog 17 #[.string s, .string sep] w fun e w' =>
      e = .returned (.slice (some ⟨(w.iter s s.size).heap.size, 0, none⟩) s.size s.size) ∧ w' = (w.iter s s.size).alloc (.cells ((Lib.charsB s).map Value.string).toArray 9) := Any.strings_Split_chars Tryd.lays146 (by kernel_rfl) s sep w h0 hs hascii
def Tryd.lays260_ren : Go.Shelf.Ren := ⟨fun | 260 => 37 | n => n, fun | 9 => 9 | 21 => 21 | 3 => 3 | 4 => 4 | 5 => 5 | 119 => 44 | 0 => 0 | 46 => 40 | 139 => 47 | 138 => 46 | n => n, fun | 3 => 1 | 4 => 2 | n => n⟩
theorem Tryd.lays260 : Go.Proofs.Lays.n260 Tryd.prog Tryd.lays260_ren := {
  mixed := by kernel_rfl
  f260 := Tryd.func37.trans (congrArg some (by kernel_rfl))
  t0 := Tryd.underlying0
  a0 := Tryd.isAgg0
  z0 := Tryd.sizeOf0
  v0 := Tryd.zeroValue0
  t3 := Tryd.underlying3
  a3 := Tryd.isAgg3
  z3 := Tryd.sizeOf3
  v3 := Tryd.zeroValue3
  t4 := Tryd.underlying4
  a4 := Tryd.isAgg4
  z4 := Tryd.sizeOf4
  v4 := Tryd.zeroValue4
  t5 := Tryd.underlying5
  a5 := Tryd.isAgg5
  z5 := Tryd.sizeOf5
  v5 := Tryd.zeroValue5
  t9 := Tryd.underlying9
  a9 := Tryd.isAgg9
  z9 := Tryd.sizeOf9
  v9 := Tryd.zeroValue9
  t21 := Tryd.underlying21
  a21 := Tryd.isAgg21
  z21 := Tryd.sizeOf21
  v21 := Tryd.zeroValue21
  t46 := Tryd.underlying40
  a46 := Tryd.isAgg40
  z46 := Tryd.sizeOf40
  v46 := Tryd.zeroValue40
  t119 := Tryd.underlying44
  a119 := Tryd.isAgg44
  z119 := Tryd.sizeOf44
  t138 := Tryd.underlying46
  a138 := Tryd.isAgg46
  z138 := Tryd.sizeOf46
  v138 := Tryd.zeroValue46
  t139 := Tryd.underlying47
  a139 := Tryd.isAgg47
  z139 := Tryd.sizeOf47
  v139 := Tryd.zeroValue47
  g3 := by kernel_rfl
  g4 := by kernel_rfl }
open Go.RowKit Go.Lib in
theorem Tryd.utf8_decodeRuneInStringSlow (s : ByteArray) (w : World) (hT : Lib.Utf8Tabs 1 2 w) :
    Calls Tryd.prog 37 #[.string s] w fun e w' => e = .returned (.tuple #[.int .i32 (Lib.decodeGo s).1, .int .i64 (Lib.decodeGo s).2]) ∧ Below w.heap.size w w' := Any.utf8_decodeRuneInStringSlow Tryd.lays260 s w hT
open Go.RowKit Go.Lib in
theorem Tryd.utf8_DecodeRuneInString (s : ByteArray) (w : World) (hT : Lib.Utf8Tabs 1 2 w) :
    Calls Tryd.prog 31 #[.string s] w fun e w' => e = .returned (.tuple #[.int .i32 (Lib.decodeGo s).1, .int .i64 (Lib.decodeGo s).2]) ∧ Below w.heap.size w w' := Any.utf8_DecodeRuneInString Tryd.lays197 s w hT
end Go.Proofs
