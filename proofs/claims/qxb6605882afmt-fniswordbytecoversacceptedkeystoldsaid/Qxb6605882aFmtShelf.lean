/-
  The shelf's contracts at this dump, written by the kit's own commands (lay-shelf, lay-plain) for this program; those that the road does not need are struck.
-/
import Derived.Shelf.Strings.Search3
import Derived.Test.Qxb6605882aFmtProg
namespace Go.Proofs
open Go.Shelf
def Tryf.lays219_ren : Go.Shelf.Ren := ⟨fun | 219 => 39 | 217 => 43 | 225 => 44 | 224 => 45 | 267 => 46 | 266 => 55 | 314 => 56 | n => n, fun | 9 => 9 | 3 => 3 | 4 => 4 | 5 => 5 | 46 => 71 | 146 => 81 | 51 => 80 | n => n, fun | 1 => 0 | n => n⟩
theorem Tryf.lays219 : Go.Proofs.Lays.n219 Tryf.prog Tryf.lays219_ren := {
  mixed := by kernel_rfl
  f217 := Tryf.func43.trans (congrArg some (by kernel_rfl))
  f219 := Tryf.func39.trans (congrArg some (by kernel_rfl))
  f224 := Tryf.func45.trans (congrArg some (by kernel_rfl))
  f225 := Tryf.func44.trans (congrArg some (by kernel_rfl))
  f266 := Tryf.func55.trans (congrArg some (by kernel_rfl))
  f267 := Tryf.func46.trans (congrArg some (by kernel_rfl))
  f314 := Tryf.func56.trans (congrArg some (by kernel_rfl))
  t3 := Tryf.underlying3
  a3 := Tryf.isAgg3
  z3 := Tryf.sizeOf3
  v3 := Tryf.zeroValue3
  t4 := Tryf.underlying4
  a4 := Tryf.isAgg4
  z4 := Tryf.sizeOf4
  v4 := Tryf.zeroValue4
  t5 := Tryf.underlying5
  a5 := Tryf.isAgg5
  z5 := Tryf.sizeOf5
  v5 := Tryf.zeroValue5
  t9 := Tryf.underlying9
  a9 := Tryf.isAgg9
  z9 := Tryf.sizeOf9
  v9 := Tryf.zeroValue9
  t46 := Tryf.underlying71
  a46 := Tryf.isAgg71
  z46 := Tryf.sizeOf71
  v46 := Tryf.zeroValue71
  t51 := Tryf.underlying80
  a51 := Tryf.isAgg80
  z51 := Tryf.sizeOf80
  v51 := Tryf.zeroValue80
  t146 := Tryf.underlying81
  a146 := Tryf.isAgg81
  z146 := Tryf.sizeOf81
  v146 := Tryf.zeroValue81
  g1 := by kernel_rfl }
open Go.RowKit Go.Lib in
theorem Tryf.stringslite_Index_one (s : ByteArray) (c : UInt8) (w : World) :
    Calls Tryf.prog 39 #[.string s, .string ⟨#[c]⟩] w fun e w' => e = .returned (.int .i64 (Lib.indexByte s.data.toList c)) ∧ w' = w := Any.stringslite_Index_one Tryf.lays219 s c w
def Tryf.lays143_ren : Go.Shelf.Ren := ⟨fun | 143 => 49 | 219 => 39 | 217 => 43 | 225 => 44 | 224 => 45 | 267 => 46 | 266 => 55 | 314 => 56 | n => n, fun | 9 => 9 | 3 => 3 | 4 => 4 | 5 => 5 | 46 => 71 | 146 => 81 | 51 => 80 | n => n, fun | 1 => 0 | n => n⟩
theorem Tryf.lays143 : Go.Proofs.Lays.n143 Tryf.prog Tryf.lays143_ren := {
  mixed := by kernel_rfl
  f143 := Tryf.func49.trans (congrArg some (by kernel_rfl))
  f217 := Tryf.func43.trans (congrArg some (by kernel_rfl))
  f219 := Tryf.func39.trans (congrArg some (by kernel_rfl))
  f224 := Tryf.func45.trans (congrArg some (by kernel_rfl))
  f225 := Tryf.func44.trans (congrArg some (by kernel_rfl))
  f266 := Tryf.func55.trans (congrArg some (by kernel_rfl))
  f267 := Tryf.func46.trans (congrArg some (by kernel_rfl))
  f314 := Tryf.func56.trans (congrArg some (by kernel_rfl))
  t3 := Tryf.underlying3
  a3 := Tryf.isAgg3
  z3 := Tryf.sizeOf3
  v3 := Tryf.zeroValue3
  t4 := Tryf.underlying4
  a4 := Tryf.isAgg4
  z4 := Tryf.sizeOf4
  v4 := Tryf.zeroValue4
  t5 := Tryf.underlying5
  a5 := Tryf.isAgg5
  z5 := Tryf.sizeOf5
  v5 := Tryf.zeroValue5
  t9 := Tryf.underlying9
  a9 := Tryf.isAgg9
  z9 := Tryf.sizeOf9
  v9 := Tryf.zeroValue9
  t46 := Tryf.underlying71
  a46 := Tryf.isAgg71
  z46 := Tryf.sizeOf71
  v46 := Tryf.zeroValue71
  t51 := Tryf.underlying80
  a51 := Tryf.isAgg80
  z51 := Tryf.sizeOf80
  v51 := Tryf.zeroValue80
  t146 := Tryf.underlying81
  a146 := Tryf.isAgg81
  z146 := Tryf.sizeOf81
  v146 := Tryf.zeroValue81
  g1 := by kernel_rfl }
open Go.RowKit Go.Lib in
theorem Tryf.strings_Index_one (s : ByteArray) (c : UInt8) (w : World) :
    Calls Tryf.prog 49 #[.string s, .string ⟨#[c]⟩] w fun e w' => e = .returned (.int .i64 (Lib.indexByte s.data.toList c)) ∧ w' = w := Any.strings_Index_one Tryf.lays143 s c w
end Go.Proofs
