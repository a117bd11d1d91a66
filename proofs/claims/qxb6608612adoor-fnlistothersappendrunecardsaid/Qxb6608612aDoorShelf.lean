/-
  The shelf's contracts at this dump, written by the kit's own commands (lay-shelf, lay-plain) for this program.
-/
import Derived.Shelf.Strings.Builder1
import Derived.Shelf.Strings.Builder2
import Derived.Shelf.Strings.OnBuilder
import Derived.Shelf.Small.Utf8
import Derived.Shelf.Small.Strs
import Derived.Shelf.Utf8.RuneCount
import Derived.Shelf.Strings.Search1
import Derived.Shelf.Strings.Search2
import Derived.Shelf.Strings.Search3
import Derived.Shelf.Strings.Count
import Derived.Shelf.LaysM
import Derived.Shelf.Strings.Shaped
import Derived.Shelf.Strings.Split
import Derived.Shelf.Strings.SplitShaped
import Derived.Shelf.Unicode.Decode
import Derived.Shelf.Strings.Runes
import Derived.Shelf.Strings.RuneCount
import Derived.Shelf.Strings.Explode
import Derived.Shelf.Unicode.DecodeSlow
import Derived.Shelf.Unicode.DecodeAny
import Derived.Test.Qxb6608612aDoorProg
namespace Go.Proofs
open Go.Shelf
def Tryd.lays169_ren : Go.Shelf.Ren := ⟨fun | 169 => 25 | n => n, fun | 70 => 41 | 9 => 9 | 0 => 0 | 72 => 43 | 37 => 33 | 127 => 52 | 3 => 3 | 5 => 5 | n => n, fun | n => n⟩
theorem Tryd.lays169 : Go.Proofs.Lays.n169 Tryd.prog Tryd.lays169_ren := {
  mixed := by kernel_rfl
  f169 := Tryd.func25.trans (congrArg some (by kernel_rfl))
  t0 := Tryd.underlying0
  a0 := Tryd.isAgg0
  z0 := Tryd.sizeOf0
  v0 := Tryd.zeroValue0
  t3 := Tryd.underlying3
  a3 := Tryd.isAgg3
  z3 := Tryd.sizeOf3
  v3 := Tryd.zeroValue3
  t9 := Tryd.underlying9
  a9 := Tryd.isAgg9
  z9 := Tryd.sizeOf9
  v9 := Tryd.zeroValue9
  t37 := Tryd.underlying33
  a37 := Tryd.isAgg33
  z37 := Tryd.sizeOf33
  v37 := Tryd.zeroValue33
  t70 := Tryd.underlying41
  a70 := Tryd.isAgg41
  z70 := Tryd.sizeOf41
  v70 := Tryd.zeroValue41
  t72 := Tryd.underlying43
  a72 := Tryd.isAgg43
  z72 := Tryd.sizeOf43
  v72 := Tryd.zeroValue43
  t127 := Tryd.underlying52
  a127 := Tryd.isAgg52
  z127 := Tryd.sizeOf52
  v127 := Tryd.zeroValue52 }
theorem Tryd.Builder_Extra_169 : Builder.Extra Tryd.prog Tryd.lays169_ren := {
  sizeBuilder := by kernel_rfl
  liesBuilder := by kernel_rfl
  t5 := Tryd.underlying5
  a5 := Tryd.isAgg5
  z5 := Tryd.sizeOf5
  v5 := Tryd.zeroValue5
  infoByte := by kernel_rfl
  cellsByte := by kernel_rfl
  sizeByte := by kernel_rfl
  neB5 := by decide }
open Go.RowKit in
theorem Tryd.Builder_String (B b : Nat) (l : List UInt8) (w : World) (h : Lib.IsBuilder 43 5 B b (Lib.byteCells l) w) (h0 : l ≠ []) :
    Calls Tryd.prog 25 #[.pointer (some ⟨b, 0, none⟩)] w fun e w' => e = .returned (.string ⟨l.toArray⟩) ∧ Below B w w' := Any.Builder_String Tryd.lays169 Tryd.Builder_Extra_169 B b l w h h0
open Go.RowKit in
theorem Tryd.Builder_String_empty (B b : Nat) (w : World) (h : Lib.IsBuilder 43 5 B b [] w) (hBw : B ≤ w.heap.size) :
    Calls Tryd.prog 25 #[.pointer (some ⟨b, 0, none⟩)] w fun e w' => e = .returned (.string ⟨#[]⟩) ∧ Below B w w' := Any.Builder_String_empty Tryd.lays169 Tryd.Builder_Extra_169 B b w h hBw
open Go.RowKit in
theorem Tryd.Builder_String_any (B b : Nat) (l : List UInt8) (w : World) (h : Lib.IsBuilder 43 5 B b (Lib.byteCells l) w) (hBw : B ≤ w.heap.size) :
    Calls Tryd.prog 25 #[.pointer (some ⟨b, 0, none⟩)] w fun e w' => e = .returned (.string ⟨l.toArray⟩) ∧ Below B w w' := Any.Builder_String_any Tryd.lays169 Tryd.Builder_Extra_169 B b l w h hBw
def Tryd.lays241_ren : Go.Shelf.Ren := ⟨fun | 241 => 31 | 277 => 41 | n => n, fun | 70 => 41 | 3 => 3 | 0 => 0 | 72 => 43 | 37 => 33 | 5 => 5 | n => n, fun | n => n⟩
theorem Tryd.lays241 : Go.Proofs.Lays.n241 Tryd.prog Tryd.lays241_ren := {
  mixed := by kernel_rfl
  f241 := Tryd.func31.trans (congrArg some (by kernel_rfl))
  f277 := Tryd.func41.trans (congrArg some (by kernel_rfl))
  t0 := Tryd.underlying0
  a0 := Tryd.isAgg0
  z0 := Tryd.sizeOf0
  v0 := Tryd.zeroValue0
  t3 := Tryd.underlying3
  a3 := Tryd.isAgg3
  z3 := Tryd.sizeOf3
  v3 := Tryd.zeroValue3
  t37 := Tryd.underlying33
  a37 := Tryd.isAgg33
  z37 := Tryd.sizeOf33
  v37 := Tryd.zeroValue33
  t70 := Tryd.underlying41
  a70 := Tryd.isAgg41
  z70 := Tryd.sizeOf41
  v70 := Tryd.zeroValue41
  t72 := Tryd.underlying43
  a72 := Tryd.isAgg43
  z72 := Tryd.sizeOf43
  v72 := Tryd.zeroValue43 }
theorem Tryd.Builder_Extra_241 : Builder.Extra Tryd.prog Tryd.lays241_ren := {
  sizeBuilder := by kernel_rfl
  liesBuilder := by kernel_rfl
  t5 := Tryd.underlying5
  a5 := Tryd.isAgg5
  z5 := Tryd.sizeOf5
  v5 := Tryd.zeroValue5
  infoByte := by kernel_rfl
  cellsByte := by kernel_rfl
  sizeByte := by kernel_rfl
  neB5 := by decide }
open Go.RowKit in
theorem Tryd.Builder_grow_fresh (B b n : Nat) (w : World) (hB : B ≤ b) (hbk : w.heap[b]? = some (.cells #[.pointer (some ⟨b, 0, none⟩), .slice none 0 0] 43 (0, 0))) (hBw : B ≤ w.heap.size) (hn : n ≤ 281474976710656) :
    Calls Tryd.prog 31 #[.pointer (some ⟨b, 0, none⟩), .int .i64 n] w fun e w' => e = .returned (.tuple #[]) ∧ (Lib.BuilderAt 43 5 B b (.pointer (some ⟨b, 0, none⟩)) [] w' ∧ Below B w w') := Any.Builder_grow_fresh Tryd.lays241 Tryd.Builder_Extra_241 B b n w hB hbk hBw hn
def Tryd.lays165_ren : Go.Shelf.Ren := ⟨fun | 165 => 23 | 240 => 30 | 241 => 31 | 276 => 40 | 277 => 41 | n => n, fun | 70 => 41 | 3 => 3 | 0 => 0 | 4 => 4 | 9 => 9 | 20 => 20 | 72 => 43 | 37 => 33 | 164 => 57 | 5 => 5 | n => n, fun | n => n⟩
theorem Tryd.lays165 : Go.Proofs.Lays.n165 Tryd.prog Tryd.lays165_ren := {
  mixed := by kernel_rfl
  f165 := Tryd.func23.trans (congrArg some (by kernel_rfl))
  f240 := Tryd.func30.trans (congrArg some (by kernel_rfl))
  f241 := Tryd.func31.trans (congrArg some (by kernel_rfl))
  f276 := Tryd.func40.trans (congrArg some (by kernel_rfl))
  f277 := Tryd.func41.trans (congrArg some (by kernel_rfl))
  t0 := Tryd.underlying0
  a0 := Tryd.isAgg0
  z0 := Tryd.sizeOf0
  v0 := Tryd.zeroValue0
  t3 := Tryd.underlying3
  a3 := Tryd.isAgg3
  z3 := Tryd.sizeOf3
  v3 := Tryd.zeroValue3
  t4 := Tryd.underlying4
  a4 := Tryd.isAgg4
  z4 := Tryd.sizeOf4
  v4 := Tryd.zeroValue4
  t9 := Tryd.underlying9
  a9 := Tryd.isAgg9
  z9 := Tryd.sizeOf9
  v9 := Tryd.zeroValue9
  t20 := Tryd.underlying20
  a20 := Tryd.isAgg20
  z20 := Tryd.sizeOf20
  v20 := Tryd.zeroValue20
  t37 := Tryd.underlying33
  a37 := Tryd.isAgg33
  z37 := Tryd.sizeOf33
  v37 := Tryd.zeroValue33
  t70 := Tryd.underlying41
  a70 := Tryd.isAgg41
  z70 := Tryd.sizeOf41
  v70 := Tryd.zeroValue41
  t72 := Tryd.underlying43
  a72 := Tryd.isAgg43
  z72 := Tryd.sizeOf43
  v72 := Tryd.zeroValue43
  t164 := Tryd.underlying57
  a164 := Tryd.isAgg57
  z164 := Tryd.sizeOf57
  v164 := Tryd.zeroValue57 }
theorem Tryd.Builder_Extra_165 : Builder.Extra Tryd.prog Tryd.lays165_ren := {
  sizeBuilder := by kernel_rfl
  liesBuilder := by kernel_rfl
  t5 := Tryd.underlying5
  a5 := Tryd.isAgg5
  z5 := Tryd.sizeOf5
  v5 := Tryd.zeroValue5
  infoByte := by kernel_rfl
  cellsByte := by kernel_rfl
  sizeByte := by kernel_rfl
  neB5 := by decide }
open Go.RowKit in
theorem Tryd.Builder_Grow_fresh (B b n : Nat) (w : World) (hB : B ≤ b) (hbk : w.heap[b]? = some (.cells #[.pointer none, .slice none 0 0] 43 (0, 0))) (hBw : B ≤ w.heap.size) (hn : n ≤ 281474976710656) :
    Calls Tryd.prog 23 #[.pointer (some ⟨b, 0, none⟩), .int .i64 n] w fun e w' => e = .returned (.tuple #[]) ∧ (Lib.BuilderAt 43 5 B b (.pointer (some ⟨b, 0, none⟩)) [] w' ∧ Below B w w') := Any.Builder_Grow_fresh Tryd.lays165 Tryd.Builder_Extra_165 B b n w hB hbk hBw hn
def Tryd.lays156_ren : Go.Shelf.Ren := ⟨fun | 156 => 19 | 165 => 23 | 166 => 24 | 169 => 25 | 240 => 30 | 241 => 31 | 276 => 40 | 277 => 41 | n => n, fun | 31 => 35 | 9 => 9 | 3 => 3 | 4 => 4 | 0 => 0 | 20 => 20 | 72 => 43 | 76 => 47 | 70 => 41 | 37 => 33 | 75 => 46 | 127 => 52 | 164 => 57 | 5 => 5 | 80 => 30 | n => n, fun | n => n⟩
theorem Tryd.lays156 : Go.Proofs.Lays.n156 Tryd.prog Tryd.lays156_ren := {
  mixed := by kernel_rfl
  f156 := Tryd.func19.trans (congrArg some (by kernel_rfl))
  f165 := Tryd.func23.trans (congrArg some (by kernel_rfl))
  f166 := Tryd.func24.trans (congrArg some (by kernel_rfl))
  f169 := Tryd.func25.trans (congrArg some (by kernel_rfl))
  f240 := Tryd.func30.trans (congrArg some (by kernel_rfl))
  f241 := Tryd.func31.trans (congrArg some (by kernel_rfl))
  f276 := Tryd.func40.trans (congrArg some (by kernel_rfl))
  f277 := Tryd.func41.trans (congrArg some (by kernel_rfl))
  t0 := Tryd.underlying0
  a0 := Tryd.isAgg0
  z0 := Tryd.sizeOf0
  v0 := Tryd.zeroValue0
  t3 := Tryd.underlying3
  a3 := Tryd.isAgg3
  z3 := Tryd.sizeOf3
  v3 := Tryd.zeroValue3
  t4 := Tryd.underlying4
  a4 := Tryd.isAgg4
  z4 := Tryd.sizeOf4
  v4 := Tryd.zeroValue4
  t9 := Tryd.underlying9
  a9 := Tryd.isAgg9
  z9 := Tryd.sizeOf9
  v9 := Tryd.zeroValue9
  t20 := Tryd.underlying20
  a20 := Tryd.isAgg20
  z20 := Tryd.sizeOf20
  v20 := Tryd.zeroValue20
  t31 := Tryd.underlying35
  a31 := Tryd.isAgg35
  z31 := Tryd.sizeOf35
  v31 := Tryd.zeroValue35
  t37 := Tryd.underlying33
  a37 := Tryd.isAgg33
  z37 := Tryd.sizeOf33
  v37 := Tryd.zeroValue33
  t70 := Tryd.underlying41
  a70 := Tryd.isAgg41
  z70 := Tryd.sizeOf41
  v70 := Tryd.zeroValue41
  t72 := Tryd.underlying43
  a72 := Tryd.isAgg43
  z72 := Tryd.sizeOf43
  v72 := Tryd.zeroValue43
  t75 := Tryd.underlying46
  a75 := Tryd.isAgg46
  z75 := Tryd.sizeOf46
  v75 := Tryd.zeroValue46
  t76 := Tryd.underlying47
  a76 := Tryd.isAgg47
  z76 := Tryd.sizeOf47
  v76 := Tryd.zeroValue47
  t127 := Tryd.underlying52
  a127 := Tryd.isAgg52
  z127 := Tryd.sizeOf52
  v127 := Tryd.zeroValue52
  t164 := Tryd.underlying57
  a164 := Tryd.isAgg57
  z164 := Tryd.sizeOf57
  v164 := Tryd.zeroValue57 }
theorem Tryd.Builder_Extra_156 : Builder.Extra Tryd.prog Tryd.lays156_ren := {
  sizeBuilder := by kernel_rfl
  liesBuilder := by kernel_rfl
  t5 := Tryd.underlying5
  a5 := Tryd.isAgg5
  z5 := Tryd.sizeOf5
  v5 := Tryd.zeroValue5
  infoByte := by kernel_rfl
  cellsByte := by kernel_rfl
  sizeByte := by kernel_rfl
  neB5 := by decide }
open Go.RowKit in
theorem Tryd.strings_Join_none (a : Option Addr) (c : Nat) (sep : ByteArray) (w : World) :
    Calls Tryd.prog 19 #[.slice a 0 c, .string sep] w fun e w' => e = .returned (.string ⟨#[]⟩) ∧ w' = w := Any.strings_Join_none Tryd.lays156 Tryd.Builder_Extra_156 a c sep w
open Go.RowKit in
theorem Tryd.strings_Join (bk o c : Nat) (xs : List ByteArray) (sep : ByteArray) (w : World) (hcells : ∀ (j : Nat) x, xs[j]? = some x → w.cell? ⟨bk, o + j, none⟩ = some (.string x)) (hbk : bk < w.heap.size) (hN : xs.length ≤ 140737488355328) (hcap : xs.length ≤ c) (hlen : (Lib.join (xs.map (·.data.toList)) sep.data.toList).length ≤ 140737488355328) :
    Calls Tryd.prog 19 #[.slice (some ⟨bk, o, none⟩) xs.length c, .string sep] w fun e w' => e = .returned (.string ⟨(Lib.join (xs.map (·.data.toList)) sep.data.toList).toArray⟩) ∧ Below w.heap.size w w' := Any.strings_Join Tryd.lays156 Tryd.Builder_Extra_156 bk o c xs sep w hcells hbk hN hcap hlen
def Tryd.lays119_ren : Go.Shelf.Ren := ⟨fun | 119 => 33 | n => n, fun | 21 => 21 | 4 => 4 | n => n, fun | n => n⟩
theorem Tryd.lays119 : Go.Proofs.Lays.n119 Tryd.prog Tryd.lays119_ren := {
  mixed := by kernel_rfl
  f119 := Tryd.func33.trans (congrArg some (by kernel_rfl))
  t4 := Tryd.underlying4
  a4 := Tryd.isAgg4
  z4 := Tryd.sizeOf4
  v4 := Tryd.zeroValue4
  t21 := Tryd.underlying21
  a21 := Tryd.isAgg21
  z21 := Tryd.sizeOf21
  v21 := Tryd.zeroValue21 }
theorem Tryd.utf8_ValidRune (r : Int) (w : World) :
    Calls Tryd.prog 33 #[.int .i32 r] w fun e w' => e = .returned (.bool (Lib.validRune r)) ∧ w' = w := Any.utf8_ValidRune Tryd.lays119 r w
def Tryd.lays137_ren : Go.Shelf.Ren := ⟨fun | 137 => 32 | 217 => 42 | 266 => 45 | n => n, fun | 9 => 9 | 5 => 5 | 3 => 3 | n => n, fun | n => n⟩
theorem Tryd.lays137 : Go.Proofs.Lays.n137 Tryd.prog Tryd.lays137_ren := {
  mixed := by kernel_rfl
  f137 := Tryd.func32.trans (congrArg some (by kernel_rfl))
  f217 := Tryd.func42.trans (congrArg some (by kernel_rfl))
  f266 := Tryd.func45.trans (congrArg some (by kernel_rfl))
  t3 := Tryd.underlying3
  a3 := Tryd.isAgg3
  z3 := Tryd.sizeOf3
  v3 := Tryd.zeroValue3
  t5 := Tryd.underlying5
  a5 := Tryd.isAgg5
  z5 := Tryd.sizeOf5
  v5 := Tryd.zeroValue5
  t9 := Tryd.underlying9
  a9 := Tryd.isAgg9
  z9 := Tryd.sizeOf9
  v9 := Tryd.zeroValue9 }
open Go.RowKit in
theorem Tryd.strings_IndexByte (s : ByteArray) (c : Int) (w : World) :
    Calls Tryd.prog 32 #[.string s, .int .u8 c] w fun e w' => e = .returned (.int .i64 (Lib.indexByte s.data.toList c.toNat.toUInt8)) ∧ w' = w := Any.strings_IndexByte Tryd.lays137 s c w
def Tryd.lays195_ren : Go.Shelf.Ren := ⟨fun | 195 => 36 | n => n, fun | 9 => 9 | 3 => 3 | 0 => 0 | 4 => 4 | n => n, fun | n => n⟩
theorem Tryd.lays195 : Go.Proofs.Lays.n195 Tryd.prog Tryd.lays195_ren := {
  mixed := by kernel_rfl
  f195 := Tryd.func36.trans (congrArg some (by kernel_rfl))
  t0 := Tryd.underlying0
  a0 := Tryd.isAgg0
  z0 := Tryd.sizeOf0
  v0 := Tryd.zeroValue0
  t3 := Tryd.underlying3
  a3 := Tryd.isAgg3
  z3 := Tryd.sizeOf3
  v3 := Tryd.zeroValue3
  t4 := Tryd.underlying4
  a4 := Tryd.isAgg4
  z4 := Tryd.sizeOf4
  v4 := Tryd.zeroValue4
  t9 := Tryd.underlying9
  a9 := Tryd.isAgg9
  z9 := Tryd.sizeOf9
  v9 := Tryd.zeroValue9 }
open Go.RowKit in
theorem Tryd.utf8_RuneCountInString (s : ByteArray) (w : World) (hs : s.size < 9223372036854775807) :
    Calls Tryd.prog 36 #[.string s] w fun e w' => e = .returned (.int .i64 (Lib.runeCount s)) ∧ ∃ pos, w' = w.iter s pos := Any.utf8_RuneCountInString Tryd.lays195 s w hs
def Tryd.lays217_ren : Go.Shelf.Ren := ⟨fun | 217 => 42 | 266 => 45 | n => n, fun | 9 => 9 | 5 => 5 | 3 => 3 | n => n, fun | n => n⟩
theorem Tryd.lays217 : Go.Proofs.Lays.n217 Tryd.prog Tryd.lays217_ren := {
  mixed := by kernel_rfl
  f217 := Tryd.func42.trans (congrArg some (by kernel_rfl))
  f266 := Tryd.func45.trans (congrArg some (by kernel_rfl))
  t3 := Tryd.underlying3
  a3 := Tryd.isAgg3
  z3 := Tryd.sizeOf3
  v3 := Tryd.zeroValue3
  t5 := Tryd.underlying5
  a5 := Tryd.isAgg5
  z5 := Tryd.sizeOf5
  v5 := Tryd.zeroValue5
  t9 := Tryd.underlying9
  a9 := Tryd.isAgg9
  z9 := Tryd.sizeOf9
  v9 := Tryd.zeroValue9 }
open Go.RowKit Go.Lib in
theorem Tryd.stringslite_IndexByte (s : ByteArray) (c : Int) (w : World) :
    Calls Tryd.prog 42 #[.string s, .int .u8 c] w fun e w' => e = .returned (.int .i64 (Lib.indexByte s.data.toList c.toNat.toUInt8)) ∧ w' = w := Any.stringslite_IndexByte Tryd.lays217 s c w
def Tryd.lays224_ren : Go.Shelf.Ren := ⟨fun | 224 => 34 | n => n, fun | 3 => 3 | n => n, fun | n => n⟩
theorem Tryd.lays224 : Go.Proofs.Lays.n224 Tryd.prog Tryd.lays224_ren := {
  mixed := by kernel_rfl
  f224 := Tryd.func34.trans (congrArg some (by kernel_rfl))
  t3 := Tryd.underlying3
  a3 := Tryd.isAgg3
  z3 := Tryd.sizeOf3
  v3 := Tryd.zeroValue3 }
open Go.RowKit Go.Lib in
theorem Tryd.bytealg_Cutover (n : Int) (h0 : 0 ≤ n) (h1 : n < 4611686018427387904) (w : World) :
    Calls Tryd.prog 34 #[.int .i64 n] w fun e w' => e = .returned (.int .i64 ((n + 16) / 8)) ∧ w' = w := Any.bytealg_Cutover Tryd.lays224 n h0 h1 w
def Tryd.lays314_ren : Go.Shelf.Ren := ⟨fun | 314 => 46 | n => n, fun | 9 => 9 | 51 => 64 | 3 => 3 | 4 => 4 | 5 => 5 | 46 => 34 | n => n, fun | n => n⟩
theorem Tryd.lays314 : Go.Proofs.Lays.n314 Tryd.prog Tryd.lays314_ren := {
  mixed := by kernel_rfl
  f314 := Tryd.func46.trans (congrArg some (by kernel_rfl))
  t3 := Tryd.underlying3
  a3 := Tryd.isAgg3
  z3 := Tryd.sizeOf3
  v3 := Tryd.zeroValue3
  t4 := Tryd.underlying4
  a4 := Tryd.isAgg4
  z4 := Tryd.sizeOf4
  v4 := Tryd.zeroValue4
  t5 := Tryd.underlying5
  a5 := Tryd.isAgg5
  z5 := Tryd.sizeOf5
  v5 := Tryd.zeroValue5
  t9 := Tryd.underlying9
  a9 := Tryd.isAgg9
  z9 := Tryd.sizeOf9
  v9 := Tryd.zeroValue9
  t46 := Tryd.underlying34
  a46 := Tryd.isAgg34
  z46 := Tryd.sizeOf34
  v46 := Tryd.zeroValue34
  t51 := Tryd.underlying64
  a51 := Tryd.isAgg64
  z51 := Tryd.sizeOf64
  v51 := Tryd.zeroValue64 }
open Go.RowKit Go.Lib in
theorem Tryd.bytealg_hashStr (sep : ByteArray) (hs : sep.size < 4294967281) (w : World) :
    Calls Tryd.prog 46 #[.string sep] w fun e w' => e = .returned (.tuple #[.int .u32 (RK.H sep.data.toList % 4294967296), .int .u32 (16777619 ^ sep.size % 4294967296)]) ∧ w' = w := Any.bytealg_hashStr Tryd.lays314 sep hs w
def Tryd.lays267_ren : Go.Shelf.Ren := ⟨fun | 267 => 44 | 314 => 46 | n => n, fun | 9 => 9 | 3 => 3 | 146 => 65 | 51 => 64 | 4 => 4 | 5 => 5 | 46 => 34 | n => n, fun | n => n⟩
theorem Tryd.lays267 : Go.Proofs.Lays.n267 Tryd.prog Tryd.lays267_ren := {
  mixed := by kernel_rfl
  f267 := Tryd.func44.trans (congrArg some (by kernel_rfl))
  f314 := Tryd.func46.trans (congrArg some (by kernel_rfl))
  t3 := Tryd.underlying3
  a3 := Tryd.isAgg3
  z3 := Tryd.sizeOf3
  v3 := Tryd.zeroValue3
  t4 := Tryd.underlying4
  a4 := Tryd.isAgg4
  z4 := Tryd.sizeOf4
  v4 := Tryd.zeroValue4
  t5 := Tryd.underlying5
  a5 := Tryd.isAgg5
  z5 := Tryd.sizeOf5
  v5 := Tryd.zeroValue5
  t9 := Tryd.underlying9
  a9 := Tryd.isAgg9
  z9 := Tryd.sizeOf9
  v9 := Tryd.zeroValue9
  t46 := Tryd.underlying34
  a46 := Tryd.isAgg34
  z46 := Tryd.sizeOf34
  v46 := Tryd.zeroValue34
  t51 := Tryd.underlying64
  a51 := Tryd.isAgg64
  z51 := Tryd.sizeOf64
  v51 := Tryd.zeroValue64
  t146 := Tryd.underlying65
  a146 := Tryd.isAgg65
  z146 := Tryd.sizeOf65
  v146 := Tryd.zeroValue65 }
open Go.RowKit Go.Lib in
theorem Tryd.bytealg_IndexRabinKarp (s sep : ByteArray) (h1 : 1 ≤ sep.size) (h2 : sep.size ≤ s.size) (hs : s.size < 4294967281) (w : World) :
    Calls Tryd.prog 44 #[.string s, .string sep] w fun e w' => e = .returned (.int .i64 (Lib.index s.data.toList sep.data.toList)) ∧ w' = w := Any.bytealg_IndexRabinKarp Tryd.lays267 s sep h1 h2 hs w
def Tryd.lays219_ren : Go.Shelf.Ren := ⟨fun | 219 => 39 | 217 => 42 | 225 => 35 | 224 => 34 | 267 => 44 | 266 => 45 | 314 => 46 | n => n, fun | 9 => 9 | 3 => 3 | 4 => 4 | 5 => 5 | 46 => 34 | 146 => 65 | 51 => 64 | n => n, fun | 1 => 0 | n => n⟩
theorem Tryd.lays219 : Go.Proofs.Lays.n219 Tryd.prog Tryd.lays219_ren := {
  mixed := by kernel_rfl
  f217 := Tryd.func42.trans (congrArg some (by kernel_rfl))
  f219 := Tryd.func39.trans (congrArg some (by kernel_rfl))
  f224 := Tryd.func34.trans (congrArg some (by kernel_rfl))
  f225 := Tryd.func35.trans (congrArg some (by kernel_rfl))
  f266 := Tryd.func45.trans (congrArg some (by kernel_rfl))
  f267 := Tryd.func44.trans (congrArg some (by kernel_rfl))
  f314 := Tryd.func46.trans (congrArg some (by kernel_rfl))
  t3 := Tryd.underlying3
  a3 := Tryd.isAgg3
  z3 := Tryd.sizeOf3
  v3 := Tryd.zeroValue3
  t4 := Tryd.underlying4
  a4 := Tryd.isAgg4
  z4 := Tryd.sizeOf4
  v4 := Tryd.zeroValue4
  t5 := Tryd.underlying5
  a5 := Tryd.isAgg5
  z5 := Tryd.sizeOf5
  v5 := Tryd.zeroValue5
  t9 := Tryd.underlying9
  a9 := Tryd.isAgg9
  z9 := Tryd.sizeOf9
  v9 := Tryd.zeroValue9
  t46 := Tryd.underlying34
  a46 := Tryd.isAgg34
  z46 := Tryd.sizeOf34
  v46 := Tryd.zeroValue34
  t51 := Tryd.underlying64
  a51 := Tryd.isAgg64
  z51 := Tryd.sizeOf64
  v51 := Tryd.zeroValue64
  t146 := Tryd.underlying65
  a146 := Tryd.isAgg65
  z146 := Tryd.sizeOf65
  v146 := Tryd.zeroValue65
  g1 := by kernel_rfl }
open Go.RowKit Go.Lib in
theorem Tryd.stringslite_Index_one (s : ByteArray) (c : UInt8) (w : World) :
    Calls Tryd.prog 39 #[.string s, .string ⟨#[c]⟩] w fun e w' => e = .returned (.int .i64 (Lib.indexByte s.data.toList c)) ∧ w' = w := Any.stringslite_Index_one Tryd.lays219 s c w
open Go.RowKit Go.Lib in
theorem Tryd.stringslite_Index (s sub : ByteArray) (m : Int) (w : World) (hs : s.size < 4294967281) (hm : w.cell? ⟨0, 0, none⟩ = some (.int .i64 m)) :
    Calls Tryd.prog 39 #[.string s, .string sub] w fun e w' => e = .returned (.int .i64 (Lib.index s.data.toList sub.data.toList)) ∧ w' = w := Any.stringslite_Index Tryd.lays219 s sub m w hs hm
def Tryd.lays143_ren : Go.Shelf.Ren := ⟨fun | 143 => 29 | 219 => 39 | 217 => 42 | 225 => 35 | 224 => 34 | 267 => 44 | 266 => 45 | 314 => 46 | n => n, fun | 9 => 9 | 3 => 3 | 4 => 4 | 5 => 5 | 46 => 34 | 146 => 65 | 51 => 64 | n => n, fun | 1 => 0 | n => n⟩
theorem Tryd.lays143 : Go.Proofs.Lays.n143 Tryd.prog Tryd.lays143_ren := {
  mixed := by kernel_rfl
  f143 := Tryd.func29.trans (congrArg some (by kernel_rfl))
  f217 := Tryd.func42.trans (congrArg some (by kernel_rfl))
  f219 := Tryd.func39.trans (congrArg some (by kernel_rfl))
  f224 := Tryd.func34.trans (congrArg some (by kernel_rfl))
  f225 := Tryd.func35.trans (congrArg some (by kernel_rfl))
  f266 := Tryd.func45.trans (congrArg some (by kernel_rfl))
  f267 := Tryd.func44.trans (congrArg some (by kernel_rfl))
  f314 := Tryd.func46.trans (congrArg some (by kernel_rfl))
  t3 := Tryd.underlying3
  a3 := Tryd.isAgg3
  z3 := Tryd.sizeOf3
  v3 := Tryd.zeroValue3
  t4 := Tryd.underlying4
  a4 := Tryd.isAgg4
  z4 := Tryd.sizeOf4
  v4 := Tryd.zeroValue4
  t5 := Tryd.underlying5
  a5 := Tryd.isAgg5
  z5 := Tryd.sizeOf5
  v5 := Tryd.zeroValue5
  t9 := Tryd.underlying9
  a9 := Tryd.isAgg9
  z9 := Tryd.sizeOf9
  v9 := Tryd.zeroValue9
  t46 := Tryd.underlying34
  a46 := Tryd.isAgg34
  z46 := Tryd.sizeOf34
  v46 := Tryd.zeroValue34
  t51 := Tryd.underlying64
  a51 := Tryd.isAgg64
  z51 := Tryd.sizeOf64
  v51 := Tryd.zeroValue64
  t146 := Tryd.underlying65
  a146 := Tryd.isAgg65
  z146 := Tryd.sizeOf65
  v146 := Tryd.zeroValue65
  g1 := by kernel_rfl }
open Go.RowKit Go.Lib in
theorem Tryd.strings_Index_one (s : ByteArray) (c : UInt8) (w : World) :
    Calls Tryd.prog 29 #[.string s, .string ⟨#[c]⟩] w fun e w' => e = .returned (.int .i64 (Lib.indexByte s.data.toList c)) ∧ w' = w := Any.strings_Index_one Tryd.lays143 s c w
open Go.RowKit Go.Lib in
theorem Tryd.strings_Index (s sub : ByteArray) (m : Int) (w : World) (hs : s.size < 4294967281) (hm : w.cell? ⟨0, 0, none⟩ = some (.int .i64 m)) :
    Calls Tryd.prog 29 #[.string s, .string sub] w fun e w' => e = .returned (.int .i64 (Lib.index s.data.toList sub.data.toList)) ∧ w' = w := Any.strings_Index Tryd.lays143 s sub m w hs hm
def Tryd.lays138_ren : Go.Shelf.Ren := ⟨fun | 138 => 28 | 195 => 36 | 218 => 38 | 143 => 29 | 219 => 39 | 217 => 42 | 225 => 35 | 224 => 34 | 267 => 44 | 266 => 45 | 314 => 46 | n => n, fun | 9 => 9 | 3 => 3 | 4 => 4 | 5 => 5 | 0 => 0 | 46 => 34 | 146 => 65 | 51 => 64 | n => n, fun | 1 => 0 | n => n⟩
theorem Tryd.lays138 : Go.Proofs.Lays.n138 Tryd.prog Tryd.lays138_ren := {
  mixed := by kernel_rfl
  f138 := Tryd.func28.trans (congrArg some (by kernel_rfl))
  f143 := Tryd.func29.trans (congrArg some (by kernel_rfl))
  f195 := Tryd.func36.trans (congrArg some (by kernel_rfl))
  f217 := Tryd.func42.trans (congrArg some (by kernel_rfl))
  f218 := Tryd.func38.trans (congrArg some (by kernel_rfl))
  f219 := Tryd.func39.trans (congrArg some (by kernel_rfl))
  f224 := Tryd.func34.trans (congrArg some (by kernel_rfl))
  f225 := Tryd.func35.trans (congrArg some (by kernel_rfl))
  f266 := Tryd.func45.trans (congrArg some (by kernel_rfl))
  f267 := Tryd.func44.trans (congrArg some (by kernel_rfl))
  f314 := Tryd.func46.trans (congrArg some (by kernel_rfl))
  t0 := Tryd.underlying0
  a0 := Tryd.isAgg0
  z0 := Tryd.sizeOf0
  v0 := Tryd.zeroValue0
  t3 := Tryd.underlying3
  a3 := Tryd.isAgg3
  z3 := Tryd.sizeOf3
  v3 := Tryd.zeroValue3
  t4 := Tryd.underlying4
  a4 := Tryd.isAgg4
  z4 := Tryd.sizeOf4
  v4 := Tryd.zeroValue4
  t5 := Tryd.underlying5
  a5 := Tryd.isAgg5
  z5 := Tryd.sizeOf5
  v5 := Tryd.zeroValue5
  t9 := Tryd.underlying9
  a9 := Tryd.isAgg9
  z9 := Tryd.sizeOf9
  v9 := Tryd.zeroValue9
  t46 := Tryd.underlying34
  a46 := Tryd.isAgg34
  z46 := Tryd.sizeOf34
  v46 := Tryd.zeroValue34
  t51 := Tryd.underlying64
  a51 := Tryd.isAgg64
  z51 := Tryd.sizeOf64
  v51 := Tryd.zeroValue64
  t146 := Tryd.underlying65
  a146 := Tryd.isAgg65
  z146 := Tryd.sizeOf65
  v146 := Tryd.zeroValue65
  g1 := by kernel_rfl }
open Go.RowKit Go.Lib in
theorem Tryd.strings_Count_one (s : ByteArray) (c : UInt8) (w : World) :
    Calls Tryd.prog 28 #[.string s, .string ⟨#[c]⟩] w fun e w' => e = .returned (.int .i64 (Lib.countByte s.data.toList c)) ∧ w' = w := Any.strings_Count_one Tryd.lays138 s c w
open Go.RowKit Go.Lib in
theorem Tryd.strings_Count (s sub : ByteArray) (m : Int) (w : World) (hs : s.size < 4294967281) (hm : w.cell? ⟨0, 0, none⟩ = some (.int .i64 m)) (h2 : 2 ≤ sub.size) :
    Calls Tryd.prog 28 #[.string s, .string sub] w fun e w' => e = .returned (.int .i64 (Lib.countB s sub)) ∧ w' = w := Any.strings_Count Tryd.lays138 s sub m w hs hm h2
def Tryd.laysM219_ren : Go.Shelf.Ren := ⟨fun | 219 => 39 | 217 => 42 | 225 => 35 | 224 => 34 | 267 => 44 | 266 => 45 | 314 => 46 | n => n, fun | 9 => 9 | 3 => 3 | 4 => 4 | 5 => 5 | 46 => 34 | 146 => 65 | 51 => 64 | n => n, fun | 1 => 0 | n => n⟩
theorem Tryd.laysM219 : Go.Proofs.LaysM.n219 Tryd.prog Tryd.laysM219_ren := {
  mixed := by kernel_rfl
  f217 := Tryd.func42.trans (congrArg some (by kernel_rfl))
  f219 := Tryd.func39.trans (congrArg some (by kernel_rfl))
  f224 := Tryd.func34.trans (congrArg some (by kernel_rfl))
  f225 := Tryd.func35.trans (congrArg some (by kernel_rfl))
  f266 := Tryd.func45.trans (congrArg some (by kernel_rfl))
  f267 := Tryd.func44.trans (congrArg some (by kernel_rfl))
  f314 := Tryd.func46.trans (congrArg some (by kernel_rfl))
  t3 := Tryd.underlying3
  a3 := Tryd.isAgg3
  z3 := Tryd.sizeOf3
  v3 := Tryd.zeroValue3
  t4 := Tryd.underlying4
  a4 := Tryd.isAgg4
  z4 := Tryd.sizeOf4
  v4 := Tryd.zeroValue4
  t5 := Tryd.underlying5
  a5 := Tryd.isAgg5
  z5 := Tryd.sizeOf5
  v5 := Tryd.zeroValue5
  t9 := Tryd.underlying9
  a9 := Tryd.isAgg9
  z9 := Tryd.sizeOf9
  v9 := Tryd.zeroValue9
  t46 := Tryd.underlying34
  a46 := Tryd.isAgg34
  z46 := Tryd.sizeOf34
  v46 := Tryd.zeroValue34
  t51 := Tryd.underlying64
  a51 := Tryd.isAgg64
  z51 := Tryd.sizeOf64
  v51 := Tryd.zeroValue64
  t146 := Tryd.underlying65
  a146 := Tryd.isAgg65
  z146 := Tryd.sizeOf65
  v146 := Tryd.zeroValue65
  g1 := by kernel_rfl
  i3 := by kernel_rfl
  i4 := by kernel_rfl
  i5 := by kernel_rfl
  i9 := by kernel_rfl
  i46 := by kernel_rfl
  i51 := by kernel_rfl
  i146 := by kernel_rfl
  m1 := by kernel_rfl
  s1_3 := fun w h => Go.Proofs.cell_of_shapedOpen_int (zero := #[.int .i64 0]) (t := 3) h (of_decide_eq_true (by kernel_rfl)) (by kernel_rfl) rfl (by kernel_rfl) (by kernel_rfl) Tryd.underlying3 }
open Go.RowKit Go.Lib in
theorem Tryd.stringslite_Index_shaped (s sub : ByteArray) (w : World) (h : w.ShapedOpen Tryd.prog) (hs : s.size < 4294967281) :
    Calls Tryd.prog 39 #[.string s, .string sub] w fun e w' => e = .returned (.int .i64 (Lib.index s.data.toList sub.data.toList)) ∧ w' = w := Any.stringslite_Index_shaped Tryd.laysM219 s sub w h hs
def Tryd.laysM143_ren : Go.Shelf.Ren := ⟨fun | 143 => 29 | 219 => 39 | 217 => 42 | 225 => 35 | 224 => 34 | 267 => 44 | 266 => 45 | 314 => 46 | n => n, fun | 9 => 9 | 3 => 3 | 4 => 4 | 5 => 5 | 46 => 34 | 146 => 65 | 51 => 64 | n => n, fun | 1 => 0 | n => n⟩
theorem Tryd.laysM143 : Go.Proofs.LaysM.n143 Tryd.prog Tryd.laysM143_ren := {
  mixed := by kernel_rfl
  f143 := Tryd.func29.trans (congrArg some (by kernel_rfl))
  f217 := Tryd.func42.trans (congrArg some (by kernel_rfl))
  f219 := Tryd.func39.trans (congrArg some (by kernel_rfl))
  f224 := Tryd.func34.trans (congrArg some (by kernel_rfl))
  f225 := Tryd.func35.trans (congrArg some (by kernel_rfl))
  f266 := Tryd.func45.trans (congrArg some (by kernel_rfl))
  f267 := Tryd.func44.trans (congrArg some (by kernel_rfl))
  f314 := Tryd.func46.trans (congrArg some (by kernel_rfl))
  t3 := Tryd.underlying3
  a3 := Tryd.isAgg3
  z3 := Tryd.sizeOf3
  v3 := Tryd.zeroValue3
  t4 := Tryd.underlying4
  a4 := Tryd.isAgg4
  z4 := Tryd.sizeOf4
  v4 := Tryd.zeroValue4
  t5 := Tryd.underlying5
  a5 := Tryd.isAgg5
  z5 := Tryd.sizeOf5
  v5 := Tryd.zeroValue5
  t9 := Tryd.underlying9
  a9 := Tryd.isAgg9
  z9 := Tryd.sizeOf9
  v9 := Tryd.zeroValue9
  t46 := Tryd.underlying34
  a46 := Tryd.isAgg34
  z46 := Tryd.sizeOf34
  v46 := Tryd.zeroValue34
  t51 := Tryd.underlying64
  a51 := Tryd.isAgg64
  z51 := Tryd.sizeOf64
  v51 := Tryd.zeroValue64
  t146 := Tryd.underlying65
  a146 := Tryd.isAgg65
  z146 := Tryd.sizeOf65
  v146 := Tryd.zeroValue65
  g1 := by kernel_rfl
  i3 := by kernel_rfl
  i4 := by kernel_rfl
  i5 := by kernel_rfl
  i9 := by kernel_rfl
  i46 := by kernel_rfl
  i51 := by kernel_rfl
  i146 := by kernel_rfl
  m1 := by kernel_rfl
  s1_3 := fun w h => Go.Proofs.cell_of_shapedOpen_int (zero := #[.int .i64 0]) (t := 3) h (of_decide_eq_true (by kernel_rfl)) (by kernel_rfl) rfl (by kernel_rfl) (by kernel_rfl) Tryd.underlying3 }
open Go.RowKit Go.Lib in
theorem Tryd.strings_Index_shaped (s sub : ByteArray) (w : World) (h : w.ShapedOpen Tryd.prog) (hs : s.size < 4294967281) :
    Calls Tryd.prog 29 #[.string s, .string sub] w fun e w' => e = .returned (.int .i64 (Lib.index s.data.toList sub.data.toList)) ∧ w' = w := Any.strings_Index_shaped Tryd.laysM143 s sub w h hs
def Tryd.laysM138_ren : Go.Shelf.Ren := ⟨fun | 138 => 28 | 195 => 36 | 218 => 38 | 143 => 29 | 219 => 39 | 217 => 42 | 225 => 35 | 224 => 34 | 267 => 44 | 266 => 45 | 314 => 46 | n => n, fun | 9 => 9 | 3 => 3 | 4 => 4 | 5 => 5 | 0 => 0 | 46 => 34 | 146 => 65 | 51 => 64 | n => n, fun | 1 => 0 | n => n⟩
theorem Tryd.laysM138 : Go.Proofs.LaysM.n138 Tryd.prog Tryd.laysM138_ren := {
  mixed := by kernel_rfl
  f138 := Tryd.func28.trans (congrArg some (by kernel_rfl))
  f143 := Tryd.func29.trans (congrArg some (by kernel_rfl))
  f195 := Tryd.func36.trans (congrArg some (by kernel_rfl))
  f217 := Tryd.func42.trans (congrArg some (by kernel_rfl))
  f218 := Tryd.func38.trans (congrArg some (by kernel_rfl))
  f219 := Tryd.func39.trans (congrArg some (by kernel_rfl))
  f224 := Tryd.func34.trans (congrArg some (by kernel_rfl))
  f225 := Tryd.func35.trans (congrArg some (by kernel_rfl))
  f266 := Tryd.func45.trans (congrArg some (by kernel_rfl))
  f267 := Tryd.func44.trans (congrArg some (by kernel_rfl))
  f314 := Tryd.func46.trans (congrArg some (by kernel_rfl))
  t0 := Tryd.underlying0
  a0 := Tryd.isAgg0
  z0 := Tryd.sizeOf0
  v0 := Tryd.zeroValue0
  t3 := Tryd.underlying3
  a3 := Tryd.isAgg3
  z3 := Tryd.sizeOf3
  v3 := Tryd.zeroValue3
  t4 := Tryd.underlying4
  a4 := Tryd.isAgg4
  z4 := Tryd.sizeOf4
  v4 := Tryd.zeroValue4
  t5 := Tryd.underlying5
  a5 := Tryd.isAgg5
  z5 := Tryd.sizeOf5
  v5 := Tryd.zeroValue5
  t9 := Tryd.underlying9
  a9 := Tryd.isAgg9
  z9 := Tryd.sizeOf9
  v9 := Tryd.zeroValue9
  t46 := Tryd.underlying34
  a46 := Tryd.isAgg34
  z46 := Tryd.sizeOf34
  v46 := Tryd.zeroValue34
  t51 := Tryd.underlying64
  a51 := Tryd.isAgg64
  z51 := Tryd.sizeOf64
  v51 := Tryd.zeroValue64
  t146 := Tryd.underlying65
  a146 := Tryd.isAgg65
  z146 := Tryd.sizeOf65
  v146 := Tryd.zeroValue65
  g1 := by kernel_rfl
  i0 := by kernel_rfl
  i3 := by kernel_rfl
  i4 := by kernel_rfl
  i5 := by kernel_rfl
  i9 := by kernel_rfl
  i46 := by kernel_rfl
  i51 := by kernel_rfl
  i146 := by kernel_rfl
  m1 := by kernel_rfl
  s1_3 := fun w h => Go.Proofs.cell_of_shapedOpen_int (zero := #[.int .i64 0]) (t := 3) h (of_decide_eq_true (by kernel_rfl)) (by kernel_rfl) rfl (by kernel_rfl) (by kernel_rfl) Tryd.underlying3 }
open Go.RowKit Go.Lib in
theorem Tryd.strings_Count_shaped (s sub : ByteArray) (w : World) (h : w.ShapedOpen Tryd.prog) (hs : s.size < 4294967281) (h2 : 2 ≤ sub.size) :
    Calls Tryd.prog 28 #[.string s, .string sub] w fun e w' => e = .returned (.int .i64 (Lib.countB s sub)) ∧ w' = w := Any.strings_Count_shaped Tryd.laysM138 s sub w h hs h2
open Go.RowKit Go.Lib in
theorem Tryd.strings_Count_any (s sep : ByteArray) (m : Int) (w : World) (hs : s.size < 4294967281) (hm : w.cell? ⟨0, 0, none⟩ = some (.int .i64 m)) (h1 : 1 ≤ sep.size) :
    Calls Tryd.prog 28 #[.string s, .string sep] w fun e w' => e = .returned (.int .i64 (Lib.countB s sep)) ∧ w' = w := Any.strings_Count_any Tryd.lays138 s sep m w hs hm h1
def Tryd.lays221_ren : Go.Shelf.Ren := ⟨fun | 221 => 22 | 268 => 27 | 138 => 28 | 143 => 29 | 195 => 36 | 197 => 37 | 218 => 38 | 219 => 39 | 260 => 43 | 217 => 42 | 225 => 35 | 224 => 34 | 267 => 44 | 266 => 45 | 314 => 46 | n => n, fun | 9 => 9 | 3 => 3 | 31 => 35 | 4 => 4 | 0 => 0 | 105 => 55 | 21 => 21 | 5 => 5 | 46 => 34 | 119 => 60 | 139 => 63 | 138 => 62 | 146 => 65 | 51 => 64 | n => n, fun | 1 => 0 | 3 => 1 | 4 => 2 | n => n⟩
theorem Tryd.lays221 : Go.Proofs.Lays.n221 Tryd.prog Tryd.lays221_ren := {
  mixed := by kernel_rfl
  f138 := Tryd.func28.trans (congrArg some (by kernel_rfl))
  f143 := Tryd.func29.trans (congrArg some (by kernel_rfl))
  f195 := Tryd.func36.trans (congrArg some (by kernel_rfl))
  f197 := Tryd.func37.trans (congrArg some (by kernel_rfl))
  f217 := Tryd.func42.trans (congrArg some (by kernel_rfl))
  f218 := Tryd.func38.trans (congrArg some (by kernel_rfl))
  f219 := Tryd.func39.trans (congrArg some (by kernel_rfl))
  f221 := Tryd.func22.trans (congrArg some (by kernel_rfl))
  f224 := Tryd.func34.trans (congrArg some (by kernel_rfl))
  f225 := Tryd.func35.trans (congrArg some (by kernel_rfl))
  f260 := Tryd.func43.trans (congrArg some (by kernel_rfl))
  f266 := Tryd.func45.trans (congrArg some (by kernel_rfl))
  f267 := Tryd.func44.trans (congrArg some (by kernel_rfl))
  f268 := Tryd.func27.trans (congrArg some (by kernel_rfl))
  f314 := Tryd.func46.trans (congrArg some (by kernel_rfl))
  t0 := Tryd.underlying0
  a0 := Tryd.isAgg0
  z0 := Tryd.sizeOf0
  v0 := Tryd.zeroValue0
  t3 := Tryd.underlying3
  a3 := Tryd.isAgg3
  z3 := Tryd.sizeOf3
  v3 := Tryd.zeroValue3
  t4 := Tryd.underlying4
  a4 := Tryd.isAgg4
  z4 := Tryd.sizeOf4
  v4 := Tryd.zeroValue4
  t5 := Tryd.underlying5
  a5 := Tryd.isAgg5
  z5 := Tryd.sizeOf5
  v5 := Tryd.zeroValue5
  t9 := Tryd.underlying9
  a9 := Tryd.isAgg9
  z9 := Tryd.sizeOf9
  v9 := Tryd.zeroValue9
  t21 := Tryd.underlying21
  a21 := Tryd.isAgg21
  z21 := Tryd.sizeOf21
  v21 := Tryd.zeroValue21
  t31 := Tryd.underlying35
  a31 := Tryd.isAgg35
  z31 := Tryd.sizeOf35
  v31 := Tryd.zeroValue35
  t46 := Tryd.underlying34
  a46 := Tryd.isAgg34
  z46 := Tryd.sizeOf34
  v46 := Tryd.zeroValue34
  t51 := Tryd.underlying64
  a51 := Tryd.isAgg64
  z51 := Tryd.sizeOf64
  v51 := Tryd.zeroValue64
  t105 := Tryd.underlying55
  a105 := Tryd.isAgg55
  z105 := Tryd.sizeOf55
  v105 := Tryd.zeroValue55
  t119 := Tryd.underlying60
  a119 := Tryd.isAgg60
  z119 := Tryd.sizeOf60
  t138 := Tryd.underlying62
  a138 := Tryd.isAgg62
  z138 := Tryd.sizeOf62
  v138 := Tryd.zeroValue62
  t139 := Tryd.underlying63
  a139 := Tryd.isAgg63
  z139 := Tryd.sizeOf63
  v139 := Tryd.zeroValue63
  t146 := Tryd.underlying65
  a146 := Tryd.isAgg65
  z146 := Tryd.sizeOf65
  v146 := Tryd.zeroValue65
  g1 := by kernel_rfl
  g3 := by kernel_rfl
  g4 := by kernel_rfl }
open Go.RowKit Go.Lib in
theorem Tryd.strings_genSplit (s sep : ByteArray) (sv : Nat) (n : Int) (N : Nat) (m : Int) (w : World) (hs : s.size < 4294967281) (hm : w.cell? ⟨0, 0, none⟩ = some (.int .i64 m)) (h1 : 1 ≤ sep.size) (hsv : sv ≤ sep.size) (hn0 : n ≠ 0) (hn63 : n ≤ 9223372036854775807) (hN : (N : Int) = min (if n < 0 then (Lib.countB s sep : Int) + 1 else n) ((s.size : Int) + 1)) :
    Calls Tryd.prog 22 #[.string s, .string sep, .int .i64 sv, .int .i64 n] w fun e w' =>
      e = .returned (.slice (some ⟨w.heap.size, 0, none⟩) (Lib.splitB sep sv (N - 1) s).length N) ∧ w' = w.alloc (.cells (Lib.cellsOf (Lib.splitB sep sv (N - 1) s) N) 9) := Any.strings_genSplit Tryd.lays221 (by kernel_rfl) s sep sv n N m w hs hm h1 hsv hn0 hn63 hN
def Tryd.lays146_ren : Go.Shelf.Ren := ⟨fun | 146 => 18 | 221 => 22 | 268 => 27 | 138 => 28 | 143 => 29 | 195 => 36 | 197 => 37 | 218 => 38 | 219 => 39 | 260 => 43 | 217 => 42 | 225 => 35 | 224 => 34 | 267 => 44 | 266 => 45 | 314 => 46 | n => n, fun | 9 => 9 | 31 => 35 | 3 => 3 | 4 => 4 | 0 => 0 | 105 => 55 | 21 => 21 | 5 => 5 | 46 => 34 | 119 => 60 | 139 => 63 | 138 => 62 | 146 => 65 | 51 => 64 | n => n, fun | 1 => 0 | 3 => 1 | 4 => 2 | n => n⟩
theorem Tryd.lays146 : Go.Proofs.Lays.n146 Tryd.prog Tryd.lays146_ren := {
  mixed := by kernel_rfl
  f138 := Tryd.func28.trans (congrArg some (by kernel_rfl))
  f143 := Tryd.func29.trans (congrArg some (by kernel_rfl))
  f146 := Tryd.func18.trans (congrArg some (by kernel_rfl))
  f195 := Tryd.func36.trans (congrArg some (by kernel_rfl))
  f197 := Tryd.func37.trans (congrArg some (by kernel_rfl))
  f217 := Tryd.func42.trans (congrArg some (by kernel_rfl))
  f218 := Tryd.func38.trans (congrArg some (by kernel_rfl))
  f219 := Tryd.func39.trans (congrArg some (by kernel_rfl))
  f221 := Tryd.func22.trans (congrArg some (by kernel_rfl))
  f224 := Tryd.func34.trans (congrArg some (by kernel_rfl))
  f225 := Tryd.func35.trans (congrArg some (by kernel_rfl))
  f260 := Tryd.func43.trans (congrArg some (by kernel_rfl))
  f266 := Tryd.func45.trans (congrArg some (by kernel_rfl))
  f267 := Tryd.func44.trans (congrArg some (by kernel_rfl))
  f268 := Tryd.func27.trans (congrArg some (by kernel_rfl))
  f314 := Tryd.func46.trans (congrArg some (by kernel_rfl))
  t0 := Tryd.underlying0
  a0 := Tryd.isAgg0
  z0 := Tryd.sizeOf0
  v0 := Tryd.zeroValue0
  t3 := Tryd.underlying3
  a3 := Tryd.isAgg3
  z3 := Tryd.sizeOf3
  v3 := Tryd.zeroValue3
  t4 := Tryd.underlying4
  a4 := Tryd.isAgg4
  z4 := Tryd.sizeOf4
  v4 := Tryd.zeroValue4
  t5 := Tryd.underlying5
  a5 := Tryd.isAgg5
  z5 := Tryd.sizeOf5
  v5 := Tryd.zeroValue5
  t9 := Tryd.underlying9
  a9 := Tryd.isAgg9
  z9 := Tryd.sizeOf9
  v9 := Tryd.zeroValue9
  t21 := Tryd.underlying21
  a21 := Tryd.isAgg21
  z21 := Tryd.sizeOf21
  v21 := Tryd.zeroValue21
  t31 := Tryd.underlying35
  a31 := Tryd.isAgg35
  z31 := Tryd.sizeOf35
  v31 := Tryd.zeroValue35
  t46 := Tryd.underlying34
  a46 := Tryd.isAgg34
  z46 := Tryd.sizeOf34
  v46 := Tryd.zeroValue34
  t51 := Tryd.underlying64
  a51 := Tryd.isAgg64
  z51 := Tryd.sizeOf64
  v51 := Tryd.zeroValue64
  t105 := Tryd.underlying55
  a105 := Tryd.isAgg55
  z105 := Tryd.sizeOf55
  v105 := Tryd.zeroValue55
  t119 := Tryd.underlying60
  a119 := Tryd.isAgg60
  z119 := Tryd.sizeOf60
  t138 := Tryd.underlying62
  a138 := Tryd.isAgg62
  z138 := Tryd.sizeOf62
  v138 := Tryd.zeroValue62
  t139 := Tryd.underlying63
  a139 := Tryd.isAgg63
  z139 := Tryd.sizeOf63
  v139 := Tryd.zeroValue63
  t146 := Tryd.underlying65
  a146 := Tryd.isAgg65
  z146 := Tryd.sizeOf65
  v146 := Tryd.zeroValue65
  g1 := by kernel_rfl
  g3 := by kernel_rfl
  g4 := by kernel_rfl }
open Go.RowKit Go.Lib in
theorem Tryd.strings_Split (s sep : ByteArray) (m : Int) (w : World) (hs : s.size < 4294967281) (hm : w.cell? ⟨0, 0, none⟩ = some (.int .i64 m)) (h1 : 1 ≤ sep.size) :
    Calls Tryd.prog 18 #[.string s, .string sep] w fun e w' =>
      e = .returned (.slice (some ⟨w.heap.size, 0, none⟩) (Lib.countB s sep + 1) (Lib.countB s sep + 1)) ∧ w' = w.alloc (.cells ((Lib.splitB sep 0 (Lib.countB s sep) s).map Value.string).toArray 9) := Any.strings_Split Tryd.lays146 (by kernel_rfl) s sep m w hs hm h1
def Tryd.laysM146_ren : Go.Shelf.Ren := ⟨fun | 146 => 18 | 221 => 22 | 268 => 27 | 138 => 28 | 143 => 29 | 195 => 36 | 197 => 37 | 218 => 38 | 219 => 39 | 260 => 43 | 217 => 42 | 225 => 35 | 224 => 34 | 267 => 44 | 266 => 45 | 314 => 46 | n => n, fun | 9 => 9 | 31 => 35 | 3 => 3 | 4 => 4 | 0 => 0 | 105 => 55 | 21 => 21 | 5 => 5 | 46 => 34 | 119 => 60 | 139 => 63 | 138 => 62 | 146 => 65 | 51 => 64 | n => n, fun | 1 => 0 | 3 => 1 | 4 => 2 | n => n⟩
theorem Tryd.laysM146 : Go.Proofs.LaysM.n146 Tryd.prog Tryd.laysM146_ren := {
  mixed := by kernel_rfl
  f138 := Tryd.func28.trans (congrArg some (by kernel_rfl))
  f143 := Tryd.func29.trans (congrArg some (by kernel_rfl))
  f146 := Tryd.func18.trans (congrArg some (by kernel_rfl))
  f195 := Tryd.func36.trans (congrArg some (by kernel_rfl))
  f197 := Tryd.func37.trans (congrArg some (by kernel_rfl))
  f217 := Tryd.func42.trans (congrArg some (by kernel_rfl))
  f218 := Tryd.func38.trans (congrArg some (by kernel_rfl))
  f219 := Tryd.func39.trans (congrArg some (by kernel_rfl))
  f221 := Tryd.func22.trans (congrArg some (by kernel_rfl))
  f224 := Tryd.func34.trans (congrArg some (by kernel_rfl))
  f225 := Tryd.func35.trans (congrArg some (by kernel_rfl))
  f260 := Tryd.func43.trans (congrArg some (by kernel_rfl))
  f266 := Tryd.func45.trans (congrArg some (by kernel_rfl))
  f267 := Tryd.func44.trans (congrArg some (by kernel_rfl))
  f268 := Tryd.func27.trans (congrArg some (by kernel_rfl))
  f314 := Tryd.func46.trans (congrArg some (by kernel_rfl))
  t0 := Tryd.underlying0
  a0 := Tryd.isAgg0
  z0 := Tryd.sizeOf0
  v0 := Tryd.zeroValue0
  t3 := Tryd.underlying3
  a3 := Tryd.isAgg3
  z3 := Tryd.sizeOf3
  v3 := Tryd.zeroValue3
  t4 := Tryd.underlying4
  a4 := Tryd.isAgg4
  z4 := Tryd.sizeOf4
  v4 := Tryd.zeroValue4
  t5 := Tryd.underlying5
  a5 := Tryd.isAgg5
  z5 := Tryd.sizeOf5
  v5 := Tryd.zeroValue5
  t9 := Tryd.underlying9
  a9 := Tryd.isAgg9
  z9 := Tryd.sizeOf9
  v9 := Tryd.zeroValue9
  t21 := Tryd.underlying21
  a21 := Tryd.isAgg21
  z21 := Tryd.sizeOf21
  v21 := Tryd.zeroValue21
  t31 := Tryd.underlying35
  a31 := Tryd.isAgg35
  z31 := Tryd.sizeOf35
  v31 := Tryd.zeroValue35
  t46 := Tryd.underlying34
  a46 := Tryd.isAgg34
  z46 := Tryd.sizeOf34
  v46 := Tryd.zeroValue34
  t51 := Tryd.underlying64
  a51 := Tryd.isAgg64
  z51 := Tryd.sizeOf64
  v51 := Tryd.zeroValue64
  t105 := Tryd.underlying55
  a105 := Tryd.isAgg55
  z105 := Tryd.sizeOf55
  v105 := Tryd.zeroValue55
  t119 := Tryd.underlying60
  a119 := Tryd.isAgg60
  z119 := Tryd.sizeOf60
  t138 := Tryd.underlying62
  a138 := Tryd.isAgg62
  z138 := Tryd.sizeOf62
  v138 := Tryd.zeroValue62
  t139 := Tryd.underlying63
  a139 := Tryd.isAgg63
  z139 := Tryd.sizeOf63
  v139 := Tryd.zeroValue63
  t146 := Tryd.underlying65
  a146 := Tryd.isAgg65
  z146 := Tryd.sizeOf65
  v146 := Tryd.zeroValue65
  g1 := by kernel_rfl
  g3 := by kernel_rfl
  g4 := by kernel_rfl
  i0 := by kernel_rfl
  i3 := by kernel_rfl
  i4 := by kernel_rfl
  i5 := by kernel_rfl
  i9 := by kernel_rfl
  i21 := by kernel_rfl
  i31 := by kernel_rfl
  i46 := by kernel_rfl
  i51 := by kernel_rfl
  i105 := by kernel_rfl
  i138 := by kernel_rfl
  i139 := by kernel_rfl
  i146 := by kernel_rfl
  m1 := by kernel_rfl
  s1_3 := fun w h => Go.Proofs.cell_of_shapedOpen_int (zero := #[.int .i64 0]) (t := 3) h (of_decide_eq_true (by kernel_rfl)) (by kernel_rfl) rfl (by kernel_rfl) (by kernel_rfl) Tryd.underlying3
  m3 := by kernel_rfl
  m4 := by kernel_rfl }
open Go.RowKit Go.Lib in
theorem Tryd.strings_Split_shaped (s sep : ByteArray) (w : World) (h : w.ShapedOpen Tryd.prog) (hs : s.size < 4294967281) (h1 : 1 ≤ sep.size) :
    Calls Tryd.prog 18 #[.string s, .string sep] w fun e w' =>
      e = .returned (.slice (some ⟨w.heap.size, 0, none⟩) (Lib.countB s sep + 1) (Lib.countB s sep + 1)) ∧ w' = w.alloc (.cells ((Lib.splitB sep 0 (Lib.countB s sep) s).map Value.string).toArray 9) := Any.strings_Split_shaped Tryd.laysM146 s sep w h hs h1
def Tryd.lays197_ren : Go.Shelf.Ren := ⟨fun | 197 => 37 | 260 => 43 | n => n, fun | 9 => 9 | 21 => 21 | 3 => 3 | 4 => 4 | 5 => 5 | 105 => 55 | 119 => 60 | 0 => 0 | 46 => 34 | 139 => 63 | 138 => 62 | n => n, fun | 3 => 1 | 4 => 2 | n => n⟩
theorem Tryd.lays197 : Go.Proofs.Lays.n197 Tryd.prog Tryd.lays197_ren := {
  mixed := by kernel_rfl
  f197 := Tryd.func37.trans (congrArg some (by kernel_rfl))
  f260 := Tryd.func43.trans (congrArg some (by kernel_rfl))
  t0 := Tryd.underlying0
  a0 := Tryd.isAgg0
  z0 := Tryd.sizeOf0
  v0 := Tryd.zeroValue0
  t3 := Tryd.underlying3
  a3 := Tryd.isAgg3
  z3 := Tryd.sizeOf3
  v3 := Tryd.zeroValue3
  t4 := Tryd.underlying4
  a4 := Tryd.isAgg4
  z4 := Tryd.sizeOf4
  v4 := Tryd.zeroValue4
  t5 := Tryd.underlying5
  a5 := Tryd.isAgg5
  z5 := Tryd.sizeOf5
  v5 := Tryd.zeroValue5
  t9 := Tryd.underlying9
  a9 := Tryd.isAgg9
  z9 := Tryd.sizeOf9
  v9 := Tryd.zeroValue9
  t21 := Tryd.underlying21
  a21 := Tryd.isAgg21
  z21 := Tryd.sizeOf21
  v21 := Tryd.zeroValue21
  t46 := Tryd.underlying34
  a46 := Tryd.isAgg34
  z46 := Tryd.sizeOf34
  v46 := Tryd.zeroValue34
  t105 := Tryd.underlying55
  a105 := Tryd.isAgg55
  z105 := Tryd.sizeOf55
  v105 := Tryd.zeroValue55
  t119 := Tryd.underlying60
  a119 := Tryd.isAgg60
  z119 := Tryd.sizeOf60
  t138 := Tryd.underlying62
  a138 := Tryd.isAgg62
  z138 := Tryd.sizeOf62
  v138 := Tryd.zeroValue62
  t139 := Tryd.underlying63
  a139 := Tryd.isAgg63
  z139 := Tryd.sizeOf63
  v139 := Tryd.zeroValue63
  g3 := by kernel_rfl
  g4 := by kernel_rfl }
open Go.RowKit Go.Lib in
theorem Tryd.utf8_DecodeRuneInString_ascii (s : ByteArray) (x : UInt8) (w : World) (h0 : s.data.toList[0]? = some x) (hx : x.toNat < 128) :
    Calls Tryd.prog 37 #[.string s] w fun e w' => e = .returned (.tuple #[.int .i32 x.toNat, .int .i64 1]) ∧ w' = w := Any.utf8_DecodeRuneInString_ascii Tryd.lays197 s x w h0 hx
def Tryd.lays152_ren : Go.Shelf.Ren := ⟨fun | 152 => 26 | 137 => 32 | 119 => 33 | 224 => 34 | 225 => 35 | 217 => 42 | 266 => 45 | n => n, fun | 9 => 9 | 21 => 21 | 3 => 3 | 4 => 4 | 5 => 5 | 0 => 0 | 46 => 34 | n => n, fun | n => n⟩
theorem Tryd.lays152 : Go.Proofs.Lays.n152 Tryd.prog Tryd.lays152_ren := {
  mixed := by kernel_rfl
  f119 := Tryd.func33.trans (congrArg some (by kernel_rfl))
  f137 := Tryd.func32.trans (congrArg some (by kernel_rfl))
  f152 := Tryd.func26.trans (congrArg some (by kernel_rfl))
  f217 := Tryd.func42.trans (congrArg some (by kernel_rfl))
  f224 := Tryd.func34.trans (congrArg some (by kernel_rfl))
  f225 := Tryd.func35.trans (congrArg some (by kernel_rfl))
  f266 := Tryd.func45.trans (congrArg some (by kernel_rfl))
  t0 := Tryd.underlying0
  a0 := Tryd.isAgg0
  z0 := Tryd.sizeOf0
  v0 := Tryd.zeroValue0
  t3 := Tryd.underlying3
  a3 := Tryd.isAgg3
  z3 := Tryd.sizeOf3
  v3 := Tryd.zeroValue3
  t4 := Tryd.underlying4
  a4 := Tryd.isAgg4
  z4 := Tryd.sizeOf4
  v4 := Tryd.zeroValue4
  t5 := Tryd.underlying5
  a5 := Tryd.isAgg5
  z5 := Tryd.sizeOf5
  v5 := Tryd.zeroValue5
  t9 := Tryd.underlying9
  a9 := Tryd.isAgg9
  z9 := Tryd.sizeOf9
  v9 := Tryd.zeroValue9
  t21 := Tryd.underlying21
  a21 := Tryd.isAgg21
  z21 := Tryd.sizeOf21
  v21 := Tryd.zeroValue21
  t46 := Tryd.underlying34
  a46 := Tryd.isAgg34
  z46 := Tryd.sizeOf34
  v46 := Tryd.zeroValue34 }
open Go.RowKit Go.Lib in
theorem Tryd.strings_IndexRune_ascii (s : ByteArray) (r : Int) (w : World) (h0 : 0 ≤ r) (h1 : r < 128) :
    Calls Tryd.prog 26 #[.string s, .int .i32 r] w fun e w' => e = .returned (.int .i64 (Lib.indexByte s.data.toList r.toNat.toUInt8)) ∧ w' = w := Any.strings_IndexRune_ascii Tryd.lays152 s r w h0 h1
def Tryd.lays151_ren : Go.Shelf.Ren := ⟨fun | 151 => 20 | 152 => 26 | 137 => 32 | 119 => 33 | 224 => 34 | 225 => 35 | 217 => 42 | 266 => 45 | n => n, fun | 9 => 9 | 21 => 21 | 4 => 4 | 3 => 3 | 5 => 5 | 0 => 0 | 46 => 34 | n => n, fun | n => n⟩
theorem Tryd.lays151 : Go.Proofs.Lays.n151 Tryd.prog Tryd.lays151_ren := {
  mixed := by kernel_rfl
  f119 := Tryd.func33.trans (congrArg some (by kernel_rfl))
  f137 := Tryd.func32.trans (congrArg some (by kernel_rfl))
  f151 := Tryd.func20.trans (congrArg some (by kernel_rfl))
  f152 := Tryd.func26.trans (congrArg some (by kernel_rfl))
  f217 := Tryd.func42.trans (congrArg some (by kernel_rfl))
  f224 := Tryd.func34.trans (congrArg some (by kernel_rfl))
  f225 := Tryd.func35.trans (congrArg some (by kernel_rfl))
  f266 := Tryd.func45.trans (congrArg some (by kernel_rfl))
  t0 := Tryd.underlying0
  a0 := Tryd.isAgg0
  z0 := Tryd.sizeOf0
  v0 := Tryd.zeroValue0
  t3 := Tryd.underlying3
  a3 := Tryd.isAgg3
  z3 := Tryd.sizeOf3
  v3 := Tryd.zeroValue3
  t4 := Tryd.underlying4
  a4 := Tryd.isAgg4
  z4 := Tryd.sizeOf4
  v4 := Tryd.zeroValue4
  t5 := Tryd.underlying5
  a5 := Tryd.isAgg5
  z5 := Tryd.sizeOf5
  v5 := Tryd.zeroValue5
  t9 := Tryd.underlying9
  a9 := Tryd.isAgg9
  z9 := Tryd.sizeOf9
  v9 := Tryd.zeroValue9
  t21 := Tryd.underlying21
  a21 := Tryd.isAgg21
  z21 := Tryd.sizeOf21
  v21 := Tryd.zeroValue21
  t46 := Tryd.underlying34
  a46 := Tryd.isAgg34
  z46 := Tryd.sizeOf34
  v46 := Tryd.zeroValue34 }
open Go.RowKit Go.Lib in
theorem Tryd.strings_ContainsRune_ascii (s : ByteArray) (r : Int) (w : World) (h0 : 0 ≤ r) (h1 : r < 128) :
    Calls Tryd.prog 20 #[.string s, .int .i32 r] w fun e w' => e = .returned (.bool (decide (0 ≤ Lib.indexByte s.data.toList r.toNat.toUInt8))) ∧ w' = w := Any.strings_ContainsRune_ascii Tryd.lays151 s r w h0 h1
open Go.RowKit Go.Lib in
theorem Tryd.utf8_RuneCountInString_ascii (s : ByteArray) (w : World) (hs : s.size < 4294967281) (hascii : ∀ (j : Nat) b, s.data.toList[j]? = some b → b.toNat < 128) :
    Calls Tryd.prog 36 #[.string s] w fun e w' => e = .returned (.int .i64 s.size) ∧ w' = w.iter s s.size := Any.utf8_RuneCountInString_ascii Tryd.lays195 s w hs hascii
def Tryd.lays268_ren : Go.Shelf.Ren := ⟨fun | 268 => 27 | 195 => 36 | 197 => 37 | 260 => 43 | n => n, fun | 9 => 9 | 3 => 3 | 31 => 35 | 4 => 4 | 105 => 55 | 21 => 21 | 0 => 0 | 5 => 5 | 119 => 60 | 46 => 34 | 139 => 63 | 138 => 62 | n => n, fun | 3 => 1 | 4 => 2 | n => n⟩
theorem Tryd.lays268 : Go.Proofs.Lays.n268 Tryd.prog Tryd.lays268_ren := {
  mixed := by kernel_rfl
  f195 := Tryd.func36.trans (congrArg some (by kernel_rfl))
  f197 := Tryd.func37.trans (congrArg some (by kernel_rfl))
  f260 := Tryd.func43.trans (congrArg some (by kernel_rfl))
  f268 := Tryd.func27.trans (congrArg some (by kernel_rfl))
  t0 := Tryd.underlying0
  a0 := Tryd.isAgg0
  z0 := Tryd.sizeOf0
  v0 := Tryd.zeroValue0
  t3 := Tryd.underlying3
  a3 := Tryd.isAgg3
  z3 := Tryd.sizeOf3
  v3 := Tryd.zeroValue3
  t4 := Tryd.underlying4
  a4 := Tryd.isAgg4
  z4 := Tryd.sizeOf4
  v4 := Tryd.zeroValue4
  t5 := Tryd.underlying5
  a5 := Tryd.isAgg5
  z5 := Tryd.sizeOf5
  v5 := Tryd.zeroValue5
  t9 := Tryd.underlying9
  a9 := Tryd.isAgg9
  z9 := Tryd.sizeOf9
  v9 := Tryd.zeroValue9
  t21 := Tryd.underlying21
  a21 := Tryd.isAgg21
  z21 := Tryd.sizeOf21
  v21 := Tryd.zeroValue21
  t31 := Tryd.underlying35
  a31 := Tryd.isAgg35
  z31 := Tryd.sizeOf35
  v31 := Tryd.zeroValue35
  t46 := Tryd.underlying34
  a46 := Tryd.isAgg34
  z46 := Tryd.sizeOf34
  v46 := Tryd.zeroValue34
  t105 := Tryd.underlying55
  a105 := Tryd.isAgg55
  z105 := Tryd.sizeOf55
  v105 := Tryd.zeroValue55
  t119 := Tryd.underlying60
  a119 := Tryd.isAgg60
  z119 := Tryd.sizeOf60
  t138 := Tryd.underlying62
  a138 := Tryd.isAgg62
  z138 := Tryd.sizeOf62
  v138 := Tryd.zeroValue62
  t139 := Tryd.underlying63
  a139 := Tryd.isAgg63
  z139 := Tryd.sizeOf63
  v139 := Tryd.zeroValue63
  g3 := by kernel_rfl
  g4 := by kernel_rfl }
open Go.RowKit Go.Lib in
theorem Tryd.strings_explode_all (s : ByteArray) (n : Int) (w : World) (hn : n < 0) (hs : s.size < 4294967281) (hascii : ∀ (j : Nat) b, s.data.toList[j]? = some b → b.toNat < 128) :
    Calls Tryd.prog 27 #[.string s, .int .i64 n] w fun e w' =>
      e = .returned (.slice (some ⟨(w.iter s s.size).heap.size, 0, none⟩) s.size s.size) ∧ w' = (w.iter s s.size).alloc (.cells ((Lib.charsB s).map Value.string).toArray 9) := Any.strings_explode_all Tryd.lays268 (by kernel_rfl) s n w hn hs hascii
open Go.RowKit Go.Lib in
theorem Tryd.strings_genSplit_chars (s sep : ByteArray) (sv n : Int) (w : World) (h0 : sep.size = 0) (hn : n < 0) (hs : s.size < 4294967281) (hascii : ∀ (j : Nat) b, s.data.toList[j]? = some b → b.toNat < 128) :
    Calls Tryd.prog 22 #[.string s, .string sep, .int .i64 sv, .int .i64 n] w fun e w' =>
      e = .returned (.slice (some ⟨(w.iter s s.size).heap.size, 0, none⟩) s.size s.size) ∧ w' = (w.iter s s.size).alloc (.cells ((Lib.charsB s).map Value.string).toArray 9) := Any.strings_genSplit_chars Tryd.lays221 (by kernel_rfl) s sep sv n w h0 hn hs hascii
open Go.RowKit Go.Lib in
theorem Tryd.strings_Split_chars (s sep : ByteArray) (w : World) (h0 : sep.size = 0) (hs : s.size < 4294967281) (hascii : ∀ (j : Nat) b, s.data.toList[j]? = some b → b.toNat < 128) :
    Calls Tryd.prog 18 #[.string s, .string sep] w fun e w' =>
      e = .returned (.slice (some ⟨(w.iter s s.size).heap.size, 0, none⟩) s.size s.size) ∧ w' = (w.iter s s.size).alloc (.cells ((Lib.charsB s).map Value.string).toArray 9) := Any.strings_Split_chars Tryd.lays146 (by kernel_rfl) s sep w h0 hs hascii
def Tryd.lays260_ren : Go.Shelf.Ren := ⟨fun | 260 => 43 | n => n, fun | 9 => 9 | 21 => 21 | 3 => 3 | 4 => 4 | 5 => 5 | 119 => 60 | 0 => 0 | 46 => 34 | 139 => 63 | 138 => 62 | n => n, fun | 3 => 1 | 4 => 2 | n => n⟩
theorem Tryd.lays260 : Go.Proofs.Lays.n260 Tryd.prog Tryd.lays260_ren := {
  mixed := by kernel_rfl
  f260 := Tryd.func43.trans (congrArg some (by kernel_rfl))
  t0 := Tryd.underlying0
  a0 := Tryd.isAgg0
  z0 := Tryd.sizeOf0
  v0 := Tryd.zeroValue0
  t3 := Tryd.underlying3
  a3 := Tryd.isAgg3
  z3 := Tryd.sizeOf3
  v3 := Tryd.zeroValue3
  t4 := Tryd.underlying4
  a4 := Tryd.isAgg4
  z4 := Tryd.sizeOf4
  v4 := Tryd.zeroValue4
  t5 := Tryd.underlying5
  a5 := Tryd.isAgg5
  z5 := Tryd.sizeOf5
  v5 := Tryd.zeroValue5
  t9 := Tryd.underlying9
  a9 := Tryd.isAgg9
  z9 := Tryd.sizeOf9
  v9 := Tryd.zeroValue9
  t21 := Tryd.underlying21
  a21 := Tryd.isAgg21
  z21 := Tryd.sizeOf21
  v21 := Tryd.zeroValue21
  t46 := Tryd.underlying34
  a46 := Tryd.isAgg34
  z46 := Tryd.sizeOf34
  v46 := Tryd.zeroValue34
  t119 := Tryd.underlying60
  a119 := Tryd.isAgg60
  z119 := Tryd.sizeOf60
  t138 := Tryd.underlying62
  a138 := Tryd.isAgg62
  z138 := Tryd.sizeOf62
  v138 := Tryd.zeroValue62
  t139 := Tryd.underlying63
  a139 := Tryd.isAgg63
  z139 := Tryd.sizeOf63
  v139 := Tryd.zeroValue63
  g3 := by kernel_rfl
  g4 := by kernel_rfl }
open Go.RowKit Go.Lib in
theorem Tryd.utf8_decodeRuneInStringSlow (s : ByteArray) (w : World) (hT : Lib.Utf8Tabs 1 2 w) :
    Calls Tryd.prog 43 #[.string s] w fun e w' => e = .returned (.tuple #[.int .i32 (Lib.decodeGo s).1, .int .i64 (Lib.decodeGo s).2]) ∧ Below w.heap.size w w' := Any.utf8_decodeRuneInStringSlow Tryd.lays260 s w hT
open Go.RowKit Go.Lib in
theorem Tryd.utf8_DecodeRuneInString (s : ByteArray) (w : World) (hT : Lib.Utf8Tabs 1 2 w) :
    Calls Tryd.prog 37 #[.string s] w fun e w' => e = .returned (.tuple #[.int .i32 (Lib.decodeGo s).1, .int .i64 (Lib.decodeGo s).2]) ∧ Below w.heap.size w w' := Any.utf8_DecodeRuneInString Tryd.lays197 s w hT
end Go.Proofs
