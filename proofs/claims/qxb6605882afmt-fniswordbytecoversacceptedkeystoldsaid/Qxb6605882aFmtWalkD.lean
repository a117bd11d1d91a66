/-
  THE WALKS of strings.Cut at a one-byte separator: by the shelf's index of one byte.
-/
import Derived.Test.Qxb6605882aFmtWalkC
import Derived.Deep.Draws
namespace Go.Proofs.Qxb6605882aFmt
open Go.RowKit Go.Shelf

theorem slCut_miss (s : ByteArray) (w : World) (h : Lib.indexByte s.data.toList 47 < 0) :
    Calls Tryf.prog 31 #[.string s, .string ⟨#[47]⟩] w fun e w' => e = .returned (.tuple #[.string s, .string ⟨#[]⟩, .bool false]) ∧ ∃ n, w' = w.drewN n := by
  have C := Tryf.stringslite_Index_one s 47 w
  generalize Lib.indexByte s.data.toList 47 = k at *
  go_enter Tryf.func31, Tryf.ntmps31
  go_wp2_with (go_at_call 39; refine C.mono ?_; clear C; rintro e w1 ⟨rfl, hw1⟩; replace hw1 := hw1.symm; subst hw1)
  go_ret3
  exact ⟨rfl, 0, rfl⟩

set_option maxHeartbeats 2000000 in
set_option maxRecDepth 100000 in
theorem slCut_hit (s : ByteArray) (i : Nat) (w : World) (h : Lib.indexByte s.data.toList 47 = (i : Int)) (hi : i + 1 ≤ s.size) (hs : s.size ≤ 2000000) :
    Calls Tryf.prog 31 #[.string s, .string ⟨#[47]⟩] w fun e w' => e = .returned (.tuple #[.string (s.extract 0 i), .string (s.extract (i + 1) s.size), .bool true]) ∧ ∃ n, w' = w.drewN n := by
  have C := Tryf.stringslite_Index_one s 47 w
  rw [h] at C
  have c1 : (0 : Int) ≤ ↑i := by omega
  have c2 : (↑i : Int) ≤ ↑s.size := by omega
  have c3 : (0 : Int) ≤ ↑i + 1 := by omega
  have c4 : (↑i + 1 : Int) ≤ ↑s.size := by omega
  have c5 : IntKind.i64.wrap ((i : Int) + 1) = (i : Int) + 1 := by rw [IntKind.wrap_i64]; omega
  go_enter Tryf.func31, Tryf.ntmps31
  go_wp2_with (go_at_call 39; refine C.mono ?_; clear C; rintro e w1 ⟨rfl, hw1⟩; replace hw1 := hw1.symm; subst hw1)
  go_region
  go_wp2
  go_ret3
  exact ⟨rfl, 1, rfl⟩

theorem cut_miss (s : ByteArray) (w : World) (h : Lib.indexByte s.data.toList 47 < 0) :
    Calls Tryf.prog 19 #[.string s, .string ⟨#[47]⟩] w fun e w' => e = .returned (.tuple #[.string s, .string ⟨#[]⟩, .bool false]) ∧ ∃ n, w' = w.drewN n := by
  have C := slCut_miss s w h
  go_enter Tryf.func19, Tryf.ntmps19
  go_wp2_with (go_at_call 31; refine C.mono ?_; clear C; rintro e w1 ⟨rfl, n, rfl⟩)
  go_ret3
  exact ⟨rfl, n, rfl⟩

theorem cut_hit (s : ByteArray) (i : Nat) (w : World) (h : Lib.indexByte s.data.toList 47 = (i : Int)) (hi : i + 1 ≤ s.size) (hs : s.size ≤ 2000000) :
    Calls Tryf.prog 19 #[.string s, .string ⟨#[47]⟩] w fun e w' => e = .returned (.tuple #[.string (s.extract 0 i), .string (s.extract (i + 1) s.size), .bool true]) ∧ ∃ n, w' = w.drewN n := by
  have C := slCut_hit s i w h hi hs
  go_enter Tryf.func19, Tryf.ntmps19
  go_wp2_with (go_at_call 31; refine C.mono ?_; clear C; rintro e w1 ⟨rfl, n, rfl⟩)
  go_ret3
  exact ⟨rfl, n, rfl⟩
end Go.Proofs.Qxb6605882aFmt
