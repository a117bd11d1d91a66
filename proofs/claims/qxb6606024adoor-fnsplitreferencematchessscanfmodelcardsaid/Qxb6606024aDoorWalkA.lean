/-
  THE WALKS of the small functions and of scanInt.
-/
import Derived.Test.Qxb6606024aDoorRows
import Derived.Test.Qxb6606024aDoorPlainB
import Derived.Test.Qxb6606024aDoorShelf
import Derived.Shelf.Strings.SlTrimAscii
import Derived.WalkKit
import Derived.WalkSpells
import Derived.WalkLawsBesides
namespace Go.Proofs.Qxb6606024aDoor
open Go.RowKit

theorem ret_int {k : IntKind} {a b : Int} (h : a = b) : Ending.returned (.int k a) = .returned (.int k b) := by rw [h]
theorem get_list (s : ByteArray) (k : Nat) (h : k < s.size) : s.data.toList[k]? = some s[k] := by
  rw [List.getElem?_eq_getElem (by simpa using h)]; rfl
theorem get_list_none (s : ByteArray) (k : Nat) (h : ¬ k < s.size) : s.data.toList[k]? = none := by
  rw [List.getElem?_eq_none (by have : s.data.toList.length = s.size := rfl; omega)]
theorem byte_neI {b c : UInt8} {n : Int} (hc : (c.toNat : Int) = n) (h : b ≠ c) : ((b.toNat : Int) == n) = false := by
  have : b.toNat ≠ c.toNat := fun e => h (UInt8.toNat_inj.1 e)
  simp; omega

set_option maxHeartbeats 400000 in
theorem isDigit_yes (c : Int) (w : World) (h1 : 48 ≤ c) (h2 : c ≤ 57) :
    Calls Tryd.prog 22 #[.int .u8 c] w fun e w' => e = .returned (.bool true) ∧ w' = w := by
  go_enter Tryd.func22, Tryd.ntmps22
  go_wp2
  go_ret
  exact ⟨rfl, rfl⟩
set_option maxHeartbeats 400000 in
theorem isDigit_no (c : Int) (w : World) (h : c < 48 ∨ 57 < c) :
    Calls Tryd.prog 22 #[.int .u8 c] w fun e w' => e = .returned (.bool false) ∧ w' = w := by
  rcases h with h | h
  · have hd : decide (48 ≤ c) = false := by simp; omega
    go_enter Tryd.func22, Tryd.ntmps22
    go_wp2
    go_ret
    exact ⟨rfl, rfl⟩
  · have hd : decide (48 ≤ c) = true := by simp; omega
    have hd2 : decide (c ≤ 57) = false := by simp; omega
    go_enter Tryd.func22, Tryd.ntmps22
    go_wp2
    go_ret
    exact ⟨rfl, rfl⟩

theorem contains_blk (c : UInt8) : ([32, 9, 10, 11, 12, 13] : List UInt8).contains c = blk c := by
  unfold blk
  simp only [List.contains_cons, List.contains_nil, Bool.or_false, Bool.or_assoc]
/-- len(s) - len(strings.TrimLeft(s, blanks)) is 'skip' -/
theorem trim_any (s : ByteArray) (w : World) :
    Calls Tryd.prog 21 #[.string s, .string ⟨#[32, 9, 10, 11, 12, 13]⟩] w fun e w' => ∃ t : ByteArray, e = .returned (.string t) ∧ t.size + skip s.data.toList = s.size ∧ Below w.heap.size w w' := by
  refine (Any.strings_TrimLeft_laid Tryd.lays161 (by kernel_rfl) s ⟨#[32, 9, 10, 11, 12, 13]⟩ w (by decide) (ascii_of_all (by decide))).mono ?_
  rintro e w' ⟨he, hb⟩
  refine ⟨_, he, ?_, hb⟩
  have e1 : (Lib.trimLeftS s.data.toList [32, 9, 10, 11, 12, 13]) = s.data.toList.drop (skip s.data.toList) := by
    rw [← dropWhile_skip]
    unfold Lib.trimLeftS
    congr 1
    funext c
    exact contains_blk c
  have e2 : (⟨(Lib.trimLeftS s.data.toList [32, 9, 10, 11, 12, 13]).toArray⟩ : ByteArray).size = (Lib.trimLeftS s.data.toList [32, 9, 10, 11, 12, 13]).length := by simp [ByteArray.size]
  have h3 := skip_le s.data.toList
  have h4 : s.data.toList.length = s.size := rfl
  rw [e1, List.length_drop] at e2
  show ByteArray.size ⟨(Lib.trimLeftS s.data.toList [32, 9, 10, 11, 12, 13]).toArray⟩ + _ = _
  rw [e1] at *
  omega
end Go.Proofs.Qxb6606024aDoor
