/-
  THE WALKS of the small functions: zzFirstQuestion, the three zzBytes_..
-/
import Derived.Test.Qxb6605388aDoorRows
import Derived.Test.Qxb6605388aDoorPlain
import Derived.WalkKit
import Derived.WalkSpells
import Derived.WalkLawsBesides
namespace Go.Proofs.Qxb6605388aDoor
open Go.RowKit

theorem ret_int {k : IntKind} {a b : Int} (h : a = b) : Ending.returned (.int k a) = .returned (.int k b) := by rw [h]
theorem ret_bool {a b : Bool} (h : a = b) : Ending.returned (.bool a) = .returned (.bool b) := by rw [h]
theorem get_list (s : ByteArray) (k : Nat) (h : k < s.size) : s.data.toList[k]? = some s[k] := by
  rw [List.getElem?_eq_getElem (by simpa using h)]; rfl
theorem get_list_none (s : ByteArray) (k : Nat) (h : ¬ k < s.size) : s.data.toList[k]? = none := by
  rw [List.getElem?_eq_none (by have : s.data.toList.length = s.size := rfl; omega)]
theorem byte_is {b : UInt8} {n : Nat} (hn : n < 256) (h : ((b.toNat : Int) == (n : Int)) = true) : b = UInt8.ofNat n := by
  have := beq_iff_eq.1 h
  apply UInt8.toNat_inj.1
  simp; omega
theorem byte_not {b : UInt8} {n : Nat} (hn : n < 256) (h : ((b.toNat : Int) == (n : Int)) = false) : b ≠ UInt8.ofNat n := by
  intro e
  subst e
  have h2 : (UInt8.ofNat n).toNat = n := by simp; omega
  rw [h2] at h
  simp at h

set_option maxHeartbeats 400000 in
theorem firstQ_any (s : ByteArray) (w : World) (hs : s.size ≤ maxLen) :
    Calls Tryd.prog 10 #[.string s] w fun e w' => e = .returned (.int .i64 (Lib.indexByte s.data.toList 63)) ∧ w' = w := by
  unfold maxLen at hs
  go_enter Tryd.func10, Tryd.ntmps10
  go_wp2
  go_loop [3] (fun i => ∃ k : Nat, k ≤ s.size ∧ i = .int .i64 k ∧ Hid (∀ j : Nat, j < k → s.data.toList[j]? ≠ some (63 : UInt8))) (fun i => s.size - (intOf i).toNat)
  case atStart => exact ⟨0, Nat.zero_le _, rfl, fun j h => absurd h (Nat.not_lt_zero _)⟩
  case round =>
    obtain ⟨k, hk, rfl, HN⟩ := hrel
    by_cases hlt : k < s.size
    · go_wp2
      · have hb : s[k] = 63 := byte_is (n := 63) (by omega) ‹_›
        go_ret
        exact ⟨ret_int (ib_hit _ _ k (by rw [get_list s k hlt, hb]) HN.out).symm, rfl⟩
      · have hb : s[k] ≠ 63 := byte_not (n := 63) (by omega) ‹_›
        go_round
        case rel =>
          refine ⟨k + 1, by omega, by go_num, fun j hj => ?_⟩
          by_cases e : j = k
          · subst e; rw [get_list s j hlt]; simpa using hb
          · exact HN.out j (by omega)
        case measure => simp [intOf]; omega
    · go_wp2
      go_ret
      have hm : ∀ j : Nat, s.data.toList[j]? ≠ some (63 : UInt8) := fun j => by
        by_cases hj : j < s.size
        · exact HN.out j (by omega)
        · rw [get_list_none s j hj]; simp
      exact ⟨ret_int (ib_miss _ _ hm).symm, rfl⟩

set_option maxHeartbeats 400000 in
theorem bytes9_any (s : ByteArray) (w : World) (hs : s.size ≤ maxLen) :
    Calls Tryd.prog 9 #[.string s] w fun e w' => e = .returned (.bool (decide ((s.size : Int) ≤ 1048576))) ∧ w' = w := by
  unfold maxLen at hs
  by_cases h : (s.size : Int) ≤ 1048576
  · go_enter Tryd.func9, Tryd.ntmps9
    go_wp2
    go_ret
    exact ⟨by simp [h], rfl⟩
  · go_enter Tryd.func9, Tryd.ntmps9
    go_wp2
    go_ret
    exact ⟨by simp [h], rfl⟩
set_option maxHeartbeats 400000 in
theorem bytes6_any (s : ByteArray) (w : World) (hs : s.size ≤ maxLen) :
    Calls Tryd.prog 6 #[.string s] w fun e w' => e = .returned (.bool (decide ((s.size : Int) ≤ 1048576))) ∧ w' = w := by
  unfold maxLen at hs
  by_cases h : (s.size : Int) ≤ 1048576
  · go_enter Tryd.func6, Tryd.ntmps6
    go_wp2
    go_ret
    exact ⟨by simp [h], rfl⟩
  · go_enter Tryd.func6, Tryd.ntmps6
    go_wp2
    go_ret
    exact ⟨by simp [h], rfl⟩
set_option maxHeartbeats 400000 in
theorem bytes11_any (s : ByteArray) (w : World) (hs : s.size ≤ maxLen) :
    Calls Tryd.prog 11 #[.string s] w fun e w' => e = .returned (.bool (decide ((s.size : Int) ≤ 1048576))) ∧ w' = w := by
  unfold maxLen at hs
  by_cases h : (s.size : Int) ≤ 1048576
  · go_enter Tryd.func11, Tryd.ntmps11
    go_wp2
    go_ret
    exact ⟨by simp [h], rfl⟩
  · go_enter Tryd.func11, Tryd.ntmps11
    go_wp2
    go_ret
    exact ⟨by simp [h], rfl⟩
end Go.Proofs.Qxb6605388aDoor
