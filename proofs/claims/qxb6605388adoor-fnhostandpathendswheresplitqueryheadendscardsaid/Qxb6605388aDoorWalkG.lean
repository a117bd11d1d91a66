/-
  THE WALK of FnHostAndPathEndsWhereSplitQueryHeadEnds.
-/
import Derived.Test.Qxb6605388aDoorWalkF
namespace Go.Proofs.Qxb6605388aDoor
open Go.RowKit

set_option maxRecDepth 100000 in
set_option maxHeartbeats 400000 in
theorem law5_big (s : ByteArray) (w : World) (hs : s.size ≤ maxLen) (hb : 16384 < s.size) :
    Calls Tryd.prog 5 #[.string s] w fun e w' => e = .returned (.bool true) ∧ w' = w := by
  have hs' := hs
  unfold maxLen at hs
  by_cases h : (s.size : Int) ≤ 1048576
  · have hd : decide ((s.size : Int) ≤ 1048576) = true := by simpa using h
    go_enter Tryd.func5, Tryd.ntmps5
    go_wp2_with (go_at_call 11; refine (bytes11_any _ _ hs').mono ?_; rintro e w' ⟨rfl, rfl⟩)
    go_ret
    exact ⟨rfl, rfl⟩
  · have hd : decide ((s.size : Int) ≤ 1048576) = false := by simpa using h
    go_enter Tryd.func5, Tryd.ntmps5
    go_wp2_with (go_at_call 11; refine (bytes11_any _ _ hs').mono ?_; rintro e w' ⟨rfl, rfl⟩)
    go_ret
    exact ⟨rfl, rfl⟩

set_option maxRecDepth 100000 in
set_option maxHeartbeats 400000 in
theorem law5_none (s : ByteArray) (w : World) (m : Int) (hm : w.cell? ⟨0, 0, none⟩ = some (.int .i64 m)) (hb : s.size ≤ 16384) (hq : Lib.indexByte s.data.toList 63 = -1) :
    Calls Tryd.prog 5 #[.string s] w fun e w' => e = .returned (.bool true) ∧ w' = w := by
  have hs' : s.size ≤ maxLen := by unfold maxLen; omega
  have hd : decide ((s.size : Int) ≤ 1048576) = true := by simp; omega
  have hnil : ∀ (w : World) (a : Option Addr) (n c : Nat), (binOp .eql 23 (.slice a n c) (.slice none 0 0)).run Tryd.prog w = .ok (.bool a.isNone) w := fun w a n c => Lib.run_eql_slice_nil w 23 9 a n c 0 0 Tryd.underlying23
  have CF := firstQ_any s w hs'
  rw [hq] at CF
  have CZ := zz_none s w hq
  have CH : Calls Tryd.prog 13 #[.string s] w fun e w' => (∃ st : Nat, e = .returned (.tuple #[.int .i64 st, .int .i64 s.size]) ∧ st ≤ s.size) ∧ w' = w := by
    refine (zzhp_any s w m hm (by omega)).mono ?_
    rintro e w' ⟨⟨st, en, rfl, hh, _, _⟩, hw⟩
    obtain ⟨h1, h2⟩ := hp_none hh hq
    have hlen : s.data.toList.length = s.size := rfl
    rw [hlen] at h1
    subst h1
    exact ⟨⟨st, rfl, h2⟩, hw⟩
  clear hq
  go_enter Tryd.func5, Tryd.ntmps5
  go_wp2_with (first
   | (go_at_call 11; refine (bytes11_any _ _ hs').mono ?_; rintro e w' ⟨rfl, hw1⟩; replace hw1 := hw1.symm; subst hw1)
   | (go_at_call 10; refine CF.mono ?_; rintro e w' ⟨rfl, hw1⟩; replace hw1 := hw1.symm; subst hw1)
   | (go_at_call 13; refine CH.mono ?_; rintro e w' ⟨⟨st, rfl, hst⟩, hw1⟩; replace hw1 := hw1.symm; subst hw1)
   | (go_at_call 7; refine CZ.mono ?_; rintro e w' ⟨rfl, hw1⟩; replace hw1 := hw1.symm; subst hw1))
  go_ret
  exact ⟨rfl, rfl⟩

set_option maxRecDepth 100000 in
set_option maxHeartbeats 1000000 in
theorem law5_some (s : ByteArray) (w : World) (m : Int) (hm : w.cell? ⟨0, 0, none⟩ = some (.int .i64 m)) (hb : s.size ≤ 16384) (q : Nat) (hq : Lib.indexByte s.data.toList 63 = q) :
    Calls Tryd.prog 5 #[.string s] w fun e w' => e = .returned (.bool true) ∧ Below w.heap.size w w' := by
  have hs' : s.size ≤ maxLen := by unfold maxLen; omega
  have hd : decide ((s.size : Int) ≤ 1048576) = true := by simp; omega
  have hlen : s.data.toList.length = s.size := rfl
  have hqs : q < s.size := by
    rcases ib_cases s.data.toList 63 with ⟨h, _⟩ | ⟨k, h, hlt, _⟩
    · omega
    · omega
  have CF := firstQ_any s w hs'
  rw [hq] at CF
  have hple := schemeN_le s
  have CS := scheme_any s w (by omega)
  have CH := zzhp_any s w m hm (by omega)
  have CZ := zz_some s w m hm (by omega) q hq
  have HQ : Hid (Lib.indexByte s.data.toList 63 = q) := hq
  clear hq
  go_enter Tryd.func5, Tryd.ntmps5
  go_wp2_with (first
   | (go_at_call 11; refine (bytes11_any _ _ hs').mono ?_; rintro e w' ⟨rfl, hw1⟩; replace hw1 := hw1.symm; subst hw1)
   | (go_at_call 10; refine CF.mono ?_; rintro e w' ⟨rfl, hw1⟩; replace hw1 := hw1.symm; subst hw1))
  go_loop [4] (fun i => ∃ k : Nat, q + 1 ≤ k ∧ k ≤ s.size ∧ i = .int .i64 k ∧ Hid (∀ j, q < j → j < k → s.data.toList[j]? ≠ some 64)) (fun i => s.size - (intOf i).toNat)
  case atStart => exact ⟨q + 1, Nat.le_refl _, by omega, by go_num, fun j h1 h2 => by omega⟩
  case round =>
    obtain ⟨k, hqk, hk, rfl, HN⟩ := hrel
    by_cases hlt : k < s.size
    · by_cases hc : s[k] = 64
      · have hcn : ((s[k].toNat : Int) == 64) = true := by rw [hc]; rfl
        clear hc
        go_wp2
        go_ret
        exact ⟨rfl, Below.refl _ _⟩
      · have hcn := byte_neI (c := 64) (n := 64) rfl hc
        have HN2 : Hid (∀ j, q < j → j < k + 1 → s.data.toList[j]? ≠ some 64) := by
          intro j h1 h2
          by_cases e : j = k
          · subst e; rw [get_list s j hlt]; simpa using hc
          · exact HN.out j h1 (by omega)
        clear hc
        go_wp2
        go_round
        case rel => exact ⟨k + 1, by omega, by omega, by go_num, HN2⟩
        case measure => simp [intOf]; omega
    · have HA : Hid (∀ j, q < j → s.data.toList[j]? ≠ some 64) := by
        intro j h1
        by_cases e : j < k
        · exact HN.out j h1 e
        · rw [get_list_none s j (by omega)]; simp
      clear HN
      by_cases hp : schemeN s.data.toList ≤ q + 3
      · have CH2 : Calls Tryd.prog 13 #[.string s] w fun e w' => (∃ st : Nat, e = .returned (.tuple #[.int .i64 st, .int .i64 q]) ∧ st ≤ q) ∧ w' = w := by
          refine CH.mono ?_
          rintro e w' ⟨⟨st, en, rfl, hh, _, _⟩, hw⟩
          obtain ⟨h1, h2⟩ := hp_some hh HQ.out HA.out hp
          subst h1
          exact ⟨⟨st, rfl, h2⟩, hw⟩
        generalize schemeN s.data.toList = p at hp hple CS
        clear CH HQ HA
        have hhd : (s.extract 0 (q + 1)).size = q + 1 := by rw [ByteArray.size_extract]; omega
        by_cases hp0 : 0 < p
        · go_wp2_with (first
            | (go_at_call 12; refine CS.mono ?_; rintro e w' ⟨rfl, hw1⟩; replace hw1 := hw1.symm; subst hw1)
            | (go_at_call 13; refine CH2.mono ?_; rintro e w' ⟨⟨st, rfl, hst⟩, hw1⟩; replace hw1 := hw1.symm; subst hw1)
            | (go_at_call 7; refine CZ.mono ?_; rintro e w' ⟨g, cap, rfl, _, _, _, hbel⟩))
          go_ret
          exact ⟨rfl, by assumption⟩
        · obtain rfl : p = 0 := by omega
          go_wp2_with (first
            | (go_at_call 12; refine CS.mono ?_; rintro e w' ⟨rfl, hw1⟩; replace hw1 := hw1.symm; subst hw1)
            | (go_at_call 13; refine CH2.mono ?_; rintro e w' ⟨⟨st, rfl, hst⟩, hw1⟩; replace hw1 := hw1.symm; subst hw1)
            | (go_at_call 7; refine CZ.mono ?_; rintro e w' ⟨g, cap, rfl, _, _, _, hbel⟩))
          go_ret
          exact ⟨rfl, by assumption⟩
      · generalize schemeN s.data.toList = p at hp hple CS
        clear CH HQ HA CZ
        go_wp2_with (go_at_call 12; refine CS.mono ?_; rintro e w' ⟨rfl, hw1⟩; replace hw1 := hw1.symm; subst hw1)
        go_ret
        exact ⟨rfl, Below.refl _ _⟩
end Go.Proofs.Qxb6605388aDoor
