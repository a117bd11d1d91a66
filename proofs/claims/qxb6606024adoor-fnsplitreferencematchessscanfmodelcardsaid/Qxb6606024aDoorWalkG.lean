/-
  THE WALKS of splitModel and FnSplitReferenceMatchesSscanfModel.
-/
import Derived.Test.Qxb6606024aDoorWalkC
import Derived.Test.Qxb6606024aDoorWalkF
namespace Go.Proofs.Qxb6606024aDoor
open Go.RowKit

theorem mid_char {l : List UInt8} {c : Nat} {D : Int} (h : Mid l c D) (hc : c < l.length) (hn : ¬ (l[c] = 58 ∧ D = 0)) : Mid l (c + 1) (D + par l[c]) := by
  unfold Mid at *
  rw [List.drop_eq_getElem_cons hc, firstC_step _ _ _ hn, Option.map_map] at h
  rw [h]
  congr 1
  funext x
  simp only [Function.comp]
  omega
theorem mid_colon {l : List UInt8} {c : Nat} (h : Mid l c 0) (hc : c < l.length) (h58 : l[c] = 58) : splitR l = refAt l c := by
  unfold Mid at h
  rw [List.drop_eq_getElem_cons hc, h58, firstC_at] at h
  unfold splitR
  rw [h]
  simp
theorem lenAt_none (s : ByteArray) (p : Nat) (h : ¬ ∃ h : p < s.size, s[p] = 58) : lenAt s.data.toList p = 2147483647 := by
  unfold lenAt
  rw [if_neg]
  rw [List.head?_drop]
  intro e
  rcases Nat.lt_or_ge p s.size with h2 | h2
  · rw [get_list s p h2] at e
    exact h ⟨h2, Option.some.inj e⟩
  · rw [get_list_none s p (by omega)] at e
    cases e
theorem lenAt_some (s : ByteArray) (p : Nat) (h1 : p < s.size) (h2 : s[p] = 58) : lenAt s.data.toList p = (if 0 < scanN (s.data.toList.drop (p + 1)) then scanV (s.data.toList.drop (p + 1)) else 2147483647) := by
  unfold lenAt
  rw [if_pos]
  rw [List.head?_drop, get_list s p h1, h2]

set_option maxRecDepth 100000 in
set_option maxHeartbeats 1000000 in
theorem model_any (s : ByteArray) (w : World) (hs : s.size ≤ 2000000) :
    Calls Tryd.prog 7 #[.string s] w fun e w' => e = .returned (outR s (splitR s.data.toList)) ∧ w' = w := by
  have hlen : s.data.toList.length = s.size := rfl
  go_enter Tryd.func7, Tryd.ntmps7
  go_wp2
  go_loop [5, 6] (fun vd vc => ∃ (c : Nat) (D : Int), c ≤ s.size ∧ vc = .int .i64 c ∧ vd = .int .i64 D ∧ -(c : Int) ≤ D ∧ D ≤ c ∧ Hid (Mid s.data.toList c D)) (fun _ c => s.size - (intOf c).toNat)
  case atStart => exact ⟨0, 0, Nat.zero_le _, rfl, rfl, by omega, by omega, mid_zero _⟩
  case round =>
    obtain ⟨c, D, hc, rfl, rfl, hD1, hD2, HS⟩ := hrel
    by_cases hlt : c < s.size
    · have HST : Hid (¬ (s[c] = 58 ∧ D = 0) → Mid s.data.toList (c + 1) (D + par s[c])) := fun h => mid_char HS.out (by omega) h
      by_cases c0 : s[c] = 40
      · have e0 : ((s[c].toNat : Int) == 40) = true := by rw [c0]; rfl
        have HN : Hid (Mid s.data.toList (c + 1) (D + 1)) := by have := HST.out (by rw [c0]; intro h; exact absurd h.1 (by decide)); rw [c0] at this; exact this
        clear c0 HST
        go_wp2
        go_round
        case rel => exact ⟨c + 1, D + 1, by omega, by go_num, rfl, by omega, by omega, HN⟩
        case measure => simp [intOf]; omega
      · have e0 := byte_neI (c := 40) (n := 40) rfl c0
        by_cases c1 : s[c] = 41
        · have e1 : ((s[c].toNat : Int) == 41) = true := by rw [c1]; rfl
          have HN : Hid (Mid s.data.toList (c + 1) (D - 1)) := by have := HST.out (by rw [c1]; intro h; exact absurd h.1 (by decide)); rw [c1] at this; exact this
          clear c0 c1 HST
          go_wp2
          go_round
          case rel => exact ⟨c + 1, D - 1, by omega, by go_num, rfl, by omega, by omega, HN⟩
          case measure => simp [intOf]; omega
        · have e1 := byte_neI (c := 41) (n := 41) rfl c1
          have hp : par s[c] = 0 := by unfold par; rw [if_neg c0, if_neg c1]
          by_cases c2 : s[c] = 58
          · have e2 : ((s[c].toNat : Int) == 58) = true := by rw [c2]; rfl
            by_cases hz : D = 0
            · subst hz
              have HR : Hid (splitR s.data.toList = refAt s.data.toList c) := mid_colon HS.out (by omega) c2
              have CS := fun w => cScan_any s (c + 1) w hs (by omega)
              have hN1 := scanN_le (s.data.toList.drop (c + 1))
              rw [List.length_drop, hlen] at hN1
              have hV1 := scanV_bounds (s.data.toList.drop (c + 1))
              unfold refAt at HR
              clear HST hp c0 c1 c2
              by_cases hn0 : scanN (s.data.toList.drop (c + 1)) = 0
              · have HR2 : Hid (splitR s.data.toList = ⟨c, 0, 2147483647⟩) := by rw [HR.out, if_pos hn0]; trivial
                rw [hn0] at CS
                clear HR
                go_wp2_with (go_at_call 11; refine (CS _).mono ?_; clear CS; rintro e w' ⟨rfl, hw1⟩; replace hw1 := hw1.symm; subst hw1)
                go_ret3
                exact ⟨by rw [HR2.out]; rfl, rfl⟩
              · have HR2 : Hid (splitR s.data.toList = ⟨c, scanV (s.data.toList.drop (c + 1)), lenAt s.data.toList (c + 1 + scanN (s.data.toList.drop (c + 1)))⟩) := by rw [HR.out, if_neg hn0]; trivial
                clear HR
                generalize scanN (s.data.toList.drop (c + 1)) = N1 at *
                generalize scanV (s.data.toList.drop (c + 1)) = V1 at *
                have hn1' : 0 < N1 := by omega
                by_cases hcol : ∃ h : c + 1 + N1 < s.size, s[c + 1 + N1] = 58
                · obtain ⟨hp2, h58⟩ := hcol
                  have HL2 : Hid (lenAt s.data.toList (c + 1 + N1) = if 0 < scanN (s.data.toList.drop (c + 1 + N1 + 1)) then scanV (s.data.toList.drop (c + 1 + N1 + 1)) else 2147483647) := lenAt_some s _ hp2 h58
                  have b58 : ((s[c + 1 + N1].toNat : Int) == 58) = true := by rw [h58]; rfl
                  clear h58
                  have CS2 := fun w => cScan_any s (c + 1 + N1 + 1) w hs (by omega)
                  have hN2 := scanN_le (s.data.toList.drop (c + 1 + N1 + 1))
                  rw [List.length_drop, hlen] at hN2
                  have hV2 := scanV_bounds (s.data.toList.drop (c + 1 + N1 + 1))
                  generalize scanN (s.data.toList.drop (c + 1 + N1 + 1)) = N2 at *
                  generalize scanV (s.data.toList.drop (c + 1 + N1 + 1)) = V2 at *
                  by_cases hn2' : 0 < N2
                  · have HL3 : Hid (lenAt s.data.toList (c + 1 + N1) = V2) := by rw [HL2.out, if_pos hn2']; trivial
                    clear HL2
                    go_wp2_with (first
                      | (go_at_call 11; refine (CS _).mono ?_; clear CS; rintro e w' ⟨rfl, hw1⟩; replace hw1 := hw1.symm; subst hw1)
                      | (go_at_call 11; refine (CS2 _).mono ?_; clear CS2; rintro e w' ⟨rfl, hw1⟩; replace hw1 := hw1.symm; subst hw1))
                    go_ret3
                    exact ⟨by rw [HR2.out, HL3.out]; rfl, rfl⟩
                  · obtain rfl : N2 = 0 := by omega
                    have HL3 : Hid (lenAt s.data.toList (c + 1 + N1) = 2147483647) := by rw [HL2.out, if_neg hn2']; trivial
                    clear HL2
                    go_wp2_with (first
                      | (go_at_call 11; refine (CS _).mono ?_; clear CS; rintro e w' ⟨rfl, hw1⟩; replace hw1 := hw1.symm; subst hw1)
                      | (go_at_call 11; refine (CS2 _).mono ?_; clear CS2; rintro e w' ⟨rfl, hw1⟩; replace hw1 := hw1.symm; subst hw1))
                    go_ret3
                    exact ⟨by rw [HR2.out, HL3.out]; rfl, rfl⟩
                · have HL2 : Hid (lenAt s.data.toList (c + 1 + N1) = 2147483647) := lenAt_none s _ hcol
                  by_cases hp2 : c + 1 + N1 < s.size
                  · have h58 : s[c + 1 + N1] ≠ 58 := fun e => hcol ⟨hp2, e⟩
                    have b58 := byte_neI (c := 58) (n := 58) rfl h58
                    clear h58 hcol
                    go_wp2_with (go_at_call 11; refine (CS _).mono ?_; clear CS; rintro e w' ⟨rfl, hw1⟩; replace hw1 := hw1.symm; subst hw1)
                    go_ret3
                    exact ⟨by rw [HR2.out, HL2.out]; rfl, rfl⟩
                  · clear hcol
                    go_wp2_with (go_at_call 11; refine (CS _).mono ?_; clear CS; rintro e w' ⟨rfl, hw1⟩; replace hw1 := hw1.symm; subst hw1)
                    go_ret3
                    exact ⟨by rw [HR2.out, HL2.out]; rfl, rfl⟩
            · have hz2 : (D == 0) = false := by simpa using hz
              have HN : Hid (Mid s.data.toList (c + 1) D) := by have := HST.out (fun h => hz h.2); rw [hp, Int.add_zero] at this; exact this
              clear hz HST hp c0 c1 c2
              go_wp2
              go_round
              case rel => exact ⟨c + 1, D, by omega, by go_num, rfl, by omega, by omega, HN⟩
              case measure => simp [intOf]; omega
          · have e2 := byte_neI (c := 58) (n := 58) rfl c2
            have HN : Hid (Mid s.data.toList (c + 1) D) := by have := HST.out (fun h => c2 h.1); rw [hp, Int.add_zero] at this; exact this
            clear HST hp c0 c1 c2
            go_wp2
            go_round
            case rel => exact ⟨c + 1, D, by omega, by go_num, rfl, by omega, by omega, HN⟩
            case measure => simp [intOf]; omega
    · have HR : Hid (splitR s.data.toList = ⟨s.data.toList.length, 0, 2147483647⟩) := mid_end HS.out (by omega)
      go_wp2
      go_ret3
      exact ⟨by rw [HR.out, outR_none]; rfl, rfl⟩

set_option maxHeartbeats 400000 in
theorem zzRefS_any (s : ByteArray) (w : World) (hs : s.size ≤ 2000000) :
    Calls Tryd.prog 6 #[.string s] w fun e w' => e = .returned (outR s (splitR s.data.toList)) ∧ Below w.heap.size w w' := by
  have C := splitRef_any s w hs
  unfold outR at C ⊢
  go_enter Tryd.func6, Tryd.ntmps6
  go_wp2_with (go_at_call 10; refine C.mono ?_; rintro e w' ⟨rfl, hb⟩)
  go_ret3
  exact ⟨rfl, hb⟩
set_option maxHeartbeats 400000 in
theorem bytes5_any (s : ByteArray) (w : World) (hs : s.size ≤ maxLen) :
    Calls Tryd.prog 5 #[.string s] w fun e w' => e = .returned (.bool (decide ((s.size : Int) ≤ 1048576))) ∧ w' = w := by
  unfold maxLen at hs
  by_cases h : (s.size : Int) ≤ 1048576
  · go_enter Tryd.func5, Tryd.ntmps5
    go_wp2
    go_ret
    exact ⟨by simp [h], rfl⟩
  · go_enter Tryd.func5, Tryd.ntmps5
    go_wp2
    go_ret
    exact ⟨by simp [h], rfl⟩

set_option maxRecDepth 100000 in
set_option maxHeartbeats 400000 in
theorem law3_big (s : ByteArray) (w : World) (hs : s.size ≤ maxLen) (hb : 1048576 < s.size) :
    Calls Tryd.prog 3 #[.string s] w fun e w' => e = .returned (.bool true) ∧ w' = w := by
  have hd : decide ((s.size : Int) ≤ 1048576) = false := by simp; omega
  go_enter Tryd.func3, Tryd.ntmps3
  go_wp2_with (go_at_call 5; refine (bytes5_any _ _ hs).mono ?_; rintro e w' ⟨rfl, rfl⟩)
  go_ret
  exact ⟨rfl, rfl⟩
set_option maxRecDepth 100000 in
set_option maxHeartbeats 400000 in
theorem law3_small (s : ByteArray) (w : World) (hb : s.size ≤ 1048576) :
    Calls Tryd.prog 3 #[.string s] w fun e w' => e = .returned (.bool true) ∧ Below w.heap.size w w' := by
  have hs' : s.size ≤ maxLen := by unfold maxLen; omega
  have hd : decide ((s.size : Int) ≤ 1048576) = true := by simp; omega
  have C1 := zzRefS_any s w (by omega)
  have C2 := fun w => model_any s w (by omega)
  unfold outR at C1 C2
  generalize splitR s.data.toList = R at C1 C2
  go_enter Tryd.func3, Tryd.ntmps3
  go_wp2_with (first
    | (go_at_call 5; refine (bytes5_any _ _ hs').mono ?_; rintro e w' ⟨rfl, hw1⟩; replace hw1 := hw1.symm; subst hw1)
    | (go_at_call 6; refine C1.mono ?_; rintro e w1 ⟨rfl, hb1⟩)
    | (go_at_call 7; refine (C2 _).mono ?_; rintro e w' ⟨rfl, hw1⟩; replace hw1 := hw1.symm; subst hw1))
  go_ret
  exact ⟨rfl, hb1⟩
end Go.Proofs.Qxb6606024aDoor
