/-
  THE WALK of splitReference.
-/
import Derived.Test.Qxb6606024aDoorWalkB
import Derived.Test.Qxb6606024aDoorPlainC
import Derived.Deep.QuietTactic
import Derived.BigQuiet
namespace Go.Proofs.Qxb6606024aDoor
open Go.RowKit

/-- what splitReference gives -/
def outR (s : ByteArray) (r : Ref) : Value := .tuple #[.string (s.extract 0 r.at_), .int .i64 r.off, .int .i64 r.len]
theorem outR_none (s : ByteArray) : outR s ⟨s.data.toList.length, 0, 2147483647⟩ = .tuple #[.string s, .int .i64 0, .int .i64 2147483647] := by
  unfold outR
  have : s.data.toList.length = s.size := rfl
  simp only [this, extract_all]

theorem scan_at (s : ByteArray) (p : Nat) (hs : s.size ≤ 2000000) : ∀ w : World,
    Calls Tryd.prog 14 #[.string (s.extract p s.size), .int .i64 30] w fun e w' => e = .returned (.tuple #[.int .i32 (scanV (s.data.toList.drop p)), .int .i64 (scanN (s.data.toList.drop p))]) ∧ Below w.heap.size w w' := by
  intro w
  have := scanInt_any (s.extract p s.size) w (by rw [ByteArray.size_extract]; omega)
  rw [Lib.extract_to_end] at this
  exact this

theorem scan_at2 (s : ByteArray) (p : Nat) (hs : s.size ≤ 2000000) : ∀ w : World,
    Calls Tryd.prog 14 #[.string ((s.extract p s.size).extract 1 (s.size - p)), .int .i64 30] w fun e w' => e = .returned (.tuple #[.int .i32 (scanV (s.data.toList.drop (p + 1))), .int .i64 (scanN (s.data.toList.drop (p + 1)))]) ∧ Below w.heap.size w w' := by
  intro w
  have h := scanInt_any ((s.extract p s.size).extract 1 (s.size - p)) w (by rw [ByteArray.size_extract, ByteArray.size_extract]; omega)
  have e : ((s.extract p s.size).extract 1 (s.size - p)).data.toList = s.data.toList.drop (p + 1) := by
    have e1 : s.size - p = (s.extract p s.size).size := by rw [ByteArray.size_extract]; omega
    rw [e1, Lib.extract_to_end, Lib.extract_to_end, List.drop_drop]
  rw [e] at h
  exact h
theorem below3 {w wr w2 w3 : World} {n : Nat} (h1 : Below w.heap.size w wr) (h2 : Below (wr.drewN n).heap.size (wr.drewN n) w2) (h3 : Below w2.heap.size w2 w3) : Below w.heap.size w w3 := by
  have h4 := (below_drewN h1 n).trans (h2.mono h1.size)
  exact h4.trans (h3.mono h4.size)

set_option maxRecDepth 100000 in
set_option maxHeartbeats 1000000 in
theorem splitRef_any (s : ByteArray) (w : World) (hs : s.size ≤ 2000000) :
    Calls Tryd.prog 10 #[.string s] w fun e w' => e = .returned (outR s (splitR s.data.toList)) ∧ Below w.heap.size w w' := by
  have hlen : s.data.toList.length = s.size := rfl
  go_enter Tryd.func10, Tryd.ntmps10
  go_wp2
  go_loopw [4, 5, 6] (fun vl vp vi wr => ∃ (i : Nat) (P : Int), i ≤ s.size + 1 ∧ vl = .int .i64 2147483647 ∧ vi = .int .i64 i ∧ vp = .int .i64 P ∧ -(i : Int) ≤ P ∧ P ≤ i ∧ Hid (Mid s.data.toList i P) ∧ Below w.heap.size w wr) (fun _ _ i _ => s.size + 1 - (intOf i).toNat)
  case atStart => exact ⟨0, 0, by omega, rfl, rfl, rfl, by omega, by omega, mid_zero _, Below.refl _ _⟩
  case round =>
    obtain ⟨i, P, hi, rfl, rfl, rfl, hP1, hP2, hmid, hbel⟩ := hrel
    by_cases hlt : i < s.size
    · have e1 : (s.extract i s.size).data.toList = s.data.toList.drop i := Lib.extract_to_end s i
      rcases ib_cases (s.data.toList.drop i) 58 with ⟨h, hx⟩ | ⟨k, h, hk, hx⟩
      all_goals clear hx
      · have HR : Hid (splitR s.data.toList = ⟨s.data.toList.length, 0, 2147483647⟩) := mid_none hmid.out h
        have CB : ∀ w, Calls Tryd.prog 12 #[.string (s.extract i s.size), .int .u8 58] w fun e w' => e = .returned (.int .i64 (-1)) ∧ w' = w := fun w => by rw [← h, ← e1]; exact Tryd.strings_IndexByte _ _ _
        clear h hmid e1
        go_wp2_with (go_at_call 12; refine (CB _).mono ?_; rintro e w' ⟨rfl, hw1⟩; replace hw1 := hw1.symm; subst hw1)
        go_ret3
        exact ⟨by rw [HR.out, outR_none]; rfl, hbel⟩
      · have CB : ∀ w, Calls Tryd.prog 12 #[.string (s.extract i s.size), .int .u8 58] w fun e w' => e = .returned (.int .i64 k) ∧ w' = w := fun w => by rw [← h, ← e1]; exact Tryd.strings_IndexByte _ _ _
        have hik : i + k < s.size := (mid_jump hmid.out h).2
        have HM1 := @mid_hit _ _ _ _ hmid.out h
        have HM2 := @mid_next _ _ _ _ hmid.out h
        have hdb := depth_bound ((s.data.toList.drop i).take k)
        have hdl : ((s.data.toList.drop i).take k).length ≤ k := List.length_take_le _ _
        obtain ⟨n1, hn1⟩ : ∃ n, Lib.countByte ((s.data.toList.drop i).take k) 40 = n := ⟨_, rfl⟩
        obtain ⟨n2, hn2⟩ : ∃ n, Lib.countByte ((s.data.toList.drop i).take k) 41 = n := ⟨_, rfl⟩
        have hc1 : n1 ≤ k := by rw [← hn1]; exact Nat.le_trans List.count_le_length hdl
        have hc2 : n2 ≤ k := by rw [← hn2]; exact Nat.le_trans List.count_le_length hdl
        have hcd : (n1 : Int) - (n2 : Int) = depth ((s.data.toList.drop i).take k) := by rw [← hn1, ← hn2]; rfl
        generalize depth ((s.data.toList.drop i).take k) = D at *
        have HM1' : Hid (P + D = 0 → splitR s.data.toList = refAt s.data.toList (i + k)) := HM1
        have HM2' : Hid (P + D ≠ 0 → Mid s.data.toList (i + k + 1) (P + D)) := HM2
        have hD1 : -(k : Int) ≤ D := by omega
        have hD2 : D ≤ (k : Int) := by omega
        clear HM1 HM2 h hmid e1 hdb hdl hk
        by_cases hz : P + D = 0
        · have HR : Hid (splitR s.data.toList = refAt s.data.toList (i + k)) := HM1'.out hz
          have CS := scan_at s (i + k + 1) hs
          have hN1 := scanN_le (s.data.toList.drop (i + k + 1))
          rw [List.length_drop, hlen] at hN1
          have hV1 := scanV_bounds (s.data.toList.drop (i + k + 1))
          unfold refAt at HR
          go_wp2_with (go_at_call 12; refine (CB _).mono ?_; rintro e w' ⟨rfl, hw1⟩; replace hw1 := hw1.symm; subst hw1)
          go_quiet ((go_at_call 13; exact Calls.quiet_of_same (Tryd.strings_Count_one _ _ _)))
          clear HM1' HM2' CB
          by_cases hn0 : scanN (s.data.toList.drop (i + k + 1)) = 0
          · have HR2 : Hid (splitR s.data.toList = ⟨i + k, 0, 2147483647⟩) := by rw [HR.out, if_pos hn0]; trivial
            rw [hn0] at CS
            clear HR
            go_wp2_with (go_at_call 14; refine (CS _).mono ?_; rintro e w2 ⟨rfl, hb2⟩)
            go_ret3
            exact ⟨by rw [HR2.out]; rfl, (below_drewN hbel _).trans (hb2.mono hbel.size)⟩
          · have HR2 : Hid (splitR s.data.toList = ⟨i + k, scanV (s.data.toList.drop (i + k + 1)), lenAt s.data.toList (i + k + 1 + scanN (s.data.toList.drop (i + k + 1)))⟩) := by rw [HR.out, if_neg hn0]; trivial
            clear HR
            generalize scanN (s.data.toList.drop (i + k + 1)) = N1 at *
            generalize scanV (s.data.toList.drop (i + k + 1)) = V1 at *
            have hn1' : 0 < N1 := by omega
            have CP : ∀ w, Calls Tryd.prog 15 #[.string (s.extract (i + k + 1 + N1) s.size), .string ⟨#[58]⟩] w fun e w' => e = .returned (.bool (Lib.hasPrefix (s.data.toList.drop (i + k + 1 + N1)) [58])) ∧ w' = w := fun w => by
              have := Tryd.strings_HasPrefix (s.extract (i + k + 1 + N1) s.size) ⟨#[58]⟩ w
              rw [Lib.extract_to_end] at this
              exact this
            cases hp : Lib.hasPrefix (s.data.toList.drop (i + k + 1 + N1)) [58] with
            | false =>
              have HL2 : Hid (lenAt s.data.toList (i + k + 1 + N1) = 2147483647) := lenAt_no _ _ hp
              rw [hp] at CP
              clear hp
              go_wp2_with (first
                | (go_at_call 14; refine (CS _).mono ?_; clear CS; rintro e w2 ⟨rfl, hb2⟩)
                | (go_at_call 15; refine (CP _).mono ?_; clear CP; rintro e w' ⟨rfl, hw1⟩; replace hw1 := hw1.symm; subst hw1))
              go_ret3
              exact ⟨by rw [HR2.out, HL2.out]; rfl, (below_drewN hbel _).trans (hb2.mono hbel.size)⟩
            | true =>
              obtain ⟨hl2, hp2⟩ := lenAt_yes _ _ hp
              rw [hlen] at hp2
              rw [hp] at CP
              clear hp
              have CS2 := scan_at2 s (i + k + 1 + N1) hs
              have hN2 := scanN_le (s.data.toList.drop (i + k + 1 + N1 + 1))
              rw [List.length_drop, hlen] at hN2
              have hV2 := scanV_bounds (s.data.toList.drop (i + k + 1 + N1 + 1))
              have HL2 : Hid (lenAt s.data.toList (i + k + 1 + N1) = if 0 < scanN (s.data.toList.drop (i + k + 1 + N1 + 1)) then scanV (s.data.toList.drop (i + k + 1 + N1 + 1)) else 2147483647) := hl2
              clear hl2
              generalize scanN (s.data.toList.drop (i + k + 1 + N1 + 1)) = N2 at *
              generalize scanV (s.data.toList.drop (i + k + 1 + N1 + 1)) = V2 at *
              by_cases hn2' : 0 < N2
              · have HL3 : Hid (lenAt s.data.toList (i + k + 1 + N1) = V2) := by rw [HL2.out, if_pos hn2']; trivial
                clear HL2
                go_wp2_with (first
                  | (go_at_call 14; refine (CS _).mono ?_; clear CS; rintro e w2 ⟨rfl, hb2⟩)
                  | (go_at_call 15; refine (CP _).mono ?_; clear CP; rintro e w' ⟨rfl, hw1⟩; replace hw1 := hw1.symm; subst hw1)
                  | (go_at_call 14; refine (CS2 _).mono ?_; clear CS2; rintro e w3 ⟨rfl, hb3⟩))
                go_ret3
                exact ⟨by rw [HR2.out, HL3.out]; rfl, below3 hbel hb2 hb3⟩
              · obtain rfl : N2 = 0 := by omega
                have HL3 : Hid (lenAt s.data.toList (i + k + 1 + N1) = 2147483647) := by rw [HL2.out, if_neg hn2']; trivial
                clear HL2
                go_wp2_with (first
                  | (go_at_call 14; refine (CS _).mono ?_; clear CS; rintro e w2 ⟨rfl, hb2⟩)
                  | (go_at_call 15; refine (CP _).mono ?_; clear CP; rintro e w' ⟨rfl, hw1⟩; replace hw1 := hw1.symm; subst hw1)
                  | (go_at_call 14; refine (CS2 _).mono ?_; clear CS2; rintro e w3 ⟨rfl, hb3⟩))
                go_ret3
                exact ⟨by rw [HR2.out, HL3.out]; rfl, below3 hbel hb2 hb3⟩
        · have hz2 : (P + ((n1 : Int) - (n2 : Int)) == 0) = false := by simp; omega
          go_wp2_with (go_at_call 12; refine (CB _).mono ?_; rintro e w' ⟨rfl, hw1⟩; replace hw1 := hw1.symm; subst hw1)
          go_quiet ((go_at_call 13; exact Calls.quiet_of_same (Tryd.strings_Count_one _ _ _)))
          go_wp2
          go_roundw
          case rel => exact ⟨i + k + 1, P + D, by omega, rfl, by go_num, by go_num, by omega, by omega, HM2'.out hz, below_drewN hbel _⟩
          case measure => simp [intOf]; omega
    · have HR : Hid (splitR s.data.toList = ⟨s.data.toList.length, 0, 2147483647⟩) := mid_end hmid.out (by omega)
      clear hmid
      go_wp2
      go_ret3
      exact ⟨by rw [HR.out, outR_none]; rfl, hbel⟩
end Go.Proofs.Qxb6606024aDoor
