/-
  THE WALK of FnSplitReferenceRoundTrip.
-/
import Derived.Test.Qxb6606024aDoorWalkC
import Derived.Test.Qxb6606024aDoorWalkD
namespace Go.Proofs.Qxb6606024aDoor
open Go.RowKit

set_option maxHeartbeats 400000 in
theorem zzRef_any (s : ByteArray) (w : World) (hs : s.size ≤ 2000000) :
    Calls Tryd.prog 6 #[.string s] w fun e w' => e = .returned (outR s (splitR s.data.toList)) ∧ Below w.heap.size w w' := by
  have C := splitRef_any s w hs
  unfold outR at C ⊢
  go_enter Tryd.func6, Tryd.ntmps6
  go_wp2_with (go_at_call 10; refine C.mono ?_; rintro e w' ⟨rfl, hb⟩)
  go_ret3
  exact ⟨rfl, hb⟩

set_option maxHeartbeats 400000 in
theorem bytes8_any (s : ByteArray) (x y : Int) (w : World) (hs : s.size ≤ maxLen) :
    Calls Tryd.prog 8 #[.string s, .int .i32 x, .int .i32 y] w fun e w' => e = .returned (.bool (decide ((s.size : Int) ≤ 1048576))) ∧ w' = w := by
  unfold maxLen at hs
  by_cases h : (s.size : Int) ≤ 1048576
  · go_enter Tryd.func8, Tryd.ntmps8
    go_wp2
    go_ret
    exact ⟨by simp [h], rfl⟩
  · go_enter Tryd.func8, Tryd.ntmps8
    go_wp2
    go_ret
    exact ⟨by simp [h], rfl⟩

theorem firstC_snoc : ∀ (l : List UInt8) (d : Int) (c : UInt8), firstC d l = none → ¬ (c = 58 ∧ d + depth l = 0) → firstC d (l ++ [c]) = none
  | [], d, c, _, h => by
    rw [List.nil_append, firstC_step c [] d (by simpa [depth] using h)]; rfl
  | b :: l, d, c, h1, h => by
    have hb : ¬ (b = 58 ∧ d = 0) := by
      intro e
      rw [firstC, if_pos e] at h1
      cases h1
    rw [firstC_step b l d hb, Option.map_eq_none_iff] at h1
    rw [List.cons_append, firstC_step b _ d hb, firstC_snoc l (d + par b) c h1 (by rw [depth_cons] at h; intro e; exact h ⟨e.1, by omega⟩)]
    rfl

/-- the scanning loop's word -/
structure Scn (l : List UInt8) (c : Nat) (D : Int) : Prop where
  no : firstC 0 (l.take c) = none
  dep : D = depth (l.take c)
theorem scn_zero (l : List UInt8) : Scn l 0 0 := ⟨rfl, rfl⟩
theorem scn_step {l : List UInt8} {c : Nat} {D : Int} (h : Scn l c D) (hc : c < l.length) (hn : ¬ (l[c] = 58 ∧ D = 0)) : Scn l (c + 1) (D + par l[c]) := by
  have e := List.take_succ_eq_append_getElem hc
  refine ⟨?_, ?_⟩
  · rw [e]
    exact firstC_snoc _ _ _ h.no (fun x => hn ⟨x.1, by rw [h.dep]; omega⟩)
  · rw [e, depth_snoc, h.dep]
theorem scn_bound {l : List UInt8} {c : Nat} {D : Int} (h : Scn l c D) : -(c : Int) ≤ D ∧ D ≤ c := by
  have := depth_bound (l.take c)
  have h2 : (l.take c).length ≤ c := List.length_take_le _ _
  have := h.dep
  omega

/-- the text that is put together, and what is read out of it -/
theorem joined_ref (s t1 t2 : ByteArray) (x y : Int) (D : Int) (h : Scn s.data.toList s.size D) (hD : D = 0) (h1 : Text x t1.data.toList) (h2 : Text y t2.data.toList)
    (hx1 : -2147483648 ≤ x) (hx2 : x ≤ 2147483647) (hy1 : -2147483648 ≤ y) (hy2 : y ≤ 2147483647) :
    outR (s ++ ⟨#[58]⟩ ++ t1 ++ ⟨#[58]⟩ ++ t2) (splitR (s ++ ⟨#[58]⟩ ++ t1 ++ ⟨#[58]⟩ ++ t2).data.toList) = .tuple #[.string s, .int .i64 x, .int .i64 y] := by
  have hl : s.data.toList.length = s.size := rfl
  have e : (s ++ ⟨#[58]⟩ ++ t1 ++ ⟨#[58]⟩ ++ t2).data.toList = s.data.toList ++ [58] ++ t1.data.toList ++ [58] ++ t2.data.toList := by
    simp [ByteArray.data_append]
  have hno := h.no
  have hdep := h.dep
  rw [List.take_of_length_le (by omega)] at hno hdep
  rw [e, round_trip _ _ _ x y hno (by omega) h1 h2 hx1 hx2 hy1 hy2]
  unfold outR
  simp only
  congr 3
  congr 1
  apply ba_ext
  rw [extract_part, e, Nat.sub_zero, List.drop_zero, hl]
  rw [List.append_assoc, List.append_assoc, List.append_assoc, List.take_append_of_le_length (by omega), List.take_of_length_le (by omega)]

set_option maxRecDepth 100000 in
set_option maxHeartbeats 400000 in
theorem law4_big (s : ByteArray) (x y : Int) (w : World) (hs : s.size ≤ maxLen) (hb : 1048576 < s.size) :
    Calls Tryd.prog 4 #[.string s, .int .i32 x, .int .i32 y] w fun e w' => e = .returned (.bool true) ∧ w' = w := by
  have hd : decide ((s.size : Int) ≤ 1048576) = false := by simp; omega
  go_enter Tryd.func4, Tryd.ntmps4
  go_wp2_with (go_at_call 8; refine (bytes8_any _ _ _ _ hs).mono ?_; rintro e w' ⟨rfl, rfl⟩)
  go_ret
  exact ⟨rfl, rfl⟩

set_option maxRecDepth 100000 in
set_option maxHeartbeats 1000000 in
theorem law4_small (s : ByteArray) (x y : Int) (w : World) (hb : s.size ≤ 1048576) (hx1 : -2147483648 ≤ x) (hx2 : x ≤ 2147483647) (hy1 : -2147483648 ≤ y) (hy2 : y ≤ 2147483647) :
    Calls Tryd.prog 4 #[.string s, .int .i32 x, .int .i32 y] w fun e w' => e = .returned (.bool true) ∧ Below w.heap.size w w' := by
  have hs' : s.size ≤ maxLen := by unfold maxLen; omega
  have hlen : s.data.toList.length = s.size := rfl
  have hd : decide ((s.size : Int) ≤ 1048576) = true := by simp; omega
  go_enter Tryd.func4, Tryd.ntmps4
  go_wp2_with (go_at_call 8; refine (bytes8_any _ _ _ _ hs').mono ?_; rintro e w' ⟨rfl, hw1⟩; replace hw1 := hw1.symm; subst hw1)
  go_loop [7, 8] (fun vd vc => ∃ (c : Nat) (D : Int), c ≤ s.size ∧ vc = .int .i64 c ∧ vd = .int .i64 D ∧ Hid (Scn s.data.toList c D)) (fun _ c => s.size - (intOf c).toNat)
  case atStart => exact ⟨0, 0, Nat.zero_le _, rfl, rfl, scn_zero _⟩
  case round =>
    obtain ⟨c, D, hc, rfl, rfl, HS⟩ := hrel
    have hD := scn_bound HS.out
    have hD1 := hD.1
    have hD2 := hD.2
    clear hD
    by_cases hlt : c < s.size
    · have HST : Hid (¬ (s[c] = 58 ∧ D = 0) → Scn s.data.toList (c + 1) (D + par s[c])) := fun h => scn_step HS.out (by omega) h
      by_cases c0 : s[c] = 40
      · have e0 : ((s[c].toNat : Int) == 40) = true := by rw [c0]; rfl
        have HN : Hid (Scn s.data.toList (c + 1) (D + 1)) := by have := HST.out (by rw [c0]; intro h; exact absurd h.1 (by decide)); rw [c0] at this; exact this
        clear c0 HST
        go_wp2
        go_round
        case rel => exact ⟨c + 1, D + 1, by omega, by go_num, rfl, HN⟩
        case measure => simp [intOf]; omega
      · have e0 := byte_neI (c := 40) (n := 40) rfl c0
        by_cases c1 : s[c] = 41
        · have e1 : ((s[c].toNat : Int) == 41) = true := by rw [c1]; rfl
          have HN : Hid (Scn s.data.toList (c + 1) (D - 1)) := by have := HST.out (by rw [c1]; intro h; exact absurd h.1 (by decide)); rw [c1] at this; exact this
          clear c0 c1 HST
          go_wp2
          go_round
          case rel => exact ⟨c + 1, D - 1, by omega, by go_num, rfl, HN⟩
          case measure => simp [intOf]; omega
        · have e1 := byte_neI (c := 41) (n := 41) rfl c1
          have hp : par s[c] = 0 := by unfold par; rw [if_neg c0, if_neg c1]
          by_cases c2 : s[c] = 58
          · have e2 : ((s[c].toNat : Int) == 58) = true := by rw [c2]; rfl
            by_cases hz : D = 0
            · have hz2 : (D == 0) = true := by simpa using hz
              clear hz HST hp c0 c1 c2
              go_wp2
              go_ret
              exact ⟨rfl, Below.refl _ _⟩
            · have hz2 : (D == 0) = false := by simpa using hz
              have HN : Hid (Scn s.data.toList (c + 1) D) := by have := HST.out (fun h => hz h.2); rw [hp, Int.add_zero] at this; exact this
              clear hz HST hp c0 c1 c2
              go_wp2
              go_round
              case rel => exact ⟨c + 1, D, by omega, by go_num, rfl, HN⟩
              case measure => simp [intOf]; omega
          · have e2 := byte_neI (c := 58) (n := 58) rfl c2
            have HN : Hid (Scn s.data.toList (c + 1) D) := by have := HST.out (fun h => c2 h.1); rw [hp, Int.add_zero] at this; exact this
            clear HST hp c0 c1 c2
            go_wp2
            go_round
            case rel => exact ⟨c + 1, D, by omega, by go_num, rfl, HN⟩
            case measure => simp [intOf]; omega
    · obtain rfl : c = s.size := by omega
      by_cases hz : D = 0
      · have hz2 : (D == 0) = true := by simpa using hz
        have HZ : Hid (D = 0) := hz
        clear hz
        go_wp2_with fail
        refine (itoa_any x w hx1 hx2).mono ?_
        rintro e w1 ⟨⟨t1, rfl, ht1, hs1⟩, hb1⟩
        have HT1 : Hid (Text x t1.data.toList) := ht1
        clear ht1
        go_wp2_with fail
        refine (itoa_any y w1 hy1 hy2).mono ?_
        rintro e w2 ⟨⟨t2, rfl, ht2, hs2⟩, hb2⟩
        have CR := zzRef_any (s ++ ⟨#[58]⟩ ++ t1 ++ ⟨#[58]⟩ ++ t2) w2 (by
          simp only [ByteArray.size_append]
          have e1 : (⟨#[58]⟩ : ByteArray).size = 1 := rfl
          omega)
        rw [joined_ref s t1 t2 x y D HS.out HZ.out HT1.out ht2 hx1 hx2 hy1 hy2] at CR
        have hb12 := hb1.trans (hb2.mono hb1.size)
        clear HS HZ HT1 ht2 hb1 hb2
        go_wp2_with (go_at_call 6; refine CR.mono ?_; rintro e w3 ⟨rfl, hb3⟩)
        go_ret
        exact ⟨rfl, hb12.trans (hb3.mono hb12.size)⟩
      · have hz2 : (D == 0) = false := by simpa using hz
        clear hz
        go_wp2
        go_ret
        exact ⟨rfl, Below.refl _ _⟩
end Go.Proofs.Qxb6606024aDoor
