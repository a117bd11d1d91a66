/-
  THE WALK of scanInt: a sign '+', a sign '-', no sign, nothing behind the blanks.
-/
import Derived.Test.Qxb6606024aDoorWalkA
namespace Go.Proofs.Qxb6606024aDoor
open Go.RowKit

theorem wrap32_cut (x : Int) : wrap32 x = cut32 x := by unfold wrap32 cut32; omega
theorem ret_two {a b c d : Int} (h1 : a = b) (h2 : c = d) : Ending.returned (.tuple #[.int .i32 a, .int .i64 c]) = .returned (.tuple #[.int .i32 b, .int .i64 d]) := by rw [h1, h2]

set_option maxRecDepth 100000 in
set_option maxHeartbeats 1000000 in
theorem scanInt_plus (s : ByteArray) (w : World) (hs : s.size ≤ 2000000) (h0 : s.data.toList[skip s.data.toList]? = some 43) :
    Calls Tryd.prog 14 #[.string s, .int .i64 30] w fun e w' => e = .returned (.tuple #[.int .i32 (scanV s.data.toList), .int .i64 (scanN s.data.toList)]) ∧ Below w.heap.size w w' := by
  obtain ⟨e1, e2⟩ := sgn_plus _ h0
  have hle : skip s.data.toList < s.size := by
    rcases Nat.lt_or_ge (skip s.data.toList) s.size with h | h
    · exact h
    · rw [get_list_none s _ (by omega)] at h0; cases h0
  have HL : Hid (lim s.data.toList = min s.size (skip s.data.toList + 30)) := rfl
  have D1 : Hid (∀ k (h : k < (digs s.data.toList).length), skip s.data.toList + 1 + k < lim s.data.toList ∧ s.data.toList[skip s.data.toList + 1 + k]? = some (digs s.data.toList)[k] ∧ dig (digs s.data.toList)[k] = true) := by
    have := digs_at s.data.toList
    rw [e1] at this
    exact this
  have D2 : Hid (skip s.data.toList + 1 + (digs s.data.toList).length < lim s.data.toList → ∃ c, s.data.toList[skip s.data.toList + 1 + (digs s.data.toList).length]? = some c ∧ dig c = false) := by
    have := digs_end s.data.toList
    rw [e1] at this
    exact this
  have D3 : (digs s.data.toList).length ≤ 30 := digs_30 _
  have DV : Hid (scanV s.data.toList = if digs s.data.toList = [] then 0 else cut32 (clampI false (val (digs s.data.toList)))) := by unfold Hid scanV; rw [e2]
  have DN : Hid (scanN s.data.toList = if digs s.data.toList = [] then 0 else skip s.data.toList + 1 + (digs s.data.toList).length) := by unfold Hid scanN; rw [e1]
  rw [get_list s _ hle] at h0
  have hb : ((s[skip s.data.toList].toNat : Int) == 43) = true := by have := Option.some.inj h0; rw [this]; rfl
  have hb2 : ((s[skip s.data.toList].toNat : Int) == 45) = false := by have := Option.some.inj h0; rw [this]; rfl
  clear h0 e1 e2
  have CT := trim_any s w
  generalize digs s.data.toList = ds at *
  generalize hsk : skip s.data.toList = st at *
  clear hsk
  generalize scanV s.data.toList = V at *
  generalize scanN s.data.toList = N at *
  generalize lim s.data.toList = lm at *
  have hmin : min (s.size : Int) ((st : Int) + 30) = (lm : Int) := by have := HL.out; omega
  have hlm1 : (st : Int) < (lm : Int) := by have := HL.out; omega
  have hlm2 : (lm : Int) ≤ (s.size : Int) := by have := HL.out; omega
  go_enter Tryd.func14, Tryd.ntmps14
  go_wp2_with (go_at_call 21; refine CT.mono ?_; rintro e w1 ⟨t, rfl, ht, hbel⟩; have hst : (s.size : Int) - (t.size : Int) = (st : Int) := (by omega); clear ht)
  go_loop [8, 11] (fun vi vl => ∃ k : Nat, k ≤ ds.length ∧ vi = .int .i64 ((st + 1 + k : Nat) : Int) ∧ vl = .int .i64 (clampI false (val (ds.take k)))) (fun i _ => st + 1 + ds.length - (intOf i).toNat)
  case atStart => exact ⟨0, Nat.zero_le _, by go_num, rfl⟩
  case round =>
    obtain ⟨k, hk, rfl, rfl⟩ := hrel
    by_cases hlt : k < ds.length
    · obtain ⟨g1, g2, g3⟩ := D1.out k hlt
      have g4 : st + 1 + k < s.size := by omega
      rw [get_list s _ g4] at g2
      have g5 : s[st + 1 + k] = ds[k] := Option.some.inj g2
      obtain ⟨b1, b2, b3, b4⟩ := dv_int g3
      rw [← g5] at b1 b2
      have hvn := val_next ds k hlt
      have cb := clamp_bounds false (val (ds.take k))
      have cs := clamp_pos_step2 (val (ds.take k)) (dv ds[k]) b4 _ rfl
      rw [← hvn, b3, ← g5] at cs
      have cb1 := cb.1
      have cb2 := cb.2.1
      have cb3 := cb.2.2.1 rfl
      clear cb hvn g2 g3 g5 b3 b4
      by_cases hc : (9223372036854775807 - ((s[st + 1 + k].toNat : Int) - 48)) / 10 < clampI false (val (ds.take k))
      · have HX : Hid (clampI false (val (ds.take (k + 1))) = 9223372036854775807) := cs.1 hc
        clear cs
        generalize clampI false (val (ds.take k)) = L at *
        go_wp2_with (go_at_call 22; refine (isDigit_yes _ _ b1 b2).mono ?_; rintro e w' ⟨rfl, hw1⟩; replace hw1 := hw1.symm; subst hw1)
        all_goals
          go_round
          case rel => exact ⟨k + 1, by omega, by go_num, by rw [HX.out]⟩
          case measure => simp [intOf]; omega
      · have HX : Hid (clampI false (val (ds.take (k + 1))) = clampI false (val (ds.take k)) * 10 + ((s[st + 1 + k].toNat : Int) - 48)) := (cs.2 hc).1
        have hlo := (cs.2 hc).2
        clear cs
        generalize clampI false (val (ds.take k)) = L at *
        go_wp2_with (go_at_call 22; refine (isDigit_yes _ _ b1 b2).mono ?_; rintro e w' ⟨rfl, hw1⟩; replace hw1 := hw1.symm; subst hw1)
        all_goals
          go_round
          case rel => exact ⟨k + 1, by omega, by go_num, by rw [HX.out]⟩
          case measure => simp [intOf]; omega
    · obtain rfl : k = ds.length := by omega
      rw [List.take_length]
      have cb := clamp_bounds false (val ds)
      have cb1 := cb.1
      have cb2 := cb.2.1
      clear cb
      by_cases hnd : ds = []
      · have HV : Hid (V = 0) := by rw [DV.out, if_pos hnd]; trivial
        have HN : Hid (N = 0) := by rw [DN.out, if_pos hnd]; trivial
        subst hnd
        by_cases hend : st + 1 + ([] : List UInt8).length < lm
        · obtain ⟨c, g1, g2⟩ := D2.out hend
          have g4 : st + 1 < s.size := by simp at hend; omega
          rw [List.length_nil, Nat.add_zero, get_list s _ g4] at g1
          have g5 : s[st + 1] = c := Option.some.inj g1
          have g6 := dig_no g2
          rw [← g5] at g6
          clear g1 g2 g5 D1 D2
          generalize clampI false (val []) = L at *
          go_wp2_with (go_at_call 22; refine (isDigit_no _ _ g6).mono ?_; rintro e w' ⟨rfl, hw1⟩; replace hw1 := hw1.symm; subst hw1)
          all_goals (go_ret2; exact ⟨by rw [HV.out, HN.out]; rfl, hbel⟩)
        · have hend' : ¬ st + 1 < lm := by simpa using hend
          clear hend D1 D2
          generalize clampI false (val []) = L at *
          go_wp2
          all_goals (go_ret2; exact ⟨by rw [HV.out, HN.out]; rfl, hbel⟩)
      · have hpos : 0 < ds.length := List.length_pos_iff.2 hnd
        have HV : Hid (V = cut32 (clampI false (val ds))) := by rw [DV.out, if_neg hnd]; trivial
        have HN : Hid (N = st + 1 + ds.length) := by rw [DN.out, if_neg hnd]; trivial
        by_cases hend : st + 1 + ds.length < lm
        · obtain ⟨c, g1, g2⟩ := D2.out hend
          have g4 : st + 1 + ds.length < s.size := by omega
          rw [get_list s _ g4] at g1
          have g5 : s[st + 1 + ds.length] = c := Option.some.inj g1
          have g6 := dig_no g2
          rw [← g5] at g6
          clear g1 g2 g5 D1 D2
          generalize clampI false (val ds) = L at *
          go_wp2_with (go_at_call 22; refine (isDigit_no _ _ g6).mono ?_; rintro e w' ⟨rfl, hw1⟩; replace hw1 := hw1.symm; subst hw1)
          all_goals (go_ret2; exact ⟨ret_two (by rw [HV.out]; exact wrap32_cut _) (by rw [HN.out]; omega), hbel⟩)
        · clear D1 D2
          generalize clampI false (val ds) = L at *
          go_wp2
          all_goals (go_ret2; exact ⟨ret_two (by rw [HV.out]; exact wrap32_cut _) (by rw [HN.out]; omega), hbel⟩)

set_option maxRecDepth 100000 in
set_option maxHeartbeats 1000000 in
theorem scanInt_minus (s : ByteArray) (w : World) (hs : s.size ≤ 2000000) (h0 : s.data.toList[skip s.data.toList]? = some 45) :
    Calls Tryd.prog 14 #[.string s, .int .i64 30] w fun e w' => e = .returned (.tuple #[.int .i32 (scanV s.data.toList), .int .i64 (scanN s.data.toList)]) ∧ Below w.heap.size w w' := by
  obtain ⟨e1, e2⟩ := sgn_minus _ h0
  have hle : skip s.data.toList < s.size := by
    rcases Nat.lt_or_ge (skip s.data.toList) s.size with h | h
    · exact h
    · rw [get_list_none s _ (by omega)] at h0; cases h0
  have HL : Hid (lim s.data.toList = min s.size (skip s.data.toList + 30)) := rfl
  have D1 : Hid (∀ k (h : k < (digs s.data.toList).length), skip s.data.toList + 1 + k < lim s.data.toList ∧ s.data.toList[skip s.data.toList + 1 + k]? = some (digs s.data.toList)[k] ∧ dig (digs s.data.toList)[k] = true) := by
    have := digs_at s.data.toList
    rw [e1] at this
    exact this
  have D2 : Hid (skip s.data.toList + 1 + (digs s.data.toList).length < lim s.data.toList → ∃ c, s.data.toList[skip s.data.toList + 1 + (digs s.data.toList).length]? = some c ∧ dig c = false) := by
    have := digs_end s.data.toList
    rw [e1] at this
    exact this
  have D3 : (digs s.data.toList).length ≤ 30 := digs_30 _
  have DV : Hid (scanV s.data.toList = if digs s.data.toList = [] then 0 else cut32 (clampI true (val (digs s.data.toList)))) := by unfold Hid scanV; rw [e2]
  have DN : Hid (scanN s.data.toList = if digs s.data.toList = [] then 0 else skip s.data.toList + 1 + (digs s.data.toList).length) := by unfold Hid scanN; rw [e1]
  rw [get_list s _ hle] at h0
  have hb : ((s[skip s.data.toList].toNat : Int) == 43) = false := by have := Option.some.inj h0; rw [this]; rfl
  have hb2 : ((s[skip s.data.toList].toNat : Int) == 45) = true := by have := Option.some.inj h0; rw [this]; rfl
  clear h0 e1 e2
  have CT := trim_any s w
  generalize digs s.data.toList = ds at *
  generalize hsk : skip s.data.toList = st at *
  clear hsk
  generalize scanV s.data.toList = V at *
  generalize scanN s.data.toList = N at *
  generalize lim s.data.toList = lm at *
  have hmin : min (s.size : Int) ((st : Int) + 30) = (lm : Int) := by have := HL.out; omega
  have hlm1 : (st : Int) < (lm : Int) := by have := HL.out; omega
  have hlm2 : (lm : Int) ≤ (s.size : Int) := by have := HL.out; omega
  go_enter Tryd.func14, Tryd.ntmps14
  go_wp2_with (go_at_call 21; refine CT.mono ?_; rintro e w1 ⟨t, rfl, ht, hbel⟩; have hst : (s.size : Int) - (t.size : Int) = (st : Int) := (by omega); clear ht)
  go_loop [8, 11] (fun vi vl => ∃ k : Nat, k ≤ ds.length ∧ vi = .int .i64 ((st + 1 + k : Nat) : Int) ∧ vl = .int .i64 (clampI true (val (ds.take k)))) (fun i _ => st + 1 + ds.length - (intOf i).toNat)
  case atStart => exact ⟨0, Nat.zero_le _, by go_num, rfl⟩
  case round =>
    obtain ⟨k, hk, rfl, rfl⟩ := hrel
    by_cases hlt : k < ds.length
    · obtain ⟨g1, g2, g3⟩ := D1.out k hlt
      have g4 : st + 1 + k < s.size := by omega
      rw [get_list s _ g4] at g2
      have g5 : s[st + 1 + k] = ds[k] := Option.some.inj g2
      obtain ⟨b1, b2, b3, b4⟩ := dv_int g3
      rw [← g5] at b1 b2
      have hvn := val_next ds k hlt
      have cb := clamp_bounds true (val (ds.take k))
      have cs := clamp_neg_step (val (ds.take k)) (dv ds[k]) b4 _ rfl
      rw [← hvn, b3, ← g5] at cs
      have cb1 := cb.1
      have cb2 := cb.2.1
      have cb3 := cb.2.2.2 rfl
      clear cb hvn g2 g3 g5 b3 b4
      by_cases hc : clampI true (val (ds.take k)) < (-9223372036854775808 + ((s[st + 1 + k].toNat : Int) - 48)).tdiv 10
      · have HX : Hid (clampI true (val (ds.take (k + 1))) = -9223372036854775808) := cs.1 hc
        clear cs
        generalize clampI true (val (ds.take k)) = L at *
        go_wp2_with (go_at_call 22; refine (isDigit_yes _ _ b1 b2).mono ?_; rintro e w' ⟨rfl, hw1⟩; replace hw1 := hw1.symm; subst hw1)
        all_goals
          go_round
          case rel => exact ⟨k + 1, by omega, by go_num, by rw [HX.out]⟩
          case measure => simp [intOf]; omega
      · have HX : Hid (clampI true (val (ds.take (k + 1))) = clampI true (val (ds.take k)) * 10 - ((s[st + 1 + k].toNat : Int) - 48)) := (cs.2 hc).1
        have hlo := (cs.2 hc).2
        clear cs
        generalize clampI true (val (ds.take k)) = L at *
        go_wp2_with (go_at_call 22; refine (isDigit_yes _ _ b1 b2).mono ?_; rintro e w' ⟨rfl, hw1⟩; replace hw1 := hw1.symm; subst hw1)
        all_goals
          go_round
          case rel => exact ⟨k + 1, by omega, by go_num, by rw [HX.out]⟩
          case measure => simp [intOf]; omega
    · obtain rfl : k = ds.length := by omega
      rw [List.take_length]
      have cb := clamp_bounds true (val ds)
      have cb1 := cb.1
      have cb2 := cb.2.1
      clear cb
      by_cases hnd : ds = []
      · have HV : Hid (V = 0) := by rw [DV.out, if_pos hnd]; trivial
        have HN : Hid (N = 0) := by rw [DN.out, if_pos hnd]; trivial
        subst hnd
        by_cases hend : st + 1 + ([] : List UInt8).length < lm
        · obtain ⟨c, g1, g2⟩ := D2.out hend
          have g4 : st + 1 < s.size := by simp at hend; omega
          rw [List.length_nil, Nat.add_zero, get_list s _ g4] at g1
          have g5 : s[st + 1] = c := Option.some.inj g1
          have g6 := dig_no g2
          rw [← g5] at g6
          clear g1 g2 g5 D1 D2
          generalize clampI true (val []) = L at *
          go_wp2_with (go_at_call 22; refine (isDigit_no _ _ g6).mono ?_; rintro e w' ⟨rfl, hw1⟩; replace hw1 := hw1.symm; subst hw1)
          all_goals (go_ret2; exact ⟨by rw [HV.out, HN.out]; rfl, hbel⟩)
        · have hend' : ¬ st + 1 < lm := by simpa using hend
          clear hend D1 D2
          generalize clampI true (val []) = L at *
          go_wp2
          all_goals (go_ret2; exact ⟨by rw [HV.out, HN.out]; rfl, hbel⟩)
      · have hpos : 0 < ds.length := List.length_pos_iff.2 hnd
        have HV : Hid (V = cut32 (clampI true (val ds))) := by rw [DV.out, if_neg hnd]; trivial
        have HN : Hid (N = st + 1 + ds.length) := by rw [DN.out, if_neg hnd]; trivial
        by_cases hend : st + 1 + ds.length < lm
        · obtain ⟨c, g1, g2⟩ := D2.out hend
          have g4 : st + 1 + ds.length < s.size := by omega
          rw [get_list s _ g4] at g1
          have g5 : s[st + 1 + ds.length] = c := Option.some.inj g1
          have g6 := dig_no g2
          rw [← g5] at g6
          clear g1 g2 g5 D1 D2
          generalize clampI true (val ds) = L at *
          go_wp2_with (go_at_call 22; refine (isDigit_no _ _ g6).mono ?_; rintro e w' ⟨rfl, hw1⟩; replace hw1 := hw1.symm; subst hw1)
          all_goals (go_ret2; exact ⟨ret_two (by rw [HV.out]; exact wrap32_cut _) (by rw [HN.out]; omega), hbel⟩)
        · clear D1 D2
          generalize clampI true (val ds) = L at *
          go_wp2
          all_goals (go_ret2; exact ⟨ret_two (by rw [HV.out]; exact wrap32_cut _) (by rw [HN.out]; omega), hbel⟩)

set_option maxRecDepth 100000 in
set_option maxHeartbeats 1000000 in
theorem scanInt_bare (s : ByteArray) (w : World) (hs : s.size ≤ 2000000) (hle : skip s.data.toList < s.size) (h0 : s.data.toList[skip s.data.toList]? ≠ some 43) (h1 : s.data.toList[skip s.data.toList]? ≠ some 45) :
    Calls Tryd.prog 14 #[.string s, .int .i64 30] w fun e w' => e = .returned (.tuple #[.int .i32 (scanV s.data.toList), .int .i64 (scanN s.data.toList)]) ∧ Below w.heap.size w w' := by
  obtain ⟨e1, e2⟩ := sgn_none _ h0 h1
  have HL : Hid (lim s.data.toList = min s.size (skip s.data.toList + 30)) := rfl
  have D1 : Hid (∀ k (h : k < (digs s.data.toList).length), skip s.data.toList + k < lim s.data.toList ∧ s.data.toList[skip s.data.toList + k]? = some (digs s.data.toList)[k] ∧ dig (digs s.data.toList)[k] = true) := by
    have := digs_at s.data.toList
    rw [e1] at this
    exact this
  have D2 : Hid (skip s.data.toList + (digs s.data.toList).length < lim s.data.toList → ∃ c, s.data.toList[skip s.data.toList + (digs s.data.toList).length]? = some c ∧ dig c = false) := by
    have := digs_end s.data.toList
    rw [e1] at this
    exact this
  have D3 : (digs s.data.toList).length ≤ 30 := digs_30 _
  have DV : Hid (scanV s.data.toList = if digs s.data.toList = [] then 0 else cut32 (clampI false (val (digs s.data.toList)))) := by unfold Hid scanV; rw [e2]
  have DN : Hid (scanN s.data.toList = if digs s.data.toList = [] then 0 else skip s.data.toList + (digs s.data.toList).length) := by unfold Hid scanN; rw [e1, Nat.add_zero]
  rw [get_list s _ hle] at h0 h1
  have hb := byte_neI (b := s[skip s.data.toList]) (c := 43) (n := 43) rfl (by simpa using h0)
  have hb2 := byte_neI (b := s[skip s.data.toList]) (c := 45) (n := 45) rfl (by simpa using h1)
  clear h0 h1 e1 e2
  have CT := trim_any s w
  generalize digs s.data.toList = ds at *
  generalize hsk : skip s.data.toList = st at *
  clear hsk
  generalize scanV s.data.toList = V at *
  generalize scanN s.data.toList = N at *
  generalize lim s.data.toList = lm at *
  have hmin : min (s.size : Int) ((st : Int) + 30) = (lm : Int) := by have := HL.out; omega
  have hlm1 : (st : Int) < (lm : Int) := by have := HL.out; omega
  have hlm2 : (lm : Int) ≤ (s.size : Int) := by have := HL.out; omega
  go_enter Tryd.func14, Tryd.ntmps14
  go_wp2_with (go_at_call 21; refine CT.mono ?_; rintro e w1 ⟨t, rfl, ht, hbel⟩; have hst : (s.size : Int) - (t.size : Int) = (st : Int) := (by omega); clear ht)
  go_loop [8, 11] (fun vi vl => ∃ k : Nat, k ≤ ds.length ∧ vi = .int .i64 ((st + k : Nat) : Int) ∧ vl = .int .i64 (clampI false (val (ds.take k)))) (fun i _ => st + ds.length - (intOf i).toNat)
  case atStart => exact ⟨0, Nat.zero_le _, by go_num, rfl⟩
  case round =>
    obtain ⟨k, hk, rfl, rfl⟩ := hrel
    by_cases hlt : k < ds.length
    · obtain ⟨g1, g2, g3⟩ := D1.out k hlt
      have g4 : st + k < s.size := by omega
      rw [get_list s _ g4] at g2
      have g5 : s[st + k] = ds[k] := Option.some.inj g2
      obtain ⟨b1, b2, b3, b4⟩ := dv_int g3
      rw [← g5] at b1 b2
      have hvn := val_next ds k hlt
      have cb := clamp_bounds false (val (ds.take k))
      have cs := clamp_pos_step2 (val (ds.take k)) (dv ds[k]) b4 _ rfl
      rw [← hvn, b3, ← g5] at cs
      have cb1 := cb.1
      have cb2 := cb.2.1
      have cb3 := cb.2.2.1 rfl
      clear cb hvn g2 g3 g5 b3 b4
      by_cases hc : (9223372036854775807 - ((s[st + k].toNat : Int) - 48)) / 10 < clampI false (val (ds.take k))
      · have HX : Hid (clampI false (val (ds.take (k + 1))) = 9223372036854775807) := cs.1 hc
        clear cs
        generalize clampI false (val (ds.take k)) = L at *
        go_wp2_with (go_at_call 22; refine (isDigit_yes _ _ b1 b2).mono ?_; rintro e w' ⟨rfl, hw1⟩; replace hw1 := hw1.symm; subst hw1)
        all_goals
          go_round
          case rel => exact ⟨k + 1, by omega, by go_num, by rw [HX.out]⟩
          case measure => simp [intOf]; omega
      · have HX : Hid (clampI false (val (ds.take (k + 1))) = clampI false (val (ds.take k)) * 10 + ((s[st + k].toNat : Int) - 48)) := (cs.2 hc).1
        have hlo := (cs.2 hc).2
        clear cs
        generalize clampI false (val (ds.take k)) = L at *
        go_wp2_with (go_at_call 22; refine (isDigit_yes _ _ b1 b2).mono ?_; rintro e w' ⟨rfl, hw1⟩; replace hw1 := hw1.symm; subst hw1)
        all_goals
          go_round
          case rel => exact ⟨k + 1, by omega, by go_num, by rw [HX.out]⟩
          case measure => simp [intOf]; omega
    · obtain rfl : k = ds.length := by omega
      rw [List.take_length]
      have cb := clamp_bounds false (val ds)
      have cb1 := cb.1
      have cb2 := cb.2.1
      clear cb
      by_cases hnd : ds = []
      · have HV : Hid (V = 0) := by rw [DV.out, if_pos hnd]; trivial
        have HN : Hid (N = 0) := by rw [DN.out, if_pos hnd]; trivial
        subst hnd
        by_cases hend : st + ([] : List UInt8).length < lm
        · obtain ⟨c, g1, g2⟩ := D2.out hend
          have g4 : st < s.size := by simp at hend; omega
          rw [List.length_nil, Nat.add_zero, get_list s _ g4] at g1
          have g5 : s[st] = c := Option.some.inj g1
          have g6 := dig_no g2
          rw [← g5] at g6
          clear g1 g2 g5 D1 D2
          generalize clampI false (val []) = L at *
          go_wp2_with (go_at_call 22; refine (isDigit_no _ _ g6).mono ?_; rintro e w' ⟨rfl, hw1⟩; replace hw1 := hw1.symm; subst hw1)
          all_goals (go_ret2; exact ⟨by rw [HV.out, HN.out]; rfl, hbel⟩)
        · have hend' : ¬ st < lm := by simpa using hend
          clear hend D1 D2
          generalize clampI false (val []) = L at *
          go_wp2
          all_goals (go_ret2; exact ⟨by rw [HV.out, HN.out]; rfl, hbel⟩)
      · have hpos : 0 < ds.length := List.length_pos_iff.2 hnd
        have HV : Hid (V = cut32 (clampI false (val ds))) := by rw [DV.out, if_neg hnd]; trivial
        have HN : Hid (N = st + ds.length) := by rw [DN.out, if_neg hnd]; trivial
        by_cases hend : st + ds.length < lm
        · obtain ⟨c, g1, g2⟩ := D2.out hend
          have g4 : st + ds.length < s.size := by omega
          rw [get_list s _ g4] at g1
          have g5 : s[st + ds.length] = c := Option.some.inj g1
          have g6 := dig_no g2
          rw [← g5] at g6
          clear g1 g2 g5 D1 D2
          generalize clampI false (val ds) = L at *
          go_wp2_with (go_at_call 22; refine (isDigit_no _ _ g6).mono ?_; rintro e w' ⟨rfl, hw1⟩; replace hw1 := hw1.symm; subst hw1)
          all_goals (go_ret2; exact ⟨ret_two (by rw [HV.out]; exact wrap32_cut _) (by rw [HN.out]; omega), hbel⟩)
        · clear D1 D2
          generalize clampI false (val ds) = L at *
          go_wp2
          all_goals (go_ret2; exact ⟨ret_two (by rw [HV.out]; exact wrap32_cut _) (by rw [HN.out]; omega), hbel⟩)

set_option maxRecDepth 100000 in
set_option maxHeartbeats 1000000 in
theorem scanInt_gone (s : ByteArray) (w : World) (hs : s.size ≤ 2000000) (hle : ¬ skip s.data.toList < s.size) :
    Calls Tryd.prog 14 #[.string s, .int .i64 30] w fun e w' => e = .returned (.tuple #[.int .i32 (scanV s.data.toList), .int .i64 (scanN s.data.toList)]) ∧ Below w.heap.size w w' := by
  have hn := get_list_none s _ hle
  have hskl := skip_le s.data.toList
  have hsl : s.data.toList.length = s.size := rfl
  obtain ⟨e1, e2⟩ := sgn_none s.data.toList (by rw [hn]; simp) (by rw [hn]; simp)
  have HL : Hid (lim s.data.toList = min s.size (skip s.data.toList + 30)) := rfl
  have D1 : Hid (∀ k (h : k < (digs s.data.toList).length), skip s.data.toList + k < lim s.data.toList ∧ s.data.toList[skip s.data.toList + k]? = some (digs s.data.toList)[k] ∧ dig (digs s.data.toList)[k] = true) := by
    have := digs_at s.data.toList
    rw [e1] at this
    exact this
  have D2 : Hid (skip s.data.toList + (digs s.data.toList).length < lim s.data.toList → ∃ c, s.data.toList[skip s.data.toList + (digs s.data.toList).length]? = some c ∧ dig c = false) := by
    have := digs_end s.data.toList
    rw [e1] at this
    exact this
  have D3 : (digs s.data.toList).length ≤ 30 := digs_30 _
  have DV : Hid (scanV s.data.toList = if digs s.data.toList = [] then 0 else cut32 (clampI false (val (digs s.data.toList)))) := by unfold Hid scanV; rw [e2]
  have DN : Hid (scanN s.data.toList = if digs s.data.toList = [] then 0 else skip s.data.toList + (digs s.data.toList).length) := by unfold Hid scanN; rw [e1, Nat.add_zero]
  clear e1 e2 hn
  rw [hsl] at hskl
  clear hsl
  have CT := trim_any s w
  generalize digs s.data.toList = ds at *
  generalize hsk : skip s.data.toList = st at *
  clear hsk
  generalize scanV s.data.toList = V at *
  generalize scanN s.data.toList = N at *
  generalize lim s.data.toList = lm at *
  have hmin : min (s.size : Int) ((st : Int) + 30) = (lm : Int) := by have := HL.out; omega
  have hlm1 : (lm : Int) ≤ (st : Int) := by have := HL.out; omega
  have hlm2 : (lm : Int) ≤ (s.size : Int) := by have := HL.out; omega
  go_enter Tryd.func14, Tryd.ntmps14
  go_wp2_with (go_at_call 21; refine CT.mono ?_; rintro e w1 ⟨t, rfl, ht, hbel⟩; have hst : (s.size : Int) - (t.size : Int) = (st : Int) := (by omega); clear ht)
  go_loop [8, 11] (fun vi vl => ∃ k : Nat, k ≤ ds.length ∧ vi = .int .i64 ((st + k : Nat) : Int) ∧ vl = .int .i64 (clampI false (val (ds.take k)))) (fun i _ => st + ds.length - (intOf i).toNat)
  case atStart => exact ⟨0, Nat.zero_le _, by go_num, rfl⟩
  case round =>
    obtain ⟨k, hk, rfl, rfl⟩ := hrel
    by_cases hlt : k < ds.length
    · obtain ⟨g1, g2, g3⟩ := D1.out k hlt
      have g4 : st + k < s.size := by omega
      rw [get_list s _ g4] at g2
      have g5 : s[st + k] = ds[k] := Option.some.inj g2
      obtain ⟨b1, b2, b3, b4⟩ := dv_int g3
      rw [← g5] at b1 b2
      have hvn := val_next ds k hlt
      have cb := clamp_bounds false (val (ds.take k))
      have cs := clamp_pos_step2 (val (ds.take k)) (dv ds[k]) b4 _ rfl
      rw [← hvn, b3, ← g5] at cs
      have cb1 := cb.1
      have cb2 := cb.2.1
      have cb3 := cb.2.2.1 rfl
      clear cb hvn g2 g3 g5 b3 b4
      by_cases hc : (9223372036854775807 - ((s[st + k].toNat : Int) - 48)) / 10 < clampI false (val (ds.take k))
      · have HX : Hid (clampI false (val (ds.take (k + 1))) = 9223372036854775807) := cs.1 hc
        clear cs
        generalize clampI false (val (ds.take k)) = L at *
        go_wp2_with (go_at_call 22; refine (isDigit_yes _ _ b1 b2).mono ?_; rintro e w' ⟨rfl, hw1⟩; replace hw1 := hw1.symm; subst hw1)
        all_goals
          go_round
          case rel => exact ⟨k + 1, by omega, by go_num, by rw [HX.out]⟩
          case measure => simp [intOf]; omega
      · have HX : Hid (clampI false (val (ds.take (k + 1))) = clampI false (val (ds.take k)) * 10 + ((s[st + k].toNat : Int) - 48)) := (cs.2 hc).1
        have hlo := (cs.2 hc).2
        clear cs
        generalize clampI false (val (ds.take k)) = L at *
        go_wp2_with (go_at_call 22; refine (isDigit_yes _ _ b1 b2).mono ?_; rintro e w' ⟨rfl, hw1⟩; replace hw1 := hw1.symm; subst hw1)
        all_goals
          go_round
          case rel => exact ⟨k + 1, by omega, by go_num, by rw [HX.out]⟩
          case measure => simp [intOf]; omega
    · obtain rfl : k = ds.length := by omega
      rw [List.take_length]
      have cb := clamp_bounds false (val ds)
      have cb1 := cb.1
      have cb2 := cb.2.1
      clear cb
      by_cases hnd : ds = []
      · have HV : Hid (V = 0) := by rw [DV.out, if_pos hnd]; trivial
        have HN : Hid (N = 0) := by rw [DN.out, if_pos hnd]; trivial
        subst hnd
        by_cases hend : st + ([] : List UInt8).length < lm
        · obtain ⟨c, g1, g2⟩ := D2.out hend
          have g4 : st < s.size := by simp at hend; omega
          rw [List.length_nil, Nat.add_zero, get_list s _ g4] at g1
          have g5 : s[st] = c := Option.some.inj g1
          have g6 := dig_no g2
          rw [← g5] at g6
          clear g1 g2 g5 D1 D2
          generalize clampI false (val []) = L at *
          go_wp2_with (go_at_call 22; refine (isDigit_no _ _ g6).mono ?_; rintro e w' ⟨rfl, hw1⟩; replace hw1 := hw1.symm; subst hw1)
          all_goals (go_ret2; exact ⟨by rw [HV.out, HN.out]; rfl, hbel⟩)
        · have hend' : ¬ st < lm := by simpa using hend
          clear hend D1 D2
          generalize clampI false (val []) = L at *
          go_wp2
          all_goals (go_ret2; exact ⟨by rw [HV.out, HN.out]; rfl, hbel⟩)
      · have hpos : 0 < ds.length := List.length_pos_iff.2 hnd
        have HV : Hid (V = cut32 (clampI false (val ds))) := by rw [DV.out, if_neg hnd]; trivial
        have HN : Hid (N = st + ds.length) := by rw [DN.out, if_neg hnd]; trivial
        by_cases hend : st + ds.length < lm
        · obtain ⟨c, g1, g2⟩ := D2.out hend
          have g4 : st + ds.length < s.size := by omega
          rw [get_list s _ g4] at g1
          have g5 : s[st + ds.length] = c := Option.some.inj g1
          have g6 := dig_no g2
          rw [← g5] at g6
          clear g1 g2 g5 D1 D2
          generalize clampI false (val ds) = L at *
          go_wp2_with (go_at_call 22; refine (isDigit_no _ _ g6).mono ?_; rintro e w' ⟨rfl, hw1⟩; replace hw1 := hw1.symm; subst hw1)
          all_goals (go_ret2; exact ⟨ret_two (by rw [HV.out]; exact wrap32_cut _) (by rw [HN.out]; omega), hbel⟩)
        · clear D1 D2
          generalize clampI false (val ds) = L at *
          go_wp2
          all_goals (go_ret2; exact ⟨ret_two (by rw [HV.out]; exact wrap32_cut _) (by rw [HN.out]; omega), hbel⟩)

theorem scanInt_any (s : ByteArray) (w : World) (hs : s.size ≤ 2000000) :
    Calls Tryd.prog 14 #[.string s, .int .i64 30] w fun e w' => e = .returned (.tuple #[.int .i32 (scanV s.data.toList), .int .i64 (scanN s.data.toList)]) ∧ Below w.heap.size w w' := by
  by_cases hle : skip s.data.toList < s.size
  · by_cases h0 : s.data.toList[skip s.data.toList]? = some 43
    · exact scanInt_plus s w hs h0
    · by_cases h1 : s.data.toList[skip s.data.toList]? = some 45
      · exact scanInt_minus s w hs h1
      · exact scanInt_bare s w hs hle h0 h1
  · exact scanInt_gone s w hs hle
end Go.Proofs.Qxb6606024aDoor
