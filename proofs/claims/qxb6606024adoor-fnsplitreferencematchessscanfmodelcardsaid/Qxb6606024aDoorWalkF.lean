/-
  THE WALKS of isCBlank and cScan.
-/
import Derived.Test.Qxb6606024aDoorWalkB
import Derived.Test.Qxb6606024aDoorPlainE
import Derived.Deep.CutBlock
import Derived.Deep.DeepCutAuto
namespace Go.Proofs.Qxb6606024aDoor
open Go.RowKit

set_option maxHeartbeats 400000 in
theorem isBlank_yes (c : UInt8) (w : World) (h : blk c = true) :
    Calls Tryd.prog 16 #[.int .u8 c.toNat] w fun e w' => e = .returned (.bool true) ∧ w' = w := by
  unfold blk at h
  simp only [Bool.or_eq_true, beq_iff_eq] at h
  rcases h with ((((rfl | rfl) | rfl) | rfl) | rfl) | rfl
  all_goals
    go_enter Tryd.func16, Tryd.ntmps16
    go_wp2
    go_ret
    exact ⟨rfl, rfl⟩
set_option maxHeartbeats 400000 in
theorem isBlank_no (c : UInt8) (w : World) (h : blk c = false) :
    Calls Tryd.prog 16 #[.int .u8 c.toNat] w fun e w' => e = .returned (.bool false) ∧ w' = w := by
  unfold blk at h
  simp only [Bool.or_eq_false_iff, beq_eq_false_iff_ne, ne_eq] at h
  obtain ⟨⟨⟨⟨⟨a, b⟩, d⟩, f⟩, g⟩, i⟩ := h
  have a' := byte_neI (c := 32) (n := 32) rfl a
  have b' := byte_neI (c := 9) (n := 9) rfl b
  have d' := byte_neI (c := 10) (n := 10) rfl d
  have f' := byte_neI (c := 11) (n := 11) rfl f
  have g' := byte_neI (c := 12) (n := 12) rfl g
  have i' := byte_neI (c := 13) (n := 13) rfl i
  clear a b d f g i
  go_enter Tryd.func16, Tryd.ntmps16
  go_wp2
  go_ret
  exact ⟨rfl, rfl⟩

theorem wrap_max : wrap32 4294967295 = -1 := by unfold wrap32; omega
theorem ret_two' {a b c d : Int} (h1 : a = b) (h2 : c = d) : Ending.returned (.tuple #[.int .i32 a, .int .i64 c]) = .returned (.tuple #[.int .i32 b, .int .i64 d]) := by rw [h1, h2]

/-- all that cScan's walk asks of the bytes from p on -/
structure From (s : ByteArray) (p st sg lq : Nat) (ng : Bool) (ds : List UInt8) (V : Int) (N : Nat) : Prop where
  blanks : ∀ j, j < st → ∃ h : p + j < s.size, blk s[p + j] = true
  stop : ∀ h : p + st < s.size, blk s[p + st] = false
  room : p + st ≤ s.size
  lq1 : lq ≤ s.size
  lq2 : lq = s.size ∧ s.size ≤ p + st + 30 ∨ lq = p + st + 30 ∧ p + st + 30 < s.size
  sign : (∃ h : p + st < s.size, s[p + st] = 43 ∧ sg = 1 ∧ ng = false) ∨ (∃ h : p + st < s.size, s[p + st] = 45 ∧ sg = 1 ∧ ng = true) ∨ (sg = 0 ∧ ng = false ∧ ∀ h : p + st < s.size, s[p + st] ≠ 43 ∧ s[p + st] ≠ 45)
  at_ : ∀ k (h : k < ds.length), ∃ h2 : p + st + sg + k < s.size, p + st + sg + k < lq ∧ s[p + st + sg + k] = ds[k] ∧ dig ds[k] = true
  end_ : p + st + sg + ds.length < lq → ∃ h2 : p + st + sg + ds.length < s.size, dig s[p + st + sg + ds.length] = false
  few : ds.length ≤ 30
  isV : V = if ds = [] then 0 else cut32 (clampI ng (val ds))
  isN : N = if ds = [] then 0 else st + sg + ds.length

theorem drop_some (s : ByteArray) (p j : Nat) (h : p + j < s.size) : (s.data.toList.drop p)[j]? = some s[p + j] := by
  rw [List.getElem?_drop, get_list s _ h]
theorem drop_lt {s : ByteArray} {p j : Nat} {c : UInt8} (h : (s.data.toList.drop p)[j]? = some c) : ∃ h2 : p + j < s.size, s[p + j] = c := by
  rcases Nat.lt_or_ge (p + j) s.size with h2 | h2
  · rw [drop_some s p j h2] at h
    exact ⟨h2, Option.some.inj h⟩
  · rw [List.getElem?_drop, get_list_none s _ (by omega)] at h
    cases h

theorem from_of (s : ByteArray) (p : Nat) (hp : p ≤ s.size) :
    From s p (skip (s.data.toList.drop p)) (sgn (win (s.data.toList.drop p))) (p + lim (s.data.toList.drop p)) (isNeg (win (s.data.toList.drop p))) (digs (s.data.toList.drop p)) (scanV (s.data.toList.drop p)) (scanN (s.data.toList.drop p)) := by
  have hsl : (s.data.toList.drop p).length = s.size - p := by rw [List.length_drop]; rfl
  have hskl := skip_le (s.data.toList.drop p)
  have hlim : lim (s.data.toList.drop p) = min (s.size - p) (skip (s.data.toList.drop p) + 30) := by unfold lim; rw [hsl]
  refine ⟨?_, ?_, by omega, by omega, by omega, ?_, ?_, ?_, digs_30 _, rfl, rfl⟩
  · intro j hj
    obtain ⟨c, h1, h2⟩ := skip_blank _ j hj
    obtain ⟨h3, h4⟩ := drop_lt h1
    exact ⟨h3, by rw [h4]; exact h2⟩
  · intro h
    have h1 := skip_stop (s.data.toList.drop p) (by omega)
    have h2 := drop_some s p _ h
    rw [List.getElem?_eq_getElem (by omega)] at h2
    rw [← Option.some.inj h2]; exact h1
  · by_cases h0 : (s.data.toList.drop p)[skip (s.data.toList.drop p)]? = some 43
    · obtain ⟨h3, h4⟩ := drop_lt h0
      have := sgn_plus _ h0
      exact .inl ⟨h3, h4, this.1, this.2⟩
    · by_cases h1 : (s.data.toList.drop p)[skip (s.data.toList.drop p)]? = some 45
      · obtain ⟨h3, h4⟩ := drop_lt h1
        have := sgn_minus _ h1
        exact .inr (.inl ⟨h3, h4, this.1, this.2⟩)
      · have := sgn_none _ h0 h1
        refine .inr (.inr ⟨this.1, this.2, fun h => ?_⟩)
        rw [drop_some s p _ h] at h0 h1
        exact ⟨fun e => h0 (by rw [e]), fun e => h1 (by rw [e])⟩
  · intro k hk
    obtain ⟨h1, h2, h3⟩ := digs_at (s.data.toList.drop p) k hk
    obtain ⟨h4, h5⟩ := drop_lt h2
    have e : p + (skip (s.data.toList.drop p) + sgn (win (s.data.toList.drop p)) + k) = p + skip (s.data.toList.drop p) + sgn (win (s.data.toList.drop p)) + k := by omega
    have h5' : ∀ x, x = p + (skip (s.data.toList.drop p) + sgn (win (s.data.toList.drop p)) + k) → ∀ hx : x < s.size, s[x] = (digs (s.data.toList.drop p))[k] := by
      intro x hx hlt
      subst hx
      exact h5
    exact ⟨by omega, by omega, h5' _ e.symm (by omega), h3⟩
  · intro h
    obtain ⟨c, h1, h2⟩ := digs_end (s.data.toList.drop p) (by omega)
    obtain ⟨h4, h5⟩ := drop_lt h1
    have h5' : ∀ x, x = p + (skip (s.data.toList.drop p) + sgn (win (s.data.toList.drop p)) + (digs (s.data.toList.drop p)).length) → ∀ hx : x < s.size, dig s[x] = false := by
      intro x hx hlt
      subst hx
      rw [h5]; exact h2
    exact ⟨by omega, h5' _ (by omega) (by omega)⟩

set_option maxRecDepth 100000 in
set_option maxHeartbeats 4000000 in
theorem cScan_from (s : ByteArray) (p st sg lq : Nat) (ng : Bool) (ds : List UInt8) (V : Int) (N : Nat) (w : World) (hs : s.size ≤ 2000000) (HF : Hid (From s p st sg lq ng ds V N)) :
    Calls Tryd.prog 11 #[.string s, .int .i64 p] w fun e w' => e = .returned (.tuple #[.int .i32 V, .int .i64 N]) ∧ w' = w := by
  have hroom := HF.out.room
  have hlq1 := HF.out.lq1
  have hfew := HF.out.few
  have hsg : sg ≤ 1 := by rcases HF.out.sign with ⟨_, _, h, _⟩ | ⟨_, _, h, _⟩ | ⟨h, _⟩ <;> omega
  go_enter Tryd.func11, Tryd.ntmps11
  go_upto_block 0 with fail
  go_cut [6] (fun v6 wx => wx = w ∧ v6 = .int .i64 ((p : Int) + (st : Int)))
  case first =>
    go_wp2_with fail
    go_loop [6] (fun vq => ∃ j : Nat, j ≤ st ∧ vq = .int .i64 ((p + j : Nat) : Int)) (fun q => p + st - (intOf q).toNat)
    case atStart => exact ⟨0, Nat.zero_le _, by go_num⟩
    case round =>
      obtain ⟨j, hj, rfl⟩ := hrel
      by_cases hjs : j < st
      · obtain ⟨g4, g2⟩ := HF.out.blanks j hjs
        go_wp2_with (go_at_call 16; refine (isBlank_yes _ _ g2).mono ?_; rintro e w' ⟨rfl, hw1⟩; replace hw1 := hw1.symm; subst hw1)
        go_round
        case rel => exact ⟨j + 1, by omega, by go_num⟩
        case measure => simp [intOf]; omega
      · obtain rfl : j = st := by omega
        by_cases hin : p + j < s.size
        · have g2 := HF.out.stop hin
          go_wp2_with (go_at_call 16; refine (isBlank_no _ _ g2).mono ?_; rintro e w' ⟨rfl, hw1⟩; replace hw1 := hw1.symm; subst hw1)
          go_meet
          case rel => exact ⟨rfl, by go_num⟩
        · go_wp2
          go_meet
          case rel => exact ⟨rfl, by go_num⟩
  case rest =>
    obtain ⟨rfl, rfl⟩ := hcut
    go_upto_if 33 with fail
    go_cut [7] (fun v7 wx => wx = wc ∧ v7 = .int .i64 (lq : Int))
    case first =>
      rcases HF.out.lq2 with ⟨rfl, hq⟩ | ⟨hq1, hq⟩
      · go_wp2
        go_meet
        case rel => exact ⟨rfl, rfl⟩
      · have HQ : Hid (lq = p + st + 30) := hq1
        clear hq1
        go_wp2
        go_meet
        case rel => exact ⟨rfl, by rw [HQ.out]; go_num⟩
    case rest =>
      obtain ⟨rfl, rfl⟩ := hcut
      have hin : (p : Int) + (st : Int) < (lq : Int) ↔ p + st < s.size := by
        rcases HF.out.lq2 with ⟨h1, h2⟩ | ⟨h1, h2⟩ <;> omega
      go_upto_region 9 with fail
      go_cut [51] (fun v51 wx => wx = wc ∧ v51 = .bool (decide (sg = 1)))
      case first =>
        rcases HF.out.sign with ⟨h1, h2, rfl, rfl⟩ | ⟨h1, h2, rfl, rfl⟩ | ⟨rfl, rfl, h2⟩
        · have b1 : ((s[p + st].toNat : Int) == 43) = true := by rw [h2]; rfl
          have b2 : (p : Int) + (st : Int) < (lq : Int) := hin.2 h1
          clear h2 hin
          go_wp2
          go_meet
          case rel => exact ⟨rfl, rfl⟩
        · have b1 : ((s[p + st].toNat : Int) == 43) = false := by rw [h2]; rfl
          have b3 : ((s[p + st].toNat : Int) == 45) = true := by rw [h2]; rfl
          have b2 : (p : Int) + (st : Int) < (lq : Int) := hin.2 h1
          clear h2 hin
          go_wp2
          go_meet
          case rel => exact ⟨rfl, rfl⟩
        · by_cases h1 : p + st < s.size
          · have b1 := byte_neI (c := 43) (n := 43) rfl (h2 h1).1
            have b3 := byte_neI (c := 45) (n := 45) rfl (h2 h1).2
            have b2 : (p : Int) + (st : Int) < (lq : Int) := hin.2 h1
            clear h2 hin
            go_wp2
            go_meet
            case rel => exact ⟨rfl, rfl⟩
          · have b2 : ¬ (p : Int) + (st : Int) < (lq : Int) := fun h => h1 (hin.1 h)
            clear h2 hin
            go_wp2
            go_meet
            case rel => exact ⟨rfl, rfl⟩
      case rest =>
        obtain ⟨rfl, rfl⟩ := hcut
        go_upto_if 51 with fail
        go_cut [8, 9] (fun v8 v9 wx => wx = wc ∧ v8 = .int .i64 ((p : Int) + (st : Int) + (sg : Int)) ∧ v9 = .bool ng)
        case first =>
          rcases HF.out.sign with ⟨h1, h2, rfl, rfl⟩ | ⟨h1, h2, rfl, rfl⟩ | ⟨rfl, rfl, h2⟩
          · have b3 : ((s[p + st].toNat : Int) == 45) = false := by rw [h2]; rfl
            have b2 : (p : Int) + (st : Int) < (lq : Int) := hin.2 h1
            clear h2 hin
            go_wp2
            go_meet
            case rel => exact ⟨rfl, by go_num, rfl⟩
          · have b3 : ((s[p + st].toNat : Int) == 45) = true := by rw [h2]; rfl
            have b2 : (p : Int) + (st : Int) < (lq : Int) := hin.2 h1
            clear h2 hin
            go_wp2
            go_meet
            case rel => exact ⟨rfl, by go_num, rfl⟩
          · clear h2 hin
            go_wp2
            go_meet
            case rel => exact ⟨rfl, by go_num, rfl⟩
        case rest =>
          obtain ⟨rfl, rfl, rfl⟩ := hcut
          clear hin
          go_upto_block 2 with fail
          go_cut [8, 11, 12, 13] (fun v8 v11 v12 _ wx => wx = wc ∧ v8 = .int .i64 ((p + st + sg + ds.length : Nat) : Int) ∧ ∃ (mag : Int) (over : Bool), v11 = .int .u64 mag ∧ v12 = .bool over ∧ 0 ≤ mag ∧ mag ≤ 18446744073709551615 ∧ Hid (MagIs (val ds) over mag))
          case first =>
            go_wp2_with fail
            go_loop [8, 11, 12] (fun vd vm vo => ∃ (k : Nat) (mag : Int) (over : Bool), k ≤ ds.length ∧ vd = .int .i64 ((p + st + sg + k : Nat) : Int) ∧ vm = .int .u64 mag ∧ vo = .bool over ∧ 0 ≤ mag ∧ mag ≤ 18446744073709551615 ∧ Hid (MagIs (val (ds.take k)) over mag)) (fun d _ _ => p + st + sg + ds.length - (intOf d).toNat)
            case atStart => exact ⟨0, 0, false, Nat.zero_le _, by go_num, rfl, rfl, by omega, by omega, mag_zero⟩
            case round =>
              obtain ⟨k, mag, over, hk, rfl, rfl, rfl, hmag0, hmag1, HM⟩ := hrel
              by_cases hlt : k < ds.length
              · obtain ⟨g4, g6, g5, g3⟩ := HF.out.at_ k hlt
                obtain ⟨b1, b2, b3, b4⟩ := dv_int g3
                rw [← g5] at b1 b2
                have hvn := val_next ds k hlt
                cases over with
                | true =>
                  have HM2 : Hid (MagIs (val (ds.take (k + 1))) true mag) := by rw [hvn]; exact mag_over _ HM.out
                  clear HM hvn g3 g5 b3 b4
                  go_wp2
                  go_round
                  case rel => exact ⟨k + 1, mag, true, by omega, by go_num, rfl, rfl, hmag0, hmag1, HM2⟩
                  case measure => simp [intOf]; omega
                | false =>
                  by_cases hc : (18446744073709551615 - ((s[p + st + sg + k].toNat : Int) - 48)) / 10 < mag
                  · have HM2 : Hid (MagIs (val (ds.take (k + 1))) true mag) := by rw [hvn]; exact mag_jump HM.out (by rw [b3, ← g5]; exact hc)
                    clear HM hvn g3 g5 b3 b4
                    go_wp2
                    go_round
                    case rel => exact ⟨k + 1, mag, true, by omega, by go_num, rfl, rfl, hmag0, hmag1, HM2⟩
                    case measure => simp [intOf]; omega
                  · have HS2 := mag_step HM.out b4 (by rw [b3, ← g5]; exact hc)
                    rw [← hvn, b3, ← g5] at HS2
                    have HM2 : Hid (MagIs (val (ds.take (k + 1))) false (mag * 10 + ((s[p + st + sg + k].toNat : Int) - 48))) := HS2.1
                    have hub := HS2.2
                    clear HM hvn g3 g5 b3 b4 HS2
                    go_wp2
                    go_round
                    case rel => exact ⟨k + 1, mag * 10 + ((s[p + st + sg + k].toNat : Int) - 48), false, by omega, by go_num, rfl, rfl, by omega, by omega, HM2⟩
                    case measure => simp [intOf]; omega
              · obtain rfl : k = ds.length := by omega
                rw [List.take_length] at HM
                by_cases hend : p + st + sg + ds.length < lq
                · obtain ⟨g4, g2⟩ := HF.out.end_ hend
                  rcases dig_no g2 with g6 | g6
                  · clear g2
                    go_wp2
                    go_meet
                    case rel => exact ⟨rfl, rfl, mag, over, rfl, rfl, hmag0, hmag1, HM⟩
                  · clear g2
                    go_wp2
                    go_meet
                    case rel => exact ⟨rfl, rfl, mag, over, rfl, rfl, hmag0, hmag1, HM⟩
                · go_wp2
                  go_meet
                  case rel => exact ⟨rfl, rfl, mag, over, rfl, rfl, hmag0, hmag1, HM⟩
          case rest =>
            obtain ⟨rfl, rfl, mag, over, rfl, rfl, hmag0, hmag1, HM⟩ := hcut
            have DV : Hid (V = if ds = [] then 0 else cut32 (clampI ng (val ds))) := HF.out.isV
            have DN : Hid (N = if ds = [] then 0 else st + sg + ds.length) := HF.out.isN
            clear HF
            by_cases hnd : ds = []
            · have HV : Hid (V = 0) := by rw [DV.out, if_pos hnd]; trivial
              have HN : Hid (N = 0) := by rw [DN.out, if_pos hnd]; trivial
              subst hnd
              clear HM DV DN
              go_wp2
              go_ret2
              exact ⟨by rw [HV.out, HN.out]; rfl, rfl⟩
            · have hpos : 0 < ds.length := List.length_pos_iff.2 hnd
              have HV : Hid (V = cut32 (clampI ng (val ds))) := by rw [DV.out, if_neg hnd]; trivial
              have HN : Hid (N = st + sg + ds.length) := by rw [DN.out, if_neg hnd]; trivial
              clear DV DN
              cases ng with
              | false =>
                by_cases hbig : over = true ∨ 9223372036854775807 < mag
                · have HV2 : Hid (V = -1) := by rw [HV.out]; exact mag_pos_big HM.out hbig
                  clear HM HV
                  cases over
                  · have hbig2 : 9223372036854775807 < mag := by simpa using hbig
                    go_wp2
                    go_ret2
                    exact ⟨ret_two' (Eq.trans wrap_max HV2.out.symm) (by rw [HN.out]; omega), rfl⟩
                  · go_wp2
                    go_ret2
                    exact ⟨ret_two' (Eq.trans wrap_max HV2.out.symm) (by rw [HN.out]; omega), rfl⟩
                · obtain ⟨rfl, hm2⟩ : over = false ∧ ¬ 9223372036854775807 < mag := by
                    refine ⟨?_, fun h => hbig (.inr h)⟩
                    cases over
                    · rfl
                    · exact absurd (.inl rfl) hbig
                  have HV2 : Hid (V = cut32 (mag % 4294967296)) := by rw [HV.out]; exact mag_pos_small HM.out hm2
                  clear HM HV hbig
                  go_wp2
                  go_ret2
                  exact ⟨ret_two' (by rw [HV2.out]; exact wrap32_cut _) (by rw [HN.out]; omega), rfl⟩
              | true =>
                by_cases hbig : over = true ∨ 9223372036854775808 < mag
                · have HV2 : Hid (V = 0) := by rw [HV.out]; exact mag_neg_big HM.out hbig
                  clear HM HV
                  cases over
                  · have hbig2 : 9223372036854775808 < mag := by simpa using hbig
                    go_wp2
                    go_ret2
                    exact ⟨ret_two' (by rw [HV2.out] <;> rfl) (by rw [HN.out]; omega), rfl⟩
                  · go_wp2
                    go_ret2
                    exact ⟨ret_two' (by rw [HV2.out] <;> rfl) (by rw [HN.out]; omega), rfl⟩
                · obtain ⟨rfl, hm2⟩ : over = false ∧ ¬ 9223372036854775808 < mag := by
                    refine ⟨?_, fun h => hbig (.inr h)⟩
                    cases over
                    · rfl
                    · exact absurd (.inl rfl) hbig
                  have HV2 : Hid (V = cut32 ((-mag) % 18446744073709551616 % 4294967296)) := by rw [HV.out]; exact mag_neg_small HM.out hm2
                  clear HM HV hbig
                  go_wp2
                  go_ret2
                  exact ⟨ret_two' (by rw [HV2.out]; exact wrap32_cut _) (by rw [HN.out]; omega), rfl⟩

theorem cScan_any (s : ByteArray) (p : Nat) (w : World) (hs : s.size ≤ 2000000) (hp : p ≤ s.size) :
    Calls Tryd.prog 11 #[.string s, .int .i64 p] w fun e w' => e = .returned (.tuple #[.int .i32 (scanV (s.data.toList.drop p)), .int .i64 (scanN (s.data.toList.drop p))]) ∧ w' = w :=
  cScan_from s p _ _ _ _ _ _ _ w hs (from_of s p hp)
end Go.Proofs.Qxb6606024aDoor
