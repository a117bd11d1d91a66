/-
  THE WALKS of zzSchemeEnd, userPart, hostAndPath, ZZhostAndPath.
-/
import Derived.Test.Qxb6605388aDoorWalkB
import Derived.Test.Qxb6605388aDoorPlainF
namespace Go.Proofs.Qxb6605388aDoor
open Go.RowKit

theorem byte_eqI {b c : UInt8} {n : Int} (hc : (c.toNat : Int) = n) (h : b = c) : (b.toNat : Int) = n := by rw [h]; exact hc
theorem byte_neI {b c : UInt8} {n : Int} (hc : (c.toNat : Int) = n) (h : b ≠ c) : ((b.toNat : Int) == n) = false := by
  have : b.toNat ≠ c.toNat := fun e => h (UInt8.toNat_inj.1 e)
  simp; omega

set_option maxHeartbeats 1000000 in
theorem scheme_any (s : ByteArray) (w : World) (hs : s.size ≤ 100000) :
    Calls Tryd.prog 12 #[.string s] w fun e w' => e = .returned (.int .i64 (schemeN s.data.toList)) ∧ w' = w := by
  have hlen : s.data.toList.length = s.size := rfl
  go_enter Tryd.func12, Tryd.ntmps12
  go_wp2
  go_loop [3] (fun i => ∃ k : Nat, k ≤ s.size ∧ i = .int .i64 k ∧ Hid (Lib.NoOcc s.data.toList [58, 47, 47] k)) (fun i => s.size + 1 - (intOf i).toNat)
  case atStart => exact ⟨0, Nat.zero_le _, rfl, Lib.NoOcc.zero _ _⟩
  case round =>
    obtain ⟨k, hk, rfl, HN⟩ := hrel
    by_cases hlt : k + 3 ≤ s.size
    · have g0 := get_list s k (by omega)
      have g1 := get_list s (k + 1) (by omega)
      have g2 := get_list s (k + 2) (by omega)
      have G0 : Hid (s.data.toList[k]? = some s[k]) := g0
      have G1 : Hid (s.data.toList[k + 1]? = some s[k + 1]) := g1
      have G2 : Hid (s.data.toList[k + 2]? = some s[k + 2]) := g2
      clear g0 g1 g2
      by_cases c0 : s[k] = 58
      · have e0 : ((s[k].toNat : Int) == 58) = true := by rw [c0]; rfl
        by_cases c1 : s[k + 1] = 47
        · have e1 : ((s[k + 1].toNat : Int) == 47) = true := by rw [c1]; rfl
          by_cases c2 : s[k + 2] = 47
          · have e2 : ((s[k + 2].toNat : Int) == 47) = true := by rw [c2]; rfl
            have HS : Hid (schemeN s.data.toList = k + 3) := (scheme_hit _ k HN.out (by rw [G0.out, c0]) (by rw [G1.out, c1]) (by rw [G2.out, c2])).1
            clear c0 c1 c2
            go_wp2
            go_ret
            exact ⟨ret_int (by rw [HS.out]; omega), rfl⟩
          · have e2 := byte_neI (c := 47) (n := 47) rfl c2
            have HS : Hid (Lib.NoOcc s.data.toList [58, 47, 47] (k + 1)) := scheme_step _ k HN.out (fun h => c2 (by have := G2.out.symm.trans h.2.2; exact Option.some.inj this))
            clear c0 c1 c2
            go_wp2
            go_round
            case rel => exact ⟨k + 1, by omega, by go_num, HS⟩
            case measure => simp [intOf]; omega
        · have e1 := byte_neI (c := 47) (n := 47) rfl c1
          have HS : Hid (Lib.NoOcc s.data.toList [58, 47, 47] (k + 1)) := scheme_step _ k HN.out (fun h => c1 (by have := G1.out.symm.trans h.2.1; exact Option.some.inj this))
          clear c0 c1
          go_wp2
          go_round
          case rel => exact ⟨k + 1, by omega, by go_num, HS⟩
          case measure => simp [intOf]; omega
      · have e0 := byte_neI (c := 58) (n := 58) rfl c0
        have HS : Hid (Lib.NoOcc s.data.toList [58, 47, 47] (k + 1)) := scheme_step _ k HN.out (fun h => c0 (by have := G0.out.symm.trans h.1; exact Option.some.inj this))
        clear c0
        go_wp2
        go_round
        case rel => exact ⟨k + 1, by omega, by go_num, HS⟩
        case measure => simp [intOf]; omega
    · have HS : Hid (schemeN s.data.toList = 0) := scheme_miss _ k HN.out (by omega)
      go_wp2
      go_ret
      exact ⟨ret_int (by rw [HS.out]; rfl), rfl⟩

/-- the last '@' of what is behind p -/
theorem last_at (s : ByteArray) (p : Nat) :
    Lib.lastIndexByte (s.extract p s.size) 64 = -1 ∨ ∃ a : Nat, Lib.lastIndexByte (s.extract p s.size) 64 = a ∧ p + a < s.size ∧ s.data.toList[p + a]? = some 64 := by
  rcases Lib.lastIndexByte_spec (s.extract p s.size) 64 with ⟨h, _⟩ | ⟨a, ha, h, hc, _⟩
  · exact .inl h
  · rw [ByteArray.size_extract] at ha
    refine .inr ⟨a, h, by omega, ?_⟩
    have e : (s.extract p s.size).data.toList = s.data.toList.drop p := Lib.extract_to_end s p
    have e2 : (s.extract p s.size).data.toList[a]? = some ((s.extract p s.size).data[a]!) := by
      have hsz : a < (s.extract p s.size).size := by rw [ByteArray.size_extract]; omega
      have h3 := get_list (s.extract p s.size) a hsz
      rw [h3]
      congr 1
      have : a < (s.extract p s.size).data.size := hsz
      rw [getElem!_pos _ a this]; rfl
    rw [e, List.getElem?_drop] at e2
    rw [e2]
    congr 1
    apply UInt8.toNat_inj.1
    have : ((64 : UInt8).toNat : Int) = 64 := rfl
    omega

theorem schemeN_le (s : ByteArray) : schemeN s.data.toList ≤ s.size := by
  have hlen : s.data.toList.length = s.size := rfl
  rcases scheme_cases s.data.toList with ⟨_, e⟩ | ⟨k, _, e, h, _⟩ <;> omega

/-- userPart: from schemeN on; the last '@' behind it, if there is one -/
def UP (s : ByteArray) (v : Value) : Prop :=
  v = .tuple #[.int .i64 (schemeN s.data.toList), .int .i64 (schemeN s.data.toList), .bool false] ∨
  ∃ a : Nat, v = .tuple #[.int .i64 (schemeN s.data.toList), .int .i64 ((schemeN s.data.toList + a : Nat) : Int), .bool true] ∧ schemeN s.data.toList + a < s.size ∧ s.data.toList[schemeN s.data.toList + a]? = some 64

set_option maxHeartbeats 1000000 in
theorem userPart_any (s : ByteArray) (w : World) (m : Int) (hm : w.cell? ⟨0, 0, none⟩ = some (.int .i64 m)) (hs : s.size ≤ 100000) :
    Calls Tryd.prog 19 #[.string s] w fun e w' => (∃ v, e = .returned v ∧ UP s v) ∧ w' = w := by
  have hle := schemeN_le s
  have hlast := last_at s (schemeN s.data.toList)
  unfold UP
  have CL : ∀ x : ByteArray, x.size ≤ 100000 → Calls Tryd.prog 23 #[.string x, .string ⟨#[64]⟩] w fun e w' => e = .returned (.int .i64 (Lib.lastIndexByte x 64)) ∧ w' = w := fun x hx =>
    Tryd.strings_LastIndex_one x ⟨#[64]⟩ rfl (by omega) w
  have CI := Tryd.strings_Index s ⟨#[58, 47, 47]⟩ m w (by omega) hm
  rcases scheme_cases s.data.toList with ⟨e1, e⟩ | ⟨k, e1, e, hk, _⟩
  · have CI2 : Calls Tryd.prog 22 #[.string s, .string ⟨#[58, 47, 47]⟩] w fun e w' => e = .returned (.int .i64 (-1)) ∧ w' = w := by rw [← e1]; exact CI
    clear CI e1
    rw [e] at hlast ⊢
    generalize hx : s.extract 0 s.size = x at hlast
    have hxs : x.size ≤ 100000 := by rw [← hx, ByteArray.size_extract]; omega
    have CL2 := CL x hxs
    clear CL
    rcases hlast with h | ⟨a, h, ha, hc⟩
    · rw [h] at CL2
      go_enter Tryd.func19, Tryd.ntmps19
      go_wp2_with (first
        | (go_at_call 22; refine CI2.mono ?_; rintro e w' ⟨rfl, hw1⟩; replace hw1 := hw1.symm; subst hw1)
        | (go_at_call 23; refine CL2.mono ?_; rintro e w' ⟨rfl, hw1⟩; replace hw1 := hw1.symm; subst hw1))
      go_ret3
      exact ⟨⟨_, rfl, .inl rfl⟩, rfl⟩
    · rw [h] at CL2
      have HC : Hid (s.data.toList[0 + a]? = some 64) := hc
      clear hc h
      go_enter Tryd.func19, Tryd.ntmps19
      go_wp2_with (first
        | (go_at_call 22; refine CI2.mono ?_; rintro e w' ⟨rfl, hw1⟩; replace hw1 := hw1.symm; subst hw1)
        | (go_at_call 23; refine CL2.mono ?_; rintro e w' ⟨rfl, hw1⟩; replace hw1 := hw1.symm; subst hw1))
      go_ret3
      exact ⟨⟨_, rfl, .inr ⟨a, by simp, ha, HC.out⟩⟩, rfl⟩
  · have CI2 : Calls Tryd.prog 22 #[.string s, .string ⟨#[58, 47, 47]⟩] w fun e w' => e = .returned (.int .i64 k) ∧ w' = w := by rw [← e1]; exact CI
    clear CI e1
    rw [e] at hlast hle ⊢
    generalize hx : s.extract (k + 3) s.size = x at hlast
    have hxs : x.size ≤ 100000 := by rw [← hx, ByteArray.size_extract]; omega
    have CL2 := CL x hxs
    clear CL
    clear hk
    rcases hlast with h | ⟨a, h, ha, hc⟩
    · rw [h] at CL2
      go_enter Tryd.func19, Tryd.ntmps19
      go_wp2_with (first
        | (go_at_call 22; refine CI2.mono ?_; rintro e w' ⟨rfl, hw1⟩; replace hw1 := hw1.symm; subst hw1)
        | (go_at_call 23; refine CL2.mono ?_; rintro e w' ⟨rfl, hw1⟩; replace hw1 := hw1.symm; subst hw1))
      go_ret3
      exact ⟨⟨_, rfl, .inl (by simp)⟩, rfl⟩
    · rw [h] at CL2
      have HC : Hid (s.data.toList[k + 3 + a]? = some 64) := hc
      clear hc h
      go_enter Tryd.func19, Tryd.ntmps19
      go_wp2_with (first
        | (go_at_call 22; refine CI2.mono ?_; rintro e w' ⟨rfl, hw1⟩; replace hw1 := hw1.symm; subst hw1)
        | (go_at_call 23; refine CL2.mono ?_; rintro e w' ⟨rfl, hw1⟩; replace hw1 := hw1.symm; subst hw1))
      go_ret3
      exact ⟨⟨_, rfl, .inr ⟨a, by simp, ha, HC.out⟩⟩, rfl⟩

theorem ib_drop_cases (s : ByteArray) (st : Nat) :
    Lib.indexByte (s.extract st s.size).data.toList 63 = -1 ∨ ∃ i : Nat, Lib.indexByte (s.extract st s.size).data.toList 63 = i ∧ st + i < s.size := by
  rcases ib_cases (s.extract st s.size).data.toList 63 with ⟨h, _⟩ | ⟨i, h, hi, _⟩
  · exact .inl h
  · have hlen : (s.extract st s.size).data.toList.length = (s.extract st s.size).size := rfl
    rw [ByteArray.size_extract] at hlen
    exact .inr ⟨i, h, by omega⟩

/-- hostAndPath behind the place at which it starts -/
theorem hp_make (s : ByteArray) (st : Nat) (h1 : schemeN s.data.toList ≤ st) (h2 : st ≤ s.size) (h3 : st = schemeN s.data.toList ∨ (0 < st ∧ s.data.toList[st - 1]? = some 64)) :
    (Lib.indexByte (s.extract st s.size).data.toList 63 = -1 → HP s.data.toList st s.size) ∧ (∀ i : Nat, Lib.indexByte (s.extract st s.size).data.toList 63 = i → HP s.data.toList st (st + i)) := by
  rw [Lib.extract_to_end s st]
  exact ⟨fun h => ⟨h1, h2, h3, .inl ⟨h, rfl⟩⟩, fun i h => ⟨h1, h2, h3, .inr ⟨i, h, rfl⟩⟩⟩

set_option maxHeartbeats 1000000 in
theorem hostAndPath_any (s : ByteArray) (w : World) (m : Int) (hm : w.cell? ⟨0, 0, none⟩ = some (.int .i64 m)) (hs : s.size ≤ 100000) :
    Calls Tryd.prog 15 #[.string s] w fun e w' => (∃ st en : Nat, e = .returned (.tuple #[.int .i64 st, .int .i64 en]) ∧ HP s.data.toList st en ∧ st ≤ 100000 ∧ en ≤ 100000) ∧ w' = w := by
  have hle := schemeN_le s
  have CU := userPart_any s w m hm hs
  go_enter Tryd.func15, Tryd.ntmps15
  go_wp2_with fail
  refine CU.mono ?_
  rintro e w' ⟨⟨v, rfl, hv⟩, hw1⟩
  replace hw1 := hw1.symm
  subst hw1
  rcases hv with rfl | ⟨a, rfl, ha, hc⟩
  · obtain ⟨HM1, HM2⟩ := hp_make s (schemeN s.data.toList) (Nat.le_refl _) hle (.inl rfl)
    have hcs := ib_drop_cases s (schemeN s.data.toList)
    generalize schemeN s.data.toList = p at *
    rcases hcs with h | ⟨i, h, hi⟩
    · have HH : Hid (HP s.data.toList p s.size) := HM1 h
      have CB : Calls Tryd.prog 16 #[.string (s.extract p s.size), .int .u8 63] w fun e w' => e = .returned (.int .i64 (-1)) ∧ w' = w := by rw [← h]; exact Tryd.strings_IndexByte _ _ _
      clear HM1 HM2 h CU
      go_wp2_with (go_at_call 16; refine CB.mono ?_; rintro e w' ⟨rfl, hw1⟩; replace hw1 := hw1.symm; subst hw1)
      go_ret2
      exact ⟨⟨p, s.size, rfl, HH.out, by omega, by omega⟩, rfl⟩
    · have HH : Hid (HP s.data.toList p (p + i)) := HM2 i h
      have CB : Calls Tryd.prog 16 #[.string (s.extract p s.size), .int .u8 63] w fun e w' => e = .returned (.int .i64 i) ∧ w' = w := by rw [← h]; exact Tryd.strings_IndexByte _ _ _
      clear HM1 HM2 h CU
      go_wp2_with (go_at_call 16; refine CB.mono ?_; rintro e w' ⟨rfl, hw1⟩; replace hw1 := hw1.symm; subst hw1)
      go_ret2
      exact ⟨⟨p, p + i, by simp, HH.out, by omega, by omega⟩, rfl⟩
  · obtain ⟨HM1, HM2⟩ := hp_make s (schemeN s.data.toList + a + 1) (by omega) (by omega) (.inr ⟨by omega, hc⟩)
    have hcs := ib_drop_cases s (schemeN s.data.toList + a + 1)
    clear hc
    generalize schemeN s.data.toList = p at *
    rcases hcs with h | ⟨i, h, hi⟩
    · have HH : Hid (HP s.data.toList (p + a + 1) s.size) := HM1 h
      have CB : Calls Tryd.prog 16 #[.string (s.extract (p + a + 1) s.size), .int .u8 63] w fun e w' => e = .returned (.int .i64 (-1)) ∧ w' = w := by rw [← h]; exact Tryd.strings_IndexByte _ _ _
      clear HM1 HM2 h CU
      go_wp2_with (go_at_call 16; refine CB.mono ?_; rintro e w' ⟨rfl, hw1⟩; replace hw1 := hw1.symm; subst hw1)
      go_ret2
      exact ⟨⟨p + a + 1, s.size, by simp, HH.out, by omega, by omega⟩, rfl⟩
    · have HH : Hid (HP s.data.toList (p + a + 1) (p + a + 1 + i)) := HM2 i h
      have CB : Calls Tryd.prog 16 #[.string (s.extract (p + a + 1) s.size), .int .u8 63] w fun e w' => e = .returned (.int .i64 i) ∧ w' = w := by rw [← h]; exact Tryd.strings_IndexByte _ _ _
      clear HM1 HM2 h CU
      go_wp2_with (go_at_call 16; refine CB.mono ?_; rintro e w' ⟨rfl, hw1⟩; replace hw1 := hw1.symm; subst hw1)
      go_ret2
      exact ⟨⟨p + a + 1, p + a + 1 + i, by simp, HH.out, by omega, by omega⟩, rfl⟩

set_option maxHeartbeats 400000 in
theorem zzhp_any (s : ByteArray) (w : World) (m : Int) (hm : w.cell? ⟨0, 0, none⟩ = some (.int .i64 m)) (hs : s.size ≤ 100000) :
    Calls Tryd.prog 13 #[.string s] w fun e w' => (∃ st en : Nat, e = .returned (.tuple #[.int .i64 st, .int .i64 en]) ∧ HP s.data.toList st en ∧ st ≤ 100000 ∧ en ≤ 100000) ∧ w' = w := by
  go_enter Tryd.func13, Tryd.ntmps13
  go_wp2_with (go_at_call 15; refine (hostAndPath_any _ _ m hm hs).mono ?_; rintro e w' ⟨⟨st, en, rfl, hh⟩, rfl⟩)
  go_ret2
  exact ⟨⟨st, en, rfl, hh⟩, rfl⟩
end Go.Proofs.Qxb6605388aDoor
