/-
  THE WALK of zzSplitModel.
-/
import Derived.Test.Qxb6605388aDoorWalkB
import Derived.Test.Qxb6605388aDoorPlainD
namespace Go.Proofs.Qxb6605388aDoor
open Go.RowKit

set_option maxHeartbeats 400000 in
theorem model_none (s : ByteArray) (w : World) (hs : s.size ≤ maxLen) (hq : Lib.indexByte s.data.toList 63 = -1) :
    Calls Tryd.prog 8 #[.string s] w fun e w' => e = .returned (.tuple #[.string s, .slice none 0 0]) ∧ w' = w := by
  go_enter Tryd.func8, Tryd.ntmps8
  go_wp2_with (go_at_call 10; refine (firstQ_any _ _ hs).mono ?_; rintro e w' ⟨rfl, rfl⟩)
  go_ret2
  exact ⟨rfl, rfl⟩

theorem next_no {r : ByteArray} {j k : Nat} (hn : ∀ i, i < k - (j + 1) → (r.data.toList.drop (j + 1))[i]? ≠ some 38) (hjk : j + 1 ≤ k) (hk : k < r.size) (h : r[k] ≠ 38) :
    ∀ i, i < (k + 1) - (j + 1) → (r.data.toList.drop (j + 1))[i]? ≠ some 38 := by
  intro i hi
  by_cases e : i = k - (j + 1)
  · subst e
    rw [List.getElem?_drop, show j + 1 + (k - (j + 1)) = k by omega, get_list r k hk]
    simpa using h
  · exact hn i (by omega)
theorem own_out2 {w wr : World} {v : Value} {L : List ByteArray} (hown : wr.ownsRow w.heap.size 9 1 v L.length (L.map Value.string)) (hne : L ≠ []) (hbel : Below w.heap.size w wr) :
    ∃ g cap, v = .slice (some ⟨g, 0, none⟩) L.length cap ∧ (∀ k, k < L.length → wr.cell? ⟨g, k, none⟩ = some (.string (L.getD k ByteArray.empty))) ∧ w.heap.size ≤ g ∧ g < wr.heap.size ∧ Below w.heap.size w wr := by
  have hlt := hown.lt
  obtain ⟨g, cap, rfl⟩ : ∃ g cap, v = .slice (some ⟨g, 0, none⟩) L.length cap := by
    rcases hown.2 with ⟨_, h⟩ | ⟨g, cap, _, h, _⟩
    · simp at h; exact absurd h hne
    · exact ⟨g, cap, h⟩
  have h2 := hlt g rfl
  refine ⟨g, cap, rfl, fun k hk => ?_, by omega, h2.2, hbel⟩
  rw [hown.cellAt k (by omega)]
  simp [hk]

set_option maxHeartbeats 1000000 in
theorem model_some (s : ByteArray) (w : World) (hs : s.size ≤ 100000) (q : Nat) (hq : Lib.indexByte s.data.toList 63 = q) :
    Calls Tryd.prog 8 #[.string s] w (SQ s q w) := by
  have hs' : s.size ≤ maxLen := by unfold maxLen; omega
  have hqs : q < s.size := by
    rcases ib_cases s.data.toList 63 with ⟨h, _⟩ | ⟨k, h, hlt, _⟩
    · omega
    · have : s.data.toList.length = s.size := rfl
      omega
  obtain ⟨i0, hi, hz0, hz1, hz2⟩ := info_parts Tryd.info9
  unfold SQ
  obtain ⟨r, hr⟩ : ∃ r, s.extract (q + 1) s.size = r := ⟨_, rfl⟩
  have hrs : r.size ≤ 100000 := by rw [← hr, ByteArray.size_extract]; omega
  rw [hr]
  have hF := firstQ_any s w hs'
  rw [hq] at hF
  go_enter Tryd.func8, Tryd.ntmps8
  go_wp2_with (first
    | (go_at_call 10; refine hF.mono ?_; rintro e w' ⟨rfl, hw1⟩; replace hw1 := hw1.symm; subst hw1)
    | (at_make; refine wpList_make_own _ rfl _ _ 23 rfl w.heap.size 9 i0 (.string ByteArray.empty) 1 Tryd.underlying23 hi hz0 hz1 _ _ _ 1 rfl rfl (by omega) (by rw [hz2]; omega) (by unfold maxLen; omega) (Nat.le_refl _) ?_; intro w0 hown0 hgrow0))
  have hb0 : Below w.heap.size w w0 := (Below.refl _ _).grown hgrow0 (Nat.le_refl _) (fun k h => by cases h)
  have HO0 : Hid (w0.ownsRow w.heap.size 9 1 (.slice (some ⟨w.heap.size, 0, none⟩) 0 1) ([] : List ByteArray).length (([] : List ByteArray).map Value.string)) := hown0
  clear hown0 hgrow0 hF
  go_loopw [6, 7, 8] (fun v vf vj wr => ∃ (f j : Nat) (L : List ByteArray), j ≤ r.size ∧ f ≤ j ∧ L.length ≤ j ∧ vf = .int .i64 f ∧ vj = .int .i64 j ∧ Hid (wr.ownsRow w.heap.size 9 1 v L.length (L.map Value.string)) ∧ Hid (Mid r.data.toList L f j) ∧
      Below w.heap.size w wr) (fun _ _ j _ => r.size - (intOf j).toNat)
  case atStart => exact ⟨0, 0, [], Nat.zero_le _, Nat.zero_le _, Nat.zero_le _, rfl, rfl, HO0, mid_zero _, hb0⟩
  case round =>
    obtain ⟨f, j, L, hj, hf, hL, rfl, rfl, hown, hmid, hbel⟩ := hrel
    clear HO0 hb0
    have hsz := hbel.size
    have hlen : r.data.toList.length = r.size := rfl
    by_cases hlt : j < r.size
    · by_cases hc : r[j] = 38
      · have hcn : (r[j].toNat : Int) = 38 := by rw [hc]; rfl
        have hcl : r.data.toList[j]'(by omega) = 38 := hc
        go_wp2
        go_loop [9, 10] (fun ve vk => ∃ k : Nat, j + 1 ≤ k ∧ k ≤ r.size ∧ vk = .int .i64 k ∧ ve = .bool (eqB r.data.toList (j + 1) k) ∧ Hid (∀ i, i < k - (j + 1) → (r.data.toList.drop (j + 1))[i]? ≠ some 38))
          (fun _ k => r.size - (intOf k).toNat)
        case atStart => exact ⟨j + 1, Nat.le_refl _, hlt, by go_num, by rw [eqB_start], fun i hi => absurd hi (by omega)⟩
        case round =>
          obtain ⟨k, hjk, hk, rfl, rfl, HN⟩ := hrel
          by_cases hk2 : k < r.size
          · by_cases hk3 : r[k] = 38
            · have hkn : (r[k].toNat : Int) = 38 := by rw [hk3]; rfl
              have HE : Hid (eqB r.data.toList (j + 1) k = decide (0 ≤ Lib.indexByte ((r.data.toList.drop (j + 1)).takeWhile (· ≠ 38)) 61)) :=
                eqB_end _ _ _ HN.out (.inr ⟨hjk, by rw [get_list r k hk2, hk3]⟩)
              generalize eqB r.data.toList (j + 1) k = b at HE
              cases b
              · have hn : ¬ 0 ≤ Lib.indexByte ((r.data.toList.drop (j + 1)).takeWhile (· ≠ 38)) 61 := of_decide_eq_false HE.out.symm
                have HM : Hid (Mid r.data.toList L f (j + 1)) := mid_no hmid.out hf (by omega) hcl hn
                clear hn hmid HE HN
                go_wp2
                go_roundw
                case rel => exact ⟨f, j + 1, L, by omega, by omega, by omega, rfl, by go_num, hown, HM, hbel⟩
                case measure => simp [intOf]; omega
              · have hn : 0 ≤ Lib.indexByte ((r.data.toList.drop (j + 1)).takeWhile (· ≠ 38)) 61 := of_decide_eq_true HE.out.symm
                have HM : Hid (Mid r.data.toList (L ++ [r.extract f j]) (j + 1) (j + 1)) := mid_yes hmid.out (by omega) hcl hn (extract_part r f j)
                clear hn hmid HE HN
                go_wp2_with (at_builtin; refine wpList_append_own _ rfl _ _ 23 rfl w.heap.size 9 i0 (.string ByteArray.empty) 1 16 Tryd.underlying23 hi hz0 hz1 hz2 rfl (by decide) _ _ _ rfl (hown.out.alloc _) ⟨wr.heap.size, 0, none⟩ 1 1 [.string (r.extract f j)] rfl rfl (one_cell _ _) (one_one _) (by unfold maxLen; omega) (by omega) (by simp; omega) ?_)
                intro v' w1 hown' hgrow _
                have R := rel_push (Nat.le_refl _) hown.out hbel hown' hgrow
                clear hown' hgrow hown hbel
                go_wp2
                go_roundw
                case rel =>
                  refine ⟨j + 1, j + 1, L ++ [r.extract f j], by omega, by omega, by simp; omega, by go_num, by go_num, ?_, HM, R.2⟩
                  show World.ownsRow _ _ _ _ _ _ _
                  have := R.1
                  simpa using this
                case measure => simp [intOf]; omega
            · have hkn : ((r[k].toNat : Int) == 38) = false := by
                have : r[k].toNat ≠ 38 := fun e => hk3 (UInt8.toNat_inj.1 e)
                simp; omega
              by_cases hk4 : r[k] = 61
              · have hkm : (r[k].toNat : Int) = 61 := by rw [hk4]; rfl
                have HE : Hid (eqB r.data.toList (j + 1) (k + 1) = true) := eqB_hit _ _ _ hjk (by omega) hk4
                go_wp2
                go_round
                case rel => exact ⟨k + 1, by omega, by omega, by go_num, by rw [HE.out], next_no HN.out hjk hk2 hk3⟩
                case measure => simp [intOf]; omega
              · have hkm : ((r[k].toNat : Int) == 61) = false := by
                  have : r[k].toNat ≠ 61 := fun e => hk4 (UInt8.toNat_inj.1 e)
                  simp; omega
                have HE : Hid (eqB r.data.toList (j + 1) (k + 1) = eqB r.data.toList (j + 1) k) := eqB_miss _ _ _ hjk (by omega) hk4
                go_wp2
                go_round
                case rel => exact ⟨k + 1, by omega, by omega, by go_num, by rw [HE.out], next_no HN.out hjk hk2 hk3⟩
                case measure => simp [intOf]; omega
          · have HE : Hid (eqB r.data.toList (j + 1) k = decide (0 ≤ Lib.indexByte ((r.data.toList.drop (j + 1)).takeWhile (· ≠ 38)) 61)) :=
                eqB_end _ _ _ HN.out (.inl (by omega))
            generalize eqB r.data.toList (j + 1) k = b at HE
            cases b
            · have hn : ¬ 0 ≤ Lib.indexByte ((r.data.toList.drop (j + 1)).takeWhile (· ≠ 38)) 61 := of_decide_eq_false HE.out.symm
              have HM : Hid (Mid r.data.toList L f (j + 1)) := mid_no hmid.out hf (by omega) hcl hn
              clear hn hmid HE HN
              go_wp2
              go_roundw
              case rel => exact ⟨f, j + 1, L, by omega, by omega, by omega, rfl, by go_num, hown, HM, hbel⟩
              case measure => simp [intOf]; omega
            · have hn : 0 ≤ Lib.indexByte ((r.data.toList.drop (j + 1)).takeWhile (· ≠ 38)) 61 := of_decide_eq_true HE.out.symm
              have HM : Hid (Mid r.data.toList (L ++ [r.extract f j]) (j + 1) (j + 1)) := mid_yes hmid.out (by omega) hcl hn (extract_part r f j)
              clear hn hmid HE HN
              go_wp2_with (at_builtin; refine wpList_append_own _ rfl _ _ 23 rfl w.heap.size 9 i0 (.string ByteArray.empty) 1 16 Tryd.underlying23 hi hz0 hz1 hz2 rfl (by decide) _ _ _ rfl (hown.out.alloc _) ⟨wr.heap.size, 0, none⟩ 1 1 [.string (r.extract f j)] rfl rfl (one_cell _ _) (one_one _) (by unfold maxLen; omega) (by omega) (by simp; omega) ?_)
              intro v' w1 hown' hgrow _
              have R := rel_push (Nat.le_refl _) hown.out hbel hown' hgrow
              clear hown' hgrow hown hbel
              go_wp2
              go_roundw
              case rel =>
                refine ⟨j + 1, j + 1, L ++ [r.extract f j], by omega, by omega, by simp; omega, by go_num, by go_num, ?_, HM, R.2⟩
                show World.ownsRow _ _ _ _ _ _ _
                have := R.1
                simpa using this
              case measure => simp [intOf]; omega
      · have hcn : ((r[j].toNat : Int) == 38) = false := by
          have : r[j].toNat ≠ 38 := fun e => hc (UInt8.toNat_inj.1 e)
          simp; omega
        have hcl : r.data.toList[j]'(by omega) ≠ 38 := hc
        go_wp2
        go_roundw
        case rel => exact ⟨f, j + 1, L, by omega, by omega, by omega, rfl, by go_num, hown, mid_other hmid.out hf (by omega) hcl, hbel⟩
        case measure => simp [intOf]; omega
    · obtain rfl : j = r.size := by omega
      have HL : Hid (L ++ [r.extract f r.size] = settingsB r) := mid_end_B hmid.out
      go_wp2_with (at_builtin; refine wpList_append_own _ rfl _ _ 23 rfl w.heap.size 9 i0 (.string ByteArray.empty) 1 16 Tryd.underlying23 hi hz0 hz1 hz2 rfl (by decide) _ _ _ rfl (hown.out.alloc _) ⟨wr.heap.size, 0, none⟩ 1 1 [.string (r.extract f r.size)] rfl rfl (one_cell _ _) (one_one _) (by unfold maxLen; omega) (by omega) (by simp; omega) ?_)
      intro v' w1 hown' hgrow _
      have R := rel_push (Nat.le_refl _) hown.out hbel hown' hgrow
      clear hown' hgrow hown hbel
      obtain ⟨g, cap, rfl, F⟩ := own_out2 (L := L ++ [r.extract f r.size]) (by simpa using R.1) (by simp) R.2
      rw [HL.out] at F
      have hle : (L ++ [r.extract f r.size]).length = (settingsB r).length := by rw [HL.out]
      rw [hle]
      clear R HL hle
      go_wp2
      go_ret2
      exact ⟨g, cap, rfl, F⟩
end Go.Proofs.Qxb6605388aDoor
