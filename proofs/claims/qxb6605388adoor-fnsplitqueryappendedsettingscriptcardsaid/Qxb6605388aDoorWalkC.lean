/-
  THE WALK of FnSplitQueryAppendedSettingScript.
-/
import Derived.Test.Qxb6605388aDoorWalkB
import Derived.Deep.QuietTactic
import Derived.BigQuiet
namespace Go.Proofs.Qxb6605388aDoor
open Go.RowKit

set_option maxRecDepth 100000 in
set_option maxHeartbeats 400000 in
theorem law4_big (s : ByteArray) (w : World) (hs : s.size ≤ maxLen) (hb : 16384 < s.size) :
    Calls Tryd.prog 4 #[.string s] w fun e w' => e = .returned (.bool true) ∧ w' = w := by
  have hs' := hs
  unfold maxLen at hs
  by_cases h : (s.size : Int) ≤ 1048576
  · have hd : decide ((s.size : Int) ≤ 1048576) = true := by simpa using h
    go_enter Tryd.func4, Tryd.ntmps4
    go_wp2_with (go_at_call 9; refine (bytes9_any _ _ hs').mono ?_; rintro e w' ⟨rfl, rfl⟩)
    go_ret
    exact ⟨rfl, rfl⟩
  · have hd : decide ((s.size : Int) ≤ 1048576) = false := by simpa using h
    go_enter Tryd.func4, Tryd.ntmps4
    go_wp2_with (go_at_call 9; refine (bytes9_any _ _ hs').mono ?_; rintro e w' ⟨rfl, rfl⟩)
    go_ret
    exact ⟨rfl, rfl⟩

set_option maxRecDepth 100000 in
set_option maxHeartbeats 400000 in
theorem law4_none (s : ByteArray) (w : World) (hb : s.size ≤ 16384) (hq : Lib.indexByte s.data.toList 63 = -1) :
    Calls Tryd.prog 4 #[.string s] w fun e w' => e = .returned (.bool true) ∧ w' = w := by
  have hs' : s.size ≤ maxLen := by unfold maxLen; omega
  have hd : decide ((s.size : Int) ≤ 1048576) = true := by simp; omega
  have hq1 : Lib.indexByte (s ++ ⟨#[38, 122, 122, 61, 49]⟩).data.toList 63 = -1 := by
    rw [ByteArray.data_append, Array.toList_append]; exact ib_append_miss _ _ _ hq (by decide)
  have hq2 : Lib.indexByte (s ++ ⟨#[38, 122, 122]⟩).data.toList 63 = -1 := by
    rw [ByteArray.data_append, Array.toList_append]; exact ib_append_miss _ _ _ hq (by decide)
  have hnil : ∀ (w : World) (a : Option Addr) (n c : Nat), (binOp .eql 23 (.slice a n c) (.slice none 0 0)).run Tryd.prog w = .ok (.bool a.isNone) w := fun w a n c => Lib.run_eql_slice_nil w 23 9 a n c 0 0 Tryd.underlying23
  go_enter Tryd.func4, Tryd.ntmps4
  go_wp2_with (first
   | (go_at_call 9; refine (bytes9_any _ _ hs').mono ?_; rintro e w' ⟨rfl, hw1⟩; replace hw1 := hw1.symm; subst hw1)
   | (go_at_call 7; refine (zz_none _ _ (by first | exact hq | exact hq1 | exact hq2)).mono ?_; rintro e w' ⟨rfl, hw1⟩; replace hw1 := hw1.symm; subst hw1)
   | (go_at_call 10; refine (firstQ_any _ _ hs').mono ?_; rintro e w' ⟨rfl, hw1⟩; replace hw1 := hw1.symm; subst hw1))
  go_ret
  exact ⟨rfl, rfl⟩

theorem getD_more (S : List ByteArray) (y z : ByteArray) (k : Nat) (h : k < S.length + 1) : (S ++ [y, z]).getD k ByteArray.empty = (S ++ [y]).getD k ByteArray.empty := by
  simp only [List.getD_eq_getElem?_getD]
  rcases Nat.lt_or_ge k S.length with hk | hk
  · rw [List.getElem?_append_left hk, List.getElem?_append_left hk]
  · obtain rfl : k = S.length := by omega
    simp
theorem getD_left (S T : List ByteArray) (k : Nat) (h : k < S.length) : (S ++ T).getD k ByteArray.empty = S.getD k ByteArray.empty := by
  simp only [List.getD_eq_getElem?_getD]
  rw [List.getElem?_append_left h]
theorem getD_end (S : List ByteArray) (y : ByteArray) : (S ++ [y]).getD S.length ByteArray.empty = y := by simp
theorem getD_end2 (S : List ByteArray) (y z : ByteArray) : (S ++ [y, z]).getD (S.length + 1) ByteArray.empty = z := by simp
theorem settingsB_le (r : ByteArray) : (settingsB r).length ≤ r.size + 1 := by
  have h : settingsB r = upto (piecesB r) (piecesB r).length := by rw [upto_all _ _ (Nat.le_refl _)]; rfl
  rw [h]
  exact Nat.le_trans (upto_len _ _) (piecesB_le r)
theorem settingsB_small (r x : ByteArray) (hx : x ∈ settingsB r) : x.size ≤ (r.size + 1) * (r.size + 1) := by
  have h : settingsB r = upto (piecesB r) (piecesB r).length := by rw [upto_all _ _ (Nat.le_refl _)]; rfl
  rw [h] at hx
  exact Nat.le_trans (upto_small (piecesB r) r.size (fun x hx => piecesB_small r x hx) _ x hx) (Nat.mul_le_mul_right _ (piecesB_le r))
/-- three calls of ZZsplitQuery behind one another: what each one's settings read as, behind all three -/
theorem cells_kept {w0 w1 : World} {g n : Nat} {L : List ByteArray} (h : ∀ k, k < n → w0.cell? ⟨g, k, none⟩ = some (.string (L.getD k ByteArray.empty))) (hg : g < w0.heap.size) (hb : Below w0.heap.size w0 w1) :
    ∀ k, k < n → w1.cell? ⟨g, k, none⟩ = some (.string (L.getD k ByteArray.empty)) := fun k hk => (hb.cell (p := ⟨g, k, none⟩) hg).trans (h k hk)

set_option maxRecDepth 100000 in
set_option maxHeartbeats 1000000 in
theorem law4_some (s : ByteArray) (w : World) (m : Int) (hm : w.cell? ⟨0, 0, none⟩ = some (.int .i64 m)) (hb : s.size ≤ 16384) (q : Nat) (hq : Lib.indexByte s.data.toList 63 = q) :
    Calls Tryd.prog 4 #[.string s] w fun e w' => e = .returned (.bool true) ∧ Below w.heap.size w w' := by
  have hs' : s.size ≤ maxLen := by unfold maxLen; omega
  have hd : decide ((s.size : Int) ≤ 1048576) = true := by simp; omega
  have hqs : q < s.size := by
    rcases ib_cases s.data.toList 63 with ⟨h, _⟩ | ⟨k, h, hlt, _⟩
    · omega
    · have : s.data.toList.length = s.size := rfl
      omega
  have hq1 : Lib.indexByte (s ++ ⟨#[38, 122, 122, 61, 49]⟩).data.toList 63 = q := by
    rw [ByteArray.data_append, Array.toList_append]; exact ib_append_hit _ _ _ _ hq
  have hq2 : Lib.indexByte (s ++ ⟨#[38, 122, 122]⟩).data.toList 63 = q := by
    rw [ByteArray.data_append, Array.toList_append]; exact ib_append_hit _ _ _ _ hq
  have hb1 : (s ++ ⟨#[38, 122, 122, 61, 49]⟩ : ByteArray).size ≤ 100000 := by
    rw [ByteArray.size_append]; show s.size + 5 ≤ _; omega
  have hb2 : (s ++ ⟨#[38, 122, 122]⟩ : ByteArray).size ≤ 100000 := by
    rw [ByteArray.size_append]; show s.size + 3 ≤ _; omega
  have hm0 : 0 < w.heap.size := World.block_lt_of_cell? _ _ hm
  obtain ⟨hd0, hhd0⟩ : ∃ x, s.extract 0 (q + 1) = x := ⟨_, rfl⟩
  obtain ⟨r, hr⟩ : ∃ r, s.extract (q + 1) s.size = r := ⟨_, rfl⟩
  have e1 := extract_append_left s ⟨#[38, 122, 122, 61, 49]⟩ q hqs
  have e2 := extract_append_left s ⟨#[38, 122, 122]⟩ q hqs
  have f1 := extract_append_right s ⟨#[38, 122, 122, 61, 49]⟩ q hqs
  have f2 := extract_append_right s ⟨#[38, 122, 122]⟩ q hqs
  have k1 := settingsB_set r
  have k2 := settingsB_piece r
  obtain ⟨S, y, hSy⟩ : ∃ S y, settingsB r = S ++ [y] := ⟨_, (settingsB r).getLast (settingsB_ne r), (List.dropLast_concat_getLast (settingsB_ne r)).symm⟩
  have C0 : ∀ w : World, w.cell? ⟨0, 0, none⟩ = some (.int .i64 m) → Calls Tryd.prog 7 #[.string s] w fun e w' => ∃ g cap, e = .returned (.tuple #[.string hd0, .slice (some ⟨g, 0, none⟩) (S.length + 1) cap]) ∧ Hid (∀ k, k < S.length + 1 → w'.cell? ⟨g, k, none⟩ = some (.string ((S ++ [y]).getD k ByteArray.empty))) ∧ w.heap.size ≤ g ∧ g < w'.heap.size ∧ Below w.heap.size w w' := fun w hm => by
    refine (zz_some s w m hm (by omega) q hq).mono fun e w' h => ?_
    unfold SQ at h
    rw [hr, hhd0, hSy] at h
    simpa [Hid] using h
  have C1 : ∀ w : World, w.cell? ⟨0, 0, none⟩ = some (.int .i64 m) → Calls Tryd.prog 7 #[.string (s ++ ⟨#[38, 122, 122, 61, 49]⟩)] w fun e w' => ∃ g cap, e = .returned (.tuple #[.string hd0, .slice (some ⟨g, 0, none⟩) (S.length + 2) cap]) ∧ Hid (∀ k, k < S.length + 2 → w'.cell? ⟨g, k, none⟩ = some (.string ((S ++ [y, ⟨#[122, 122, 61, 49]⟩]).getD k ByteArray.empty))) ∧ w.heap.size ≤ g ∧ g < w'.heap.size ∧ Below w.heap.size w w' := fun w hm => by
    refine (zz_some _ w m hm hb1 q hq1).mono fun e w' h => ?_
    unfold SQ at h
    rw [f1, e1, hr, hhd0, k1, hSy] at h
    simpa [Hid] using h
  have C2 : ∀ w : World, w.cell? ⟨0, 0, none⟩ = some (.int .i64 m) → Calls Tryd.prog 7 #[.string (s ++ ⟨#[38, 122, 122]⟩)] w fun e w' => ∃ g cap, e = .returned (.tuple #[.string hd0, .slice (some ⟨g, 0, none⟩) (S.length + 1) cap]) ∧ Hid (∀ k, k < S.length + 1 → w'.cell? ⟨g, k, none⟩ = some (.string ((S ++ [y ++ ⟨#[38, 122, 122]⟩]).getD k ByteArray.empty))) ∧ w.heap.size ≤ g ∧ g < w'.heap.size ∧ Below w.heap.size w w' := fun w hm => by
    refine (zz_some _ w m hm hb2 q hq2).mono fun e w' h => ?_
    unfold SQ at h
    rw [f2, e2, hr, hhd0, k2, hSy] at h
    simpa [Hid] using h
  have hSl : S.length ≤ 20000 := by
    have h1 := settingsB_le r
    have h2 : r.size ≤ s.size := by rw [← hr, ByteArray.size_extract]; omega
    rw [hSy, List.length_append, List.length_singleton] at h1
    omega
  have hyl : y.size ≤ 16385 * 16385 := by
    have h1 := settingsB_small r y (by rw [hSy]; simp)
    have h2 : r.size ≤ s.size := by rw [← hr, ByteArray.size_extract]; omega
    exact Nat.le_trans h1 (Nat.mul_le_mul (by omega) (by omega))
  clear e1 e2 f1 f2 k1 k2 hSy
  go_enter Tryd.func4, Tryd.ntmps4
  go_wp2_with (first
   | (go_at_call 9; refine (bytes9_any _ _ hs').mono ?_; rintro e w' ⟨rfl, hw1⟩; replace hw1 := hw1.symm; subst hw1))
  refine (C0 w hm).mono ?_
  rintro e w1 ⟨g0, cap0, rfl, hc0, hg0, hl0, hbel0⟩
  go_wp2_with fail
  refine (C1 w1 ((hbel0.cell (p := ⟨0, 0, none⟩) hm0).trans hm)).mono ?_
  rintro e w2 ⟨g1, cap1, rfl, hc1, hg1, hl1, hbel1⟩
  go_wp2_with fail
  have hbel2 := hbel0.trans (hbel1.mono hbel0.size)
  refine (C2 w2 ((hbel2.cell (p := ⟨0, 0, none⟩) hm0).trans hm)).mono ?_
  rintro e w3 ⟨g2, cap2, rfl, hc2, hg2, hl2, hbel3⟩
  have HB : Hid (Below w.heap.size w w3) := hbel2.trans (hbel3.mono hbel2.size)
  have D1 : Hid (∀ k, k < S.length + 2 → w3.cell? ⟨g1, k, none⟩ = some (.string ((S ++ [y, ⟨#[122, 122, 61, 49]⟩]).getD k ByteArray.empty))) := cells_kept hc1.out hl1 hbel3
  have D0 : Hid (∀ k, k < S.length + 1 → w3.cell? ⟨g0, k, none⟩ = some (.string ((S ++ [y]).getD k ByteArray.empty))) :=
    cells_kept (cells_kept hc0.out hl0 hbel1) (Nat.lt_of_lt_of_le hl0 hbel1.size) hbel3
  have D2 := hc2
  clear hc0 hc1 hc2 hg0 hl0 hbel0 hg1 hl1 hbel1 hbel2 hbel3 hg2 hl2 C0 C1 C2
  have hsz : hd0.size = q + 1 := by rw [← hhd0, ByteArray.size_extract]; omega
  have hlist : hd0.data.toList = s.data.toList.take (q + 1) := by rw [← hhd0, Lib.extract_from_zero]
  have hlast : hd0[q]'(by omega) = 63 := by
    have h1 := get_list hd0 q (by omega)
    rw [hlist, List.getElem?_take_of_lt (by omega), (Lib.indexByte_some hq).1] at h1
    exact (Option.some.inj h1).symm
  have hfq : Lib.indexByte hd0.data.toList.dropLast 63 = -1 := by
    have h1 : s.data.toList.length = s.size := rfl
    rw [hlist, List.dropLast_eq_take, List.length_take, List.take_take, show min (min (q + 1) s.data.toList.length - 1) (q + 1) = q by omega]
    exact ib_take _ _ _ hq
  clear hlist
  have hz1 : ((q : Int) + 1 == 0) = false := by simp; omega
  go_wp2_with (first
   | (go_at_call 10; refine (firstQ_any _ _ (by first | exact hs' | (rw [ByteArray.size_extract]; unfold maxLen; omega))).mono ?_; rintro e w' ⟨rfl, hw1⟩; replace hw1 := hw1.symm; subst hw1))
  clear hlast hfq hz1 hhd0 hr hq hq1 hq2 hb1 hb2 hm hm0
  go_loopw [12] (fun i wr => ∃ k : Nat, k ≤ S.length + 1 ∧ i = .int .i64 k ∧ Hid (Below w.heap.size w wr ∧ (∀ k, k < S.length + 2 → wr.cell? ⟨g1, k, none⟩ = some (.string ((S ++ [y, ⟨#[122, 122, 61, 49]⟩]).getD k ByteArray.empty))) ∧
      (∀ k, k < S.length + 1 → wr.cell? ⟨g0, k, none⟩ = some (.string ((S ++ [y]).getD k ByteArray.empty))) ∧ (∀ k, k < S.length + 1 → wr.cell? ⟨g2, k, none⟩ = some (.string ((S ++ [y ++ ⟨#[38, 122, 122]⟩]).getD k ByteArray.empty)))))
    (fun i _ => S.length + 1 - (intOf i).toNat)
  case atStart => exact ⟨0, Nat.zero_le _, rfl, HB, D1, D0, D2⟩
  case round =>
    obtain ⟨k, hk, rfl, HH⟩ := hrel
    clear HB D0 D1 D2
    by_cases hlt : k < S.length + 1
    · have c1 := HH.out.2.1 k (by omega)
      have c0 := HH.out.2.2.1 k hlt
      rw [getD_more S y _ k hlt] at c1
      generalize (S ++ [y]).getD k ByteArray.empty = z at c0 c1
      go_wp2_with fail
      go_quiet (fail)
      go_wp2
      go_roundw
      case rel => exact ⟨k + 1, by omega, by go_num, below_drewN HH.out.1 _, HH.out.2⟩
      case measure => simp [intOf]; omega
    · go_wp2
      go_loopw [13] (fun i wr => ∃ k : Nat, k ≤ S.length ∧ i = .int .i64 k ∧ Hid (Below w.heap.size w wr ∧ (∀ k, k < S.length + 2 → wr.cell? ⟨g1, k, none⟩ = some (.string ((S ++ [y, ⟨#[122, 122, 61, 49]⟩]).getD k ByteArray.empty))) ∧
          (∀ k, k < S.length + 1 → wr.cell? ⟨g0, k, none⟩ = some (.string ((S ++ [y]).getD k ByteArray.empty))) ∧ (∀ k, k < S.length + 1 → wr.cell? ⟨g2, k, none⟩ = some (.string ((S ++ [y ++ ⟨#[38, 122, 122]⟩]).getD k ByteArray.empty)))))
        (fun i _ => S.length + 1 - (intOf i).toNat)
      case atStart => exact ⟨0, Nat.zero_le _, rfl, HH⟩
      case round =>
        obtain ⟨j, hj, rfl, HH⟩ := hrel
        by_cases hlt2 : j < S.length
        · have c2 := HH.out.2.2.2 j (by omega)
          have c0 := HH.out.2.2.1 j (by omega)
          rw [getD_left S _ j hlt2] at c2 c0
          generalize S.getD j ByteArray.empty = z at c0 c2
          go_wp2_with fail
          go_quiet (fail)
          go_wp2
          go_roundw
          case rel => exact ⟨j + 1, by omega, by go_num, below_drewN HH.out.1 _, HH.out.2⟩
          case measure => simp [intOf]; omega
        · have c2 := HH.out.2.2.2 S.length (by omega)
          have c0 := HH.out.2.2.1 S.length (by omega)
          have c1 := HH.out.2.1 (S.length + 1) (by omega)
          rw [getD_end S] at c2 c0
          rw [getD_end2 S] at c1
          go_wp2_with fail
          go_quiet (fail)
          go_wp2
          go_ret
          exact ⟨rfl, below_drewN HH.out.1 _⟩

end Go.Proofs.Qxb6605388aDoor
