/-
  THE WALK of FnSplitQueryMatchesLookaheadCutModel.
-/
import Derived.Test.Qxb6605388aDoorWalkD
import Derived.Deep.QuietTactic
import Derived.BigQuiet
namespace Go.Proofs.Qxb6605388aDoor
open Go.RowKit

theorem settingsB_lim (r : ByteArray) : (settingsB r).length ≤ r.size + 1 := by
  have h : settingsB r = upto (piecesB r) (piecesB r).length := by rw [upto_all _ _ (Nat.le_refl _)]; rfl
  rw [h]
  exact Nat.le_trans (upto_len _ _) (piecesB_le r)
theorem cells_stay {w0 w1 : World} {g n : Nat} {L : List ByteArray} (h : ∀ k, k < n → w0.cell? ⟨g, k, none⟩ = some (.string (L.getD k ByteArray.empty))) (hg : g < w0.heap.size) (hb : Below w0.heap.size w0 w1) :
    ∀ k, k < n → w1.cell? ⟨g, k, none⟩ = some (.string (L.getD k ByteArray.empty)) := fun k hk => (hb.cell (p := ⟨g, k, none⟩) hg).trans (h k hk)

set_option maxRecDepth 100000 in
set_option maxHeartbeats 400000 in
theorem law3_big (s : ByteArray) (w : World) (hs : s.size ≤ maxLen) (hb : 16384 < s.size) :
    Calls Tryd.prog 3 #[.string s] w fun e w' => e = .returned (.bool true) ∧ w' = w := by
  have hs' := hs
  unfold maxLen at hs
  by_cases h : (s.size : Int) ≤ 1048576
  · have hd : decide ((s.size : Int) ≤ 1048576) = true := by simpa using h
    go_enter Tryd.func3, Tryd.ntmps3
    go_wp2_with (go_at_call 6; refine (bytes6_any _ _ hs').mono ?_; rintro e w' ⟨rfl, rfl⟩)
    go_ret
    exact ⟨rfl, rfl⟩
  · have hd : decide ((s.size : Int) ≤ 1048576) = false := by simpa using h
    go_enter Tryd.func3, Tryd.ntmps3
    go_wp2_with (go_at_call 6; refine (bytes6_any _ _ hs').mono ?_; rintro e w' ⟨rfl, rfl⟩)
    go_ret
    exact ⟨rfl, rfl⟩

set_option maxRecDepth 100000 in
set_option maxHeartbeats 400000 in
theorem law3_none (s : ByteArray) (w : World) (hb : s.size ≤ 16384) (hq : Lib.indexByte s.data.toList 63 = -1) :
    Calls Tryd.prog 3 #[.string s] w fun e w' => e = .returned (.bool true) ∧ w' = w := by
  have hs' : s.size ≤ maxLen := by unfold maxLen; omega
  have hd : decide ((s.size : Int) ≤ 1048576) = true := by simp; omega
  have hnil : ∀ (w : World) (a : Option Addr) (n c : Nat), (binOp .eql 23 (.slice a n c) (.slice none 0 0)).run Tryd.prog w = .ok (.bool a.isNone) w := fun w a n c => Lib.run_eql_slice_nil w 23 9 a n c 0 0 Tryd.underlying23
  go_enter Tryd.func3, Tryd.ntmps3
  go_wp2_with (first
   | (go_at_call 6; refine (bytes6_any _ _ hs').mono ?_; rintro e w' ⟨rfl, hw1⟩; replace hw1 := hw1.symm; subst hw1)
   | (go_at_call 7; refine (zz_none _ _ hq).mono ?_; rintro e w' ⟨rfl, hw1⟩; replace hw1 := hw1.symm; subst hw1)
   | (go_at_call 8; refine (model_none _ _ hs' hq).mono ?_; rintro e w' ⟨rfl, hw1⟩; replace hw1 := hw1.symm; subst hw1))
  refine wp_loop_rounds 1 ?_
  rw [rounds_succ]
  go_wp2
  go_ret
  exact ⟨rfl, rfl⟩

set_option maxRecDepth 100000 in
set_option maxHeartbeats 1000000 in
theorem law3_some (s : ByteArray) (w : World) (m : Int) (hm : w.cell? ⟨0, 0, none⟩ = some (.int .i64 m)) (hb : s.size ≤ 16384) (q : Nat) (hq : Lib.indexByte s.data.toList 63 = q) :
    Calls Tryd.prog 3 #[.string s] w fun e w' => e = .returned (.bool true) ∧ Below w.heap.size w w' := by
  have hs' : s.size ≤ maxLen := by unfold maxLen; omega
  have hd : decide ((s.size : Int) ≤ 1048576) = true := by simp; omega
  have hnil : ∀ (w : World) (a : Option Addr) (n c : Nat), (binOp .eql 23 (.slice a n c) (.slice none 0 0)).run Tryd.prog w = .ok (.bool a.isNone) w := fun w a n c => Lib.run_eql_slice_nil w 23 9 a n c 0 0 Tryd.underlying23
  have C0 := zz_some s w m hm (by omega) q hq
  have C1 := fun w => model_some s w (by omega) q hq
  unfold SQ at C0 C1
  have hll : (settingsB (s.extract (q + 1) s.size)).length ≤ 20000 := by
    have h1 := settingsB_lim (s.extract (q + 1) s.size)
    rw [ByteArray.size_extract] at h1
    omega
  generalize s.extract 0 (q + 1) = hd0 at C0 C1
  generalize settingsB (s.extract (q + 1) s.size) = L at C0 C1 hll
  go_enter Tryd.func3, Tryd.ntmps3
  go_wp2_with (first
   | (go_at_call 6; refine (bytes6_any _ _ hs').mono ?_; rintro e w' ⟨rfl, hw1⟩; replace hw1 := hw1.symm; subst hw1))
  refine C0.mono ?_
  rintro e w1 ⟨g0, cap0, rfl, hc0, hg0, hl0, hbel0⟩
  have H0 : Hid (∀ k, k < L.length → w1.cell? ⟨g0, k, none⟩ = some (.string (L.getD k ByteArray.empty))) := hc0
  clear hc0
  go_wp2_with fail
  refine (C1 w1).mono ?_
  rintro e w2 ⟨g1, cap1, rfl, hc1, hg1, hl1, hbel1⟩
  have HH : Hid (Below w.heap.size w w2 ∧ (∀ k, k < L.length → w2.cell? ⟨g0, k, none⟩ = some (.string (L.getD k ByteArray.empty))) ∧ (∀ k, k < L.length → w2.cell? ⟨g1, k, none⟩ = some (.string (L.getD k ByteArray.empty)))) :=
    ⟨hbel0.trans (hbel1.mono hbel0.size), cells_stay H0.out hl0 hbel1, hc1⟩
  clear hc1 hg0 hl0 hbel0 hg1 hl1 hbel1 H0 C0 C1
  go_wp2_with fail
  go_loopw [7] (fun i wr => ∃ k : Nat, k ≤ L.length ∧ i = .int .i64 k ∧ Hid (Below w.heap.size w wr ∧ (∀ k, k < L.length → wr.cell? ⟨g0, k, none⟩ = some (.string (L.getD k ByteArray.empty))) ∧ (∀ k, k < L.length → wr.cell? ⟨g1, k, none⟩ = some (.string (L.getD k ByteArray.empty)))))
    (fun i _ => L.length - (intOf i).toNat)
  case atStart => exact ⟨0, Nat.zero_le _, rfl, HH⟩
  case round =>
    obtain ⟨k, hk, rfl, HH⟩ := hrel
    by_cases hlt : k < L.length
    · have c0 := HH.out.2.1 k hlt
      have c1 := HH.out.2.2 k hlt
      generalize L.getD k ByteArray.empty = z at c0 c1
      go_wp2_with fail
      go_quiet (fail)
      go_wp2
      go_roundw
      case rel => exact ⟨k + 1, by omega, by go_num, below_drewN HH.out.1 _, HH.out.2⟩
      case measure => simp [intOf]; omega
    · go_wp2
      go_ret
      exact ⟨rfl, HH.out.1⟩
end Go.Proofs.Qxb6605388aDoor
