/-
  THE WALK of zzJoinedIs at a text that is the joined pieces.
-/
import Derived.Test.Qxb6608612aDoorWalkF
namespace Go.Proofs.Qxb6608612aDoor
open Go.RowKit

theorem below_drewN {B : Nat} {w w' : World} (h : Below B w w') : ∀ n : Nat, Below B w (w'.drewN n)
  | 0 => h
  | n + 1 => (below_drewN h n).drew

theorem at_list (t : ByteArray) (k : Nat) (b : UInt8) (h : t.data.toList[k]? = some b) : ∃ hk : k < t.size, t[k] = b := by
  obtain ⟨hk, he⟩ := List.getElem?_eq_some_iff.1 h
  exact ⟨hk, he⟩

theorem joined_at (s t : ByteArray) (J g x R : List UInt8) (i K : Nat) (h : t.data.toList = J ++ (g ++ (x ++ R))) (hx : x = (s.data.toList.drop i).take K) (hk : x.length = K) :
    J.length + g.length + K ≤ t.size ∧ (t.extract (J.length + g.length) (J.length + g.length + K)).toList = (s.extract i (i + K)).toList := by
  constructor
  · have := congrArg List.length h
    simp only [List.length_append] at this
    have e : t.data.toList.length = t.size := rfl
    omega
  · rw [Lib.toList_data, Lib.toList_data, extract_part, extract_part, h, ← List.append_assoc, ← List.length_append, List.drop_left, Nat.add_sub_cancel_left, Nat.add_sub_cancel_left, ← hk, List.take_left, hk, hx]

set_option maxRecDepth 100000 in
set_option maxHeartbeats 1000000 in
theorem zzJoinedIs_true (s t : ByteArray) (w : World) (hs : s.size ≤ 2000000) (htz : t.size ≤ 20000000) (ht : t.data.toList = Lib.join (P s.data.toList) [44, 32]) :
    Calls Tryd.prog 14 #[.string s, .string t] w fun e w' => e = .returned (.bool true) ∧ Below w.heap.size w w' := by
  have hlen : s.data.toList.length = s.size := rfl
  have hst : P s.data.toList = [] ++ P (s.data.toList.drop 0) := by simp
  generalize hPL : P s.data.toList = L at *
  have HT : Hid (t.data.toList = Lib.join L [44, 32]) := ht
  clear ht
  go_enter Tryd.func14, Tryd.ntmps14
  go_wp2_with fail
  go_loopw [5, 6, 7] (fun v5 v6 v7 wr => ∃ (A : List (List UInt8)) (i j : Nat), v5 = .int .i64 (i : Int) ∧ v6 = .int .i64 (j : Int) ∧ v7 = .bool (decide (A = [])) ∧ i ≤ s.size ∧ j ≤ t.size ∧ Hid (j = (Lib.join A [44, 32]).length) ∧ Hid (L = A ++ P (s.data.toList.drop i)) ∧ Below w.heap.size w wr) (fun i _ _ _ => s.size - (intOf i).toNat)
  case atStart => exact ⟨[], 0, 0, rfl, rfl, rfl, by omega, by omega, rfl, hst, Below.refl _ _⟩
  case round =>
    obtain ⟨A, i, j, rfl, rfl, rfl, hi, hj, HJ, HL, hbel⟩ := hrel
    by_cases hlt : i < s.size
    · obtain ⟨q1, q2, q3, q4⟩ := P_step s.data.toList A i (by omega) (hPL.trans HL.out)
      have CS := zzSeqLen_any s i wr hs hlt
      have hbig := (W_pos (s.data.toList.drop i)).2
      generalize W (s.data.toList.drop i) = K at *
      obtain ⟨x, hx⟩ : ∃ x, x = (s.data.toList.drop i).take K := ⟨_, rfl⟩
      rw [← hx] at q1 q2
      rw [hPL] at q1
      rw [hlen] at q4
      obtain ⟨R, hR⟩ := join_through A x (P (s.data.toList.drop (i + K)))
      have q5 : t.data.toList = Lib.join A [44, 32] ++ (gap A ++ (x ++ R)) := by rw [← hR, HT.out, q1]; simp
      obtain ⟨r1, r2⟩ := joined_at s t _ _ x R i K q5 hx q2
      rw [← HJ.out] at r1 r2
      have HQ : Hid (L = A ++ [x] ++ P (s.data.toList.drop (i + K))) := q1
      have HX : Hid (x.length = K) := q2
      clear q1 q2 hx hR
      have hlt' : (i : Int) < (s.size : Int) := by omega
      by_cases hA : A = []
      · subst hA
        have eg : (gap []).length = 0 := rfl
        rw [eg] at r1 r2
        clear eg q5
        simp only [Nat.add_zero] at r1 r2
        have r1' : (j : Int) + (K : Int) ≤ (t.size : Int) := by omega
        have q4' : (i : Int) + (K : Int) ≤ (s.size : Int) := by omega
        have wr1 : IntKind.i64.wrap ((j : Int) + (K : Int)) = (j : Int) + (K : Int) := by rw [IntKind.wrap_i64]; omega
        have wr2 : IntKind.i64.wrap ((i : Int) + (K : Int)) = (i : Int) + (K : Int) := by rw [IntKind.wrap_i64]; omega
        have le1 : (j : Int) ≤ (j : Int) + (K : Int) := by omega
        have le2 : (i : Int) ≤ (i : Int) + (K : Int) := by omega
        have r3 : ¬ (t.size : Int) < (j : Int) + (K : Int) := by omega
        have r4 : (!(t.extract j ((j : Int) + (K : Int)).toNat).toList == (s.extract i ((i : Int) + (K : Int)).toNat).toList) = false := by
          rw [show ((j : Int) + (K : Int)).toNat = j + K by omega, show ((i : Int) + (K : Int)).toNat = i + K by omega, r2]; simp
        clear r2
        go_wp2_with (go_at_call 17; refine CS.mono ?_; clear CS; rintro e w1 ⟨⟨ok, rfl⟩, hw1⟩; replace hw1 := hw1.symm; subst hw1)
        go_quiet (fail)
        go_wp2
        go_roundw
        case rel =>
          refine ⟨[x], i + K, j + K, by simp, by simp, by simp, by omega, by omega, ?_, HQ.out, below_drewN hbel _⟩
          show _ = _
          rw [Lib.join_one, HX.out, HJ.out]
          simp [Lib.join_nil]
        case measure => simp [intOf]; omega
      · have eg : gap A = [44, 32] := by unfold gap; rw [if_neg hA]
        rw [eg] at q5 r1 r2
        have hJ := HJ.out
        have h44 : t.data.toList[j]? = some 44 := by rw [q5, List.getElem?_append_right (by omega), ← hJ, Nat.sub_self]; rfl
        have h32 : t.data.toList[j + 1]? = some 32 := by rw [q5, List.getElem?_append_right (by omega), ← hJ, Nat.add_sub_cancel_left]; rfl
        obtain ⟨k1, t1⟩ := at_list _ _ _ h44
        obtain ⟨k2, t2⟩ := at_list _ _ _ h32
        have e1 : (t[j].toNat : Int) = 44 := by rw [t1]; rfl
        have e2 : (t[j + 1].toNat : Int) = 32 := by rw [t2]; rfl
        simp only [List.length_cons, List.length_nil, Nat.zero_add] at r1 r2
        have hdA : decide (A = []) = false := by simp [hA]
        rw [hdA]
        have HG : Hid (gap A = [44, 32]) := eg
        clear h44 h32 hJ eg q5 t1 t2 hA hdA
        have r0 : (j : Int) + 2 ≤ (t.size : Int) := by omega
        have r1' : (j : Int) + 2 + (K : Int) ≤ (t.size : Int) := by omega
        have q4' : (i : Int) + (K : Int) ≤ (s.size : Int) := by omega
        have wr1 : IntKind.i64.wrap ((j : Int) + 2 + (K : Int)) = (j : Int) + 2 + (K : Int) := by rw [IntKind.wrap_i64]; omega
        have wr2 : IntKind.i64.wrap ((i : Int) + (K : Int)) = (i : Int) + (K : Int) := by rw [IntKind.wrap_i64]; omega
        have wr3 : IntKind.i64.wrap ((j : Int) + 2) = (j : Int) + 2 := by rw [IntKind.wrap_i64]; omega
        have wr4 : IntKind.i64.wrap ((j : Int) + 1) = (j : Int) + 1 := by rw [IntKind.wrap_i64]; omega
        have le0 : 0 ≤ (j : Int) + 2 := by omega
        have le1 : (j : Int) + 2 ≤ (j : Int) + 2 + (K : Int) := by omega
        have le2 : (i : Int) ≤ (i : Int) + (K : Int) := by omega
        have r3 : ¬ (t.size : Int) < (j : Int) + 2 + (K : Int) := by omega
        have r3' : ¬ (t.size : Int) < (j : Int) + 2 := by omega
        have r4 : (!(t.extract ((j : Int) + 2).toNat ((j : Int) + 2 + (K : Int)).toNat).toList == (s.extract i ((i : Int) + (K : Int)).toNat).toList) = false := by
          rw [show ((j : Int) + 2).toNat = j + 2 by omega, show ((j : Int) + 2 + (K : Int)).toNat = j + 2 + K by omega, show ((i : Int) + (K : Int)).toNat = i + K by omega, r2]; simp
        clear r2
        go_wp2_with (go_at_call 17; refine CS.mono ?_; clear CS; rintro e w1 ⟨⟨ok, rfl⟩, hw1⟩; replace hw1 := hw1.symm; subst hw1)
        go_quiet (fail)
        go_wp2
        go_roundw
        case rel =>
          refine ⟨A ++ [x], i + K, j + 2 + K, by simp, by simp, by simp, by omega, by omega, ?_, HQ.out, below_drewN hbel _⟩
          show _ = _
          rw [join_snoc, List.length_append, List.length_append, HX.out, ← HJ.out, HG.out]
          rfl
        case measure => simp [intOf]; omega
    · have HE : Hid (L = A) := by
        show _ = _
        rw [HL.out, List.drop_of_length_le (by omega), P_nil, List.append_nil]
      have hjt : j = t.size := by
        rw [HJ.out, ← HE.out, ← HT.out]; rfl
      clear hlen hPL hst HT
      have hge : (s.size : Int) ≤ (i : Int) := by omega
      have hbq : ((j : Int) == (t.size : Int)) = true := by rw [hjt]; simp
      clear hjt
      go_wp2
      go_ret
      exact ⟨rfl, hbel⟩
end Go.Proofs.Qxb6608612aDoor
