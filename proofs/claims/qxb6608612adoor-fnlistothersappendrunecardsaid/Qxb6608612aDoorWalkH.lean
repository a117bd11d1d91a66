/-
  THE WALK of FnListOthersAppendRune: it returns true at every input.
-/
import Derived.Test.Qxb6608612aDoorWalkG
namespace Go.Proofs.Qxb6608612aDoor
open Go.RowKit

abbrev andB : ByteArray := ⟨#[32, 97, 110, 100, 32]⟩

theorem listed_snoc (l : List UInt8) (H : List (List UInt8)) (x : List UInt8) (h : P l = H ++ [x]) : listed l = Lib.join H [44, 32] ++ ([32, 97, 110, 100, 32] ++ x) := by
  unfold listed
  rw [h, List.dropLast_concat, List.getLastD_concat, List.append_assoc]

theorem law4_long (m d : Int) (s : ByteArray) (w : World) (h : ¬ s.size ≤ 1048576) :
    Calls Tryd.prog 4 #[.int .i64 m, .string s, .int .i32 d] w fun e w' => e = .returned (.bool true) ∧ Below w.heap.size w w' := by
  have CB := zzBytes9 m d s w
  rw [decide_eq_false h] at CB
  go_enter Tryd.func4, Tryd.ntmps4
  go_wp2_with (go_at_call 9; refine CB.mono ?_; rintro e w' ⟨rfl, rfl⟩)
  go_ret
  exact ⟨rfl, Below.refl _ _⟩

theorem law4_none (m d : Int) (s : ByteArray) (w : World) (h : s.size = 0) :
    Calls Tryd.prog 4 #[.int .i64 m, .string s, .int .i32 d] w fun e w' => e = .returned (.bool true) ∧ Below w.heap.size w w' := by
  have CB := zzBytes9 m d s w
  rw [decide_eq_true (show s.size ≤ 1048576 by omega)] at CB
  go_enter Tryd.func4, Tryd.ntmps4
  go_wp2_with (go_at_call 9; refine CB.mono ?_; rintro e w' ⟨rfl, rfl⟩)
  go_ret
  exact ⟨rfl, Below.refl _ _⟩

theorem law4_bad (m d : Int) (s : ByteArray) (w : World) (h1 : s.size ≤ 1048576) (h0 : 0 < s.size) (hv : vr d = false) :
    Calls Tryd.prog 4 #[.int .i64 m, .string s, .int .i32 d] w fun e w' => e = .returned (.bool true) ∧ Below w.heap.size w w' := by
  have CB := zzBytes9 m d s w
  have CV := zzValidRune_any d w
  rw [decide_eq_true h1] at CB
  rw [hv] at CV
  have g1 : ((s.size : Int) == 0) = false := beq_eq_false_iff_ne.2 (by omega)
  have g2 : ¬ (1048576 : Int) < (s.size : Int) := by omega
  go_enter Tryd.func4, Tryd.ntmps4
  go_wp2_with (first
    | (go_at_call 9; refine CB.mono ?_; rintro e w' ⟨rfl, hw⟩; replace hw := hw.symm; subst hw)
    | (go_at_call 10; refine CV.mono ?_; rintro e w' ⟨rfl, hw⟩; replace hw := hw.symm; subst hw))
  go_ret
  exact ⟨rfl, Below.refl _ _⟩

theorem B_append (a b : List UInt8) : (⟨a.toArray⟩ ++ ⟨b.toArray⟩ : ByteArray) = ⟨(a ++ b).toArray⟩ := ByteArray.mk_append_mk a b
theorem B_eta (s : ByteArray) : (⟨s.data.toList.toArray⟩ : ByteArray) = s := rfl

set_option maxRecDepth 100000 in
set_option maxHeartbeats 2000000 in
theorem law4_main (m : Int) (n : Nat) (s : ByteArray) (w : World) (h1 : s.size ≤ 1048576) (h0 : 0 < s.size) (hn : n < 1114112) (hsu : n < 55296 ∨ 57343 < n) (hT : Lib.Utf8Tabs 1 2 w) (hz : 2 < w.heap.size) :
    Calls Tryd.prog 4 #[.int .i64 m, .string s, .int .i32 n] w fun e w' => e = .returned (.bool true) ∧ Below w.heap.size w w' := by
  have hlen : s.data.toList.length = s.size := rfl
  have hne : P s.data.toList ≠ [] := by
    rw [ne_eq, P_empty]; intro e
    rw [e] at hlen; simp at hlen; omega
  obtain ⟨H, x, hHx⟩ : ∃ H x, P s.data.toList = H ++ [x] := ⟨_, _, (List.dropLast_concat_getLast hne).symm⟩
  have hP2 : P (s.data.toList ++ enc n) = (H ++ [x]) ++ [enc n] := by rw [P_enc n hn hsu, hHx]
  have hE := enc_facts n hn hsu
  have hfl : H.flatten ++ x = s.data.toList := by rw [← P_flat s.data.toList, hHx]; simp
  have hpe := P_edge H [x] _ hHx
  have hHl : H.length ≤ s.size := by
    have : (P s.data.toList).length ≤ s.size := by rw [← runeCount_P]; exact Lib.runeCount_le s
    rw [hHx, List.length_append] at this; omega
  have hfs : H.flatten.length + x.length = s.size := by rw [← hlen, ← hfl, List.length_append]
  have hjb := join_bound H
  -- the texts
  obtain ⟨xB, hxB⟩ : ∃ B : ByteArray, B = ⟨x.toArray⟩ := ⟨_, rfl⟩
  obtain ⟨eB, heB⟩ : ∃ B : ByteArray, B = ⟨(enc n).toArray⟩ := ⟨_, rfl⟩
  obtain ⟨hB, hhB⟩ : ∃ B : ByteArray, B = ⟨(Lib.join H [44, 32]).toArray⟩ := ⟨_, rfl⟩
  obtain ⟨oB, hoB⟩ : ∃ B : ByteArray, B = ⟨H.flatten.toArray⟩ := ⟨_, rfl⟩
  obtain ⟨tB, htB⟩ : ∃ B : ByteArray, B = ⟨([32, 97, 110, 100, 32] ++ x).toArray⟩ := ⟨_, rfl⟩
  obtain ⟨l1, hl1⟩ : ∃ B : ByteArray, B = ⟨(listed s.data.toList).toArray⟩ := ⟨_, rfl⟩
  obtain ⟨so, hso⟩ : ∃ B : ByteArray, B = s ++ eB := ⟨_, rfl⟩
  obtain ⟨l2, hl2⟩ : ∃ B : ByteArray, B = ⟨(listed so.data.toList).toArray⟩ := ⟨_, rfl⟩
  have hsod : so.data.toList = s.data.toList ++ enc n := by rw [hso, heB]; simp
  have hL1 : listed s.data.toList = Lib.join H [44, 32] ++ ([32, 97, 110, 100, 32] ++ x) := listed_snoc _ _ _ hHx
  have hL2 : listed so.data.toList = Lib.join (H ++ [x]) [44, 32] ++ ([32, 97, 110, 100, 32] ++ enc n) := by rw [hsod]; exact listed_snoc _ _ _ hP2
  have zx : xB.size = x.length := by rw [hxB]; exact str_size x
  have ze : eB.size = (enc n).length := by rw [heB]; exact str_size _
  have zh : hB.size = (Lib.join H [44, 32]).length := by rw [hhB]; exact str_size _
  have zt : tB.size = 5 + x.length := by rw [htB, str_size]; simp; omega
  have zl1 : l1.size = hB.size + tB.size := by rw [hl1, str_size, hL1, List.length_append, ← zh, zt]; simp; omega
  have zso : so.size = s.size + eB.size := by rw [hso, ByteArray.size_append]
  -- the calls
  have CB := zzBytes9 m n s w
  have CV := zzValidRune_any n w
  rw [decide_eq_true h1] at CB
  rw [show vr n = true by unfold vr; simp; omega] at CV
  have C6 := formListOthers_any m s w (by omega) h0 hT hz
  rw [show str (listed s.data.toList) = .string l1 by rw [hl1]; rfl] at C6
  have CE := fun w => zzEnc_any n w hn
  rw [show str (enc n) = .string eB by rw [heB]; rfl] at CE
  have C6b := fun (w2 : World) (hb : Below w.heap.size w w2) => formListOthers_any m so w2 (by omega) (by omega) (tabs_below hT hz hb) (by have := hb.size; omega)
  rw [show str (listed so.data.toList) = .string l2 by rw [hl2]; rfl] at C6b
  have CL := fun w => zzLastPieceStart_any s w (by omega)
  rw [hHx, List.dropLast_concat, show flen H = H.flatten.length from rfl] at CL
  have CH := fun w => zzHasSuffix_true (Lib.join H [44, 32]) ([32, 97, 110, 100, 32] ++ x) w (by omega) (by simp; omega)
  rw [← hL1, show str (listed s.data.toList) = .string l1 by rw [hl1]; rfl, show str ([32, 97, 110, 100, 32] ++ x) = .string tB by rw [htB]; rfl] at CH
  have CJ := fun w => zzJoinedIs_true oB hB w (by rw [hoB, str_size]; omega) (by omega) (by
    rw [hhB, hoB]
    show Lib.join H [44, 32] = Lib.join (P H.flatten) [44, 32]
    rw [hpe.1])
  -- the pieces
  have ex : s.extract H.flatten.length s.size = xB := by
    apply ba_ext
    rw [Lib.extract_to_end, hxB, ← hfl, List.drop_left]
  have eo : s.extract 0 H.flatten.length = oB := by
    apply ba_ext
    rw [extract_part, hoB, List.drop_zero, Nat.sub_zero, ← hfl, List.take_left]
  have eh : l1.extract 0 hB.size = hB := by
    apply ba_ext
    rw [extract_part, List.drop_zero, Nat.sub_zero, hl1, hL1, zh, hhB]
    show (Lib.join H [44, 32] ++ _).take _ = _
    rw [List.take_left]
  have a0 := fun w => run_string_add_sum (P := Tryd.prog) w s eB (by omega)
  rw [← hso] at a0
  have a1 := fun w => run_string_add_sum (P := Tryd.prog) w andB xB (by show 5 + _ ≤ _; omega)
  rw [show andB ++ xB = tB by rw [htB, hxB]; exact B_append [32, 97, 110, 100, 32] x] at a1
  have hEl := hE.2.2.2
  have hd1 : (l1.size : Int) - (tB.size : Int) = (hB.size : Int) := by omega
  have g1 : ((s.size : Int) == 0) = false := beq_eq_false_iff_ne.2 (by omega)
  have g2 : ¬ (1048576 : Int) < (s.size : Int) := by omega
  have hlsz : H.flatten.length ≤ s.size := by omega
  have hlh : (hB.size : Int) ≤ (l1.size : Int) := by omega
  have hsb : l1.size ≤ 20000000 := by omega
  have hJne : Lib.join H [44, 32] = [] ↔ H = [] := join_empty_iff H (fun y hy => P_ne s.data.toList y (by rw [hHx]; simp [hy]))
  have hfin : ∀ c : ByteArray, c.data.toList = gap H → ∃ c1 c2 c3 : ByteArray, (∀ w, (Op.stringOp .add hB c).run Tryd.prog w = .ok (.string c1) w) ∧ (∀ w, (Op.stringOp .add c1 xB).run Tryd.prog w = .ok (.string c2) w) ∧
      (∀ w, (Op.stringOp .add c2 andB).run Tryd.prog w = .ok (.string c3) w) ∧ (∀ w, (Op.stringOp .add c3 eB).run Tryd.prog w = .ok (.string l2) w) := by
    intro c hc
    have zc : c.size ≤ 2 := by
      have e : c.data.toList.length = c.size := rfl
      rw [← e, hc]; unfold gap; split <;> simp
    refine ⟨hB ++ c, hB ++ c ++ xB, hB ++ c ++ xB ++ andB, fun w => ?_, fun w => ?_, fun w => ?_, fun w => ?_⟩
    · exact run_string_add_sum w _ _ (by omega)
    · exact run_string_add_sum w _ _ (by rw [ByteArray.size_append]; omega)
    · exact run_string_add_sum w _ _ (by rw [ByteArray.size_append, ByteArray.size_append]; show _ + 5 ≤ _; omega)
    · rw [run_string_add_sum w _ _ (by rw [ByteArray.size_append, ByteArray.size_append, ByteArray.size_append]; show _ + 5 + _ ≤ _; omega)]
      congr 2
      apply ba_ext
      rw [hl2]
      show _ = listed so.data.toList
      rw [hL2, join_snoc, hhB, hxB, heB, ← hc]
      simp

  have hHB : hB.data.toList = Lib.join H [44, 32] := by rw [hhB]
  have hgap : gap H = if H = [] then [] else [44, 32] := rfl
  generalize H.flatten.length = ls at *
  by_cases hH : H = []
  · rw [if_pos hH] at hgap
    rw [hJne.2 hH] at hHB
    have q1 : hB.toList.isEmpty = true := by rw [Lib.toList_data, hHB]; rfl
    have q2 : (hB.toList == []) = true := by rw [Lib.toList_data, hHB]; rfl
    have q3 : hB.toList = [] := by rw [Lib.toList_data, hHB]
    obtain ⟨c1, c2, c3, b1, b2, b3, b4⟩ := hfin ⟨#[]⟩ (by rw [hgap])
    clear hfin hne hHx hP2 hE hfl hpe hHl hfs hjb hxB heB hhB hoB htB hl1 hso hl2 hsod hL1 hL2 zx ze zh zt zso hHB hgap hJne hH hlen hn hsu hEl
    go_enter Tryd.func4, Tryd.ntmps4
    go_wp2_with (first
      | (go_at_call 9; refine CB.mono ?_; clear CB; rintro e w' ⟨rfl, hw⟩; replace hw := hw.symm; subst hw)
      | (go_at_call 10; refine CV.mono ?_; clear CV; rintro e w' ⟨rfl, hw⟩; replace hw := hw.symm; subst hw)
      | (go_at_call 6; refine C6.mono ?_; clear C6; rintro e w1 ⟨rfl, hb1⟩)
      | (go_at_call 11; refine (CE w1).mono ?_; rintro e w2 ⟨rfl, hb2⟩; have hbel2 := hb1.trans (hb2.mono hb1.size); replace C6b := C6b w2 hbel2)
      | (go_at_call 6; refine C6b.mono ?_; clear C6b; rintro e w3 ⟨rfl, hb3⟩; have hbel3 := hbel2.trans (hb3.mono hbel2.size); replace CL := CL w3)
      | (go_at_call 12; refine CL.mono ?_; clear CL; rintro e w4 ⟨rfl, hw⟩; replace hw := hw.symm; subst hw; replace CH := CH w3)
      | (go_at_call 13; refine CH.mono ?_; clear CH; rintro e w4 ⟨rfl, hw⟩; replace hw := hw.symm; subst hw; replace CJ := CJ w3)
      | (go_at_call 14; refine CJ.mono ?_; clear CJ; rintro e w5 ⟨rfl, hb5⟩; have hbel5 := hbel3.trans (hb5.mono hbel3.size); replace CE := CE w5)
      | (go_at_call 11; refine CE.mono ?_; clear CE; rintro e w6 ⟨rfl, hb6⟩; have hbel6 := hbel5.trans (hb6.mono hbel5.size)))
    go_ret
    exact ⟨rfl, hbel6⟩
  · rw [if_neg hH] at hgap
    have hJ0 : Lib.join H [44, 32] ≠ [] := fun e => hH (hJne.1 e)
    have q0 : hB.data.toList ≠ [] := by rw [hHB]; exact hJ0
    have q3 : hB.toList ≠ [] := by rw [Lib.toList_data]; exact q0
    have q1 : hB.toList.isEmpty = false := by rw [List.isEmpty_eq_false_iff]; exact q3
    have q2 : (hB.toList == []) = false := beq_eq_false_iff_ne.2 q3
    obtain ⟨c1, c2, c3, b1, b2, b3, b4⟩ := hfin ⟨#[44, 32]⟩ (by rw [hgap])
    clear q0 hJ0
    clear hfin hne hHx hP2 hE hfl hpe hHl hfs hjb hxB heB hhB hoB htB hl1 hso hl2 hsod hL1 hL2 zx ze zh zt zso hHB hgap hJne hH hlen hn hsu hEl
    go_enter Tryd.func4, Tryd.ntmps4
    go_wp2_with (first
      | (go_at_call 9; refine CB.mono ?_; clear CB; rintro e w' ⟨rfl, hw⟩; replace hw := hw.symm; subst hw)
      | (go_at_call 10; refine CV.mono ?_; clear CV; rintro e w' ⟨rfl, hw⟩; replace hw := hw.symm; subst hw)
      | (go_at_call 6; refine C6.mono ?_; clear C6; rintro e w1 ⟨rfl, hb1⟩)
      | (go_at_call 11; refine (CE w1).mono ?_; rintro e w2 ⟨rfl, hb2⟩; have hbel2 := hb1.trans (hb2.mono hb1.size); replace C6b := C6b w2 hbel2)
      | (go_at_call 6; refine C6b.mono ?_; clear C6b; rintro e w3 ⟨rfl, hb3⟩; have hbel3 := hbel2.trans (hb3.mono hbel2.size); replace CL := CL w3)
      | (go_at_call 12; refine CL.mono ?_; clear CL; rintro e w4 ⟨rfl, hw⟩; replace hw := hw.symm; subst hw; replace CH := CH w3)
      | (go_at_call 13; refine CH.mono ?_; clear CH; rintro e w4 ⟨rfl, hw⟩; replace hw := hw.symm; subst hw; replace CJ := CJ w3)
      | (go_at_call 14; refine CJ.mono ?_; clear CJ; rintro e w5 ⟨rfl, hb5⟩; have hbel5 := hbel3.trans (hb5.mono hbel3.size); replace CE := CE w5)
      | (go_at_call 11; refine CE.mono ?_; clear CE; rintro e w6 ⟨rfl, hb6⟩; have hbel6 := hbel5.trans (hb6.mono hbel5.size)))
    go_ret
    exact ⟨rfl, hbel6⟩

theorem law4_any (m d : Int) (s : ByteArray) (w : World) (hT : Lib.Utf8Tabs 1 2 w) (hz : 2 < w.heap.size) :
    Calls Tryd.prog 4 #[.int .i64 m, .string s, .int .i32 d] w fun e w' => e = .returned (.bool true) ∧ Below w.heap.size w w' := by
  by_cases h : s.size ≤ 1048576
  · by_cases h0 : s.size = 0
    · exact law4_none m d s w h0
    · cases hv : vr d with
      | false => exact law4_bad m d s w h (by omega) hv
      | true =>
        unfold vr at hv
        have hv := of_decide_eq_true hv
        obtain ⟨n, rfl⟩ := Int.eq_ofNat_of_zero_le hv.1
        exact law4_main m n s w h (by omega) (by omega) (by omega) hT hz
  · exact law4_long m d s w h
end Go.Proofs.Qxb6608612aDoor
