/-
  THE WALK of the law.
-/
import Derived.Test.Qxb6605882aFmtWalkF
import Derived.Laws.IdiomStrings
namespace Go.Proofs.Qxb6605882aFmt
open Go.RowKit Go.Extern.Stop Go.Stop Go.Extern

/-- the same said of the value -/
def KeyV (s : ByteArray) (v : Value) : Prop :=
  (v = .nilIface ∧ (∀ x ∈ s.data.toList, wb x.toNat = true) ∧ ∀ c : UInt8, s.data.toList = [c] → an c.toNat = true) ∨
  ((∃ a, v = .iface 65 (.pointer (some a))) ∧ ∀ c : UInt8, s.data.toList = [c] → an c.toNat = false)

theorem keyV {s : ByteArray} {e : Ending} (h : KeyP s e) : ∃ v, e = .returned v ∧ KeyV s v := by
  rcases h with ⟨rfl, h1, h2⟩ | ⟨⟨a, rfl⟩, h1⟩
  · exact ⟨_, rfl, .inl ⟨rfl, h1, h2⟩⟩
  · exact ⟨_, rfl, .inr ⟨⟨_, rfl⟩, h1⟩⟩

set_option maxRecDepth 100000 in
theorem ZZCheckKey_any (F : Interp) (s : ByteArray) (w : World) (hF : F.answers w.tape) (hs : s.size ≤ 2000000) :
    Calls Tryf.prog 6 #[.string s] w fun e w' => (∃ v, e = .returned v ∧ KeyV s v) ∧ Below w.heap.size w w' := by
  have C := (checkKey_any F s w hF hs).mono (fun e w' h => (⟨keyV h.1, h.2⟩ : (∃ v, e = .returned v ∧ KeyV s v) ∧ Below w.heap.size w w'))
  go_enter Tryf.func6, Tryf.ntmps6
  go_wp2_with (go_at_call 14; refine C.mono ?_; clear C; rintro e w1 ⟨⟨v, rfl, hK⟩, hB⟩)
  go_ret
  exact ⟨⟨v, rfl, hK⟩, hB⟩

theorem conv_one (w : World) (c : UInt8) :
    (convert 27 9 (.slice (some ⟨w.heap.size, 0, none⟩) 1 1)).run Tryf.prog (w.alloc (.cells #[.int .u8 (c.toNat : Int)] 5)) = .ok (.string ⟨#[c]⟩) (w.alloc (.cells #[.int .u8 (c.toNat : Int)] 5)) := by
  refine run_convert_bytes_back _ 27 9 5 ⟨w.heap.size, 0, none⟩ 1 [c] Tryf.underlying27 Tryf.underlying5 Tryf.underlying9 (fun j hj => ?_)
  obtain rfl : j = 0 := by simp at hj; omega
  simp [go_sem, Addr.add]

theorem below_two {w w1 w2 : World} {o : Obj} (h : Below w.heap.size w w1) (k : Below (w1.alloc o).heap.size (w1.alloc o) w2) : Below w.heap.size w w2 :=
  (h.alloc h.size o).trans (k.mono (Nat.le_trans h.size (by simp)))

theorem an_ne {x : Int} (h : an x = true) : (¬ x = 45 ∧ ¬ x = 95 ∧ ¬ x = 46 ∧ ¬ x = 47) ∧ wb x = true := by
  refine ⟨⟨?_, ?_, ?_, ?_⟩, by unfold wb; rw [h]; rfl⟩ <;> (intro e; subst e; cases h)
def NotAn (x : Int) : Prop := (x = 45 ∨ x = 95 ∨ x = 46 ∨ x = 47) ∧ wb x = true ∨ (¬ x = 45 ∧ ¬ x = 95 ∧ ¬ x = 46 ∧ ¬ x = 47) ∧ wb x = false
theorem not_an {x : Int} (h : an x = false) : NotAn x := by
  by_cases h1 : x = 45
  · exact .inl ⟨.inl h1, by subst h1; rfl⟩
  by_cases h2 : x = 95
  · exact .inl ⟨.inr (.inl h2), by subst h2; rfl⟩
  by_cases h3 : x = 46
  · exact .inl ⟨.inr (.inr (.inl h3)), by subst h3; rfl⟩
  by_cases h4 : x = 47
  · exact .inl ⟨.inr (.inr (.inr h4)), by subst h4; rfl⟩
  refine .inr ⟨⟨h1, h2, h3, h4⟩, ?_⟩
  unfold wb
  rw [h, beq_eq_false_iff_ne.2 h1, beq_eq_false_iff_ne.2 h2, beq_eq_false_iff_ne.2 h3, beq_eq_false_iff_ne.2 h4]
  rfl

set_option maxRecDepth 100000 in
set_option maxHeartbeats 2000000 in
theorem law3 (F : Interp) (s : ByteArray) (w : World) (hF : F.answers w.tape) :
    Calls Tryf.prog 3 #[.string s] w fun e w' => e = .returned (.bool true) ∧ Below w.heap.size w w' := by
  have CB := zzBytes5 s w
  go_enter Tryf.func3, Tryf.ntmps3
  by_cases hzn : ¬ s.size ≤ 1048576
  · rw [decide_eq_false hzn] at CB
    go_wp2_with (go_at_call 5; refine CB.mono ?_; clear CB; rintro e w1 ⟨rfl, hw1⟩; replace hw1 := hw1.symm; subst hw1)
    go_ret
    exact ⟨rfl, Below.refl _ _⟩
  have hz : s.size ≤ 1048576 := by omega
  rw [decide_eq_true hz] at CB
  have hz' : ¬ (1048576 : Int) < s.size := by omega
  go_wp2_with (go_at_call 5; refine CB.mono ?_; clear CB; rintro e w1 ⟨rfl, hw1⟩; replace hw1 := hw1.symm; subst hw1)
  refine (ZZCheckKey_any F s w hF (by omega)).mono ?_
  rintro e w1 ⟨⟨v, rfl, hK⟩, hB⟩
  have hF1 : F.answers w1.tape := by rw [hB.tape]; exact hF
  by_cases h0 : s.size = 0
  · have e1 : s.toList.isEmpty = true := by rw [Lib.toList_data, List.isEmpty_iff_length_eq_zero, ← Lib.size_eq]; exact h0
    have h0' : (s.size : Int) = 0 := by omega
    rcases hK with ⟨rfl, h1, h2⟩ | ⟨⟨a, rfl⟩, h1⟩
    · go_wp2
      go_loop [3] (fun v => v = .int .i64 0) (fun _ => 0)
      case atStart => rfl
      case round =>
        subst hrel
        go_wp2
        go_ret
        exact ⟨rfl, hB⟩
    · go_wp2
      go_ret
      exact ⟨rfl, hB⟩
  have e1 : s.toList.isEmpty = false := by
    rw [List.isEmpty_eq_false_iff, Lib.toList_data]
    intro h
    have := Lib.size_eq s
    rw [h] at this
    exact h0 this
  have hp : 0 < s.size := by omega
  have hc := conv_one w1 s[0]
  rcases hK with ⟨rfl, h1, h2⟩ | ⟨⟨a, rfl⟩, h1⟩
  · go_wp2
    go_loop [3] (fun v => ∃ k : Nat, k ≤ s.size ∧ v = .int .i64 (k : Int)) (fun v => s.size - (intOf v).toNat)
    case atStart => exact ⟨0, by omega, rfl⟩
    case round =>
      obtain ⟨k, hk, rfl⟩ := hrel
      by_cases hkx : k < s.size
      · have hkx' : (k : Int) < s.size := by omega
        have hw1 : IntKind.i64.wrap ((k : Int) + 1) = (k : Int) + 1 := by rw [IntKind.wrap_i64]; omega
        have C7 := ZZIsWordByte_any (s[k].toNat : Int) w1
        rw [h1 s[k] (by
          have : s.data.toList[k]? = some s[k] := by rw [Array.getElem?_toList]; exact Array.getElem?_eq_getElem hkx
          exact List.mem_of_getElem? this)] at C7
        go_wp2_with (go_at_call 7; refine C7.mono ?_; clear C7; rintro e w2 ⟨rfl, hw2⟩; replace hw2 := hw2.symm; subst hw2)
        go_round
        case rel => exact ⟨k + 1, hkx, by simp⟩
        case measure =>
          show s.size - (((k : Int) + 1).toNat) < s.size - ((k : Int)).toNat
          omega
      · have hkx' : ¬ (k : Int) < s.size := by omega
        go_wp2_with (go_at_call 6; refine (ZZCheckKey_any F ⟨#[s[0]]⟩ _ ?_ ?_).mono ?_; (exact hF1); (show 1 ≤ 2000000; omega); rintro e w2 ⟨⟨v2, rfl, hK2⟩, hB2⟩)
        have BF : Below w.heap.size w w2 := below_two hB hB2
        rcases hK2 with ⟨rfl, _, g2⟩ | ⟨⟨a2, rfl⟩, g2⟩
        · obtain ⟨⟨n1, n2, n3, n4⟩, gw⟩ := an_ne (g2 s[0] rfl)
          have C7 := ZZIsWordByte_any (s[0].toNat : Int) w2
          rw [gw] at C7
          clear g2 gw
          go_wp2_with (go_at_call 7; refine C7.mono ?_; clear C7; rintro e w3 ⟨rfl, hw3⟩; replace hw3 := hw3.symm; subst hw3)
          go_ret
          refine ⟨?_, BF⟩
          rw [beq_eq_false_iff_ne.2 n1, beq_eq_false_iff_ne.2 n2, beq_eq_false_iff_ne.2 n3, beq_eq_false_iff_ne.2 n4]
          rfl
        · have HG : Hid (NotAn (s[0].toNat : Int)) := not_an (g2 s[0] rfl)
          clear g2
          go_simp
          go_wp2_with (go_at_call 7; refine (ZZIsWordByte_any _ _).mono ?_; rintro e w3 ⟨rfl, hw3⟩; replace hw3 := hw3.symm; subst hw3)
          · go_ret
            exact ⟨rfl, BF⟩
          · go_ret
            exact ⟨rfl, BF⟩
          · go_ret
            exact ⟨rfl, BF⟩
          · rename_i n1 n2 n3 gw
            go_ret
            refine ⟨?_, BF⟩
            rcases HG.out with ⟨m, _⟩ | ⟨_, m⟩
            · rw [show ((s[0].toNat : Int) == 47) = true by rw [beq_iff_eq]; omega]
              simp
            · rw [gw] at m; cases m
          · go_ret
            exact ⟨rfl, BF⟩
  · go_wp2_with (go_at_call 6; refine (ZZCheckKey_any F ⟨#[s[0]]⟩ _ ?_ ?_).mono ?_; (exact hF1); (show 1 ≤ 2000000; omega); rintro e w2 ⟨⟨v2, rfl, hK2⟩, hB2⟩)
    have BF : Below w.heap.size w w2 := below_two hB hB2
    rcases hK2 with ⟨rfl, _, g2⟩ | ⟨⟨a2, rfl⟩, g2⟩
    · obtain ⟨⟨n1, n2, n3, n4⟩, gw⟩ := an_ne (g2 s[0] rfl)
      have C7 := ZZIsWordByte_any (s[0].toNat : Int) w2
      rw [gw] at C7
      clear g2 gw
      go_wp2_with (go_at_call 7; refine C7.mono ?_; clear C7; rintro e w3 ⟨rfl, hw3⟩; replace hw3 := hw3.symm; subst hw3)
      go_ret
      refine ⟨?_, BF⟩
      rw [beq_eq_false_iff_ne.2 n1, beq_eq_false_iff_ne.2 n2, beq_eq_false_iff_ne.2 n3, beq_eq_false_iff_ne.2 n4]
      rfl
    · have HG : Hid (NotAn (s[0].toNat : Int)) := not_an (g2 s[0] rfl)
      clear g2
      go_simp
      go_wp2_with (go_at_call 7; refine (ZZIsWordByte_any _ _).mono ?_; rintro e w3 ⟨rfl, hw3⟩; replace hw3 := hw3.symm; subst hw3)
      · go_ret
        exact ⟨rfl, BF⟩
      · go_ret
        exact ⟨rfl, BF⟩
      · go_ret
        exact ⟨rfl, BF⟩
      · rename_i n1 n2 n3 gw
        go_ret
        refine ⟨?_, BF⟩
        rcases HG.out with ⟨m, _⟩ | ⟨_, m⟩
        · rw [show ((s[0].toNat : Int) == 47) = true by rw [beq_iff_eq]; omega]
          simp
        · rw [gw] at m; cases m
      · go_ret
        exact ⟨rfl, BF⟩
end Go.Proofs.Qxb6605882aFmt
