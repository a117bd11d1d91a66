/-
  THE WALKS of isAlphanumeric, isWordByte and isName.
-/
import Derived.Test.Qxb6605882aFmtWalkB
namespace Go.Proofs.Qxb6605882aFmt
open Go.RowKit Go.Shelf

/-- a letter or digit -/
def an (x : Int) : Bool := (decide (97 ≤ x) && decide (x ≤ 122)) || (decide (65 ≤ x) && decide (x ≤ 90)) || (decide (48 ≤ x) && decide (x ≤ 57))
/-- a word byte -/
def wb (x : Int) : Bool := an x || x == 45 || x == 95 || x == 46 || x == 47
/-- a name's byte -/
def nb (x : Int) : Bool := an x || x == 45 || x == 95 || x == 46

theorem alnum_any (x : Int) (w : World) : Calls Tryf.prog 23 #[.int .u8 x] w fun e w' => e = .returned (.bool (an x)) ∧ w' = w := by
  go_enter Tryf.func23, Tryf.ntmps23
  by_cases h1 : 97 ≤ x <;> by_cases h2 : x ≤ 122 <;> by_cases h3 : 65 ≤ x <;> by_cases h4 : x ≤ 90 <;> by_cases h5 : 48 ≤ x <;> by_cases h6 : x ≤ 57 <;> first | omega | (go_wp2; go_ret; simp [an, h1, h2, h3, h4, h5, h6])

set_option maxRecDepth 100000 in
set_option maxHeartbeats 400000 in
theorem isWordByte_any (x : Int) (w : World) : Calls Tryf.prog 15 #[.int .u8 x] w fun e w' => e = .returned (.bool (wb x)) ∧ w' = w := by
  go_enter Tryf.func15, Tryf.ntmps15
  go_wp2_with (go_at_call 23; refine (alnum_any _ _).mono ?_; rintro e w1 ⟨rfl, rfl⟩)
  all_goals go_ret
  all_goals (refine ⟨?_, rfl⟩; unfold wb; simp [*])

theorem ZZIsWordByte_any (x : Int) (w : World) : Calls Tryf.prog 7 #[.int .u8 x] w fun e w' => e = .returned (.bool (wb x)) ∧ w' = w := by
  have C := isWordByte_any x w
  go_enter Tryf.func7, Tryf.ntmps7
  go_wp2_with (go_at_call 15; refine C.mono ?_; clear C; rintro e w1 ⟨rfl, rfl⟩)
  go_ret
  exact ⟨rfl, rfl⟩

set_option linter.unusedSimpArgs false in
theorem zzBytes5 (s : ByteArray) (w : World) : Calls Tryf.prog 5 #[.string s] w fun e w' => e = .returned (.bool (decide (s.size ≤ 1048576))) ∧ w' = w := by
  go_enter Tryf.func5, Tryf.ntmps5
  by_cases h : s.size ≤ 1048576
  · have h1 : (s.size : Int) ≤ 1048576 := by omega
    go_wp2
    go_ret
    simp [h]
  · have h1 : ¬ (s.size : Int) ≤ 1048576 := by omega
    go_wp2
    go_ret
    simp [h]

/-- what isName answers -/
def NamP (s : ByteArray) (e : Ending) : Prop := ∃ b, e = .returned (.bool b) ∧ (b = true → ∀ x ∈ s.data.toList, nb x.toNat = true) ∧ ∀ c : UInt8, s.data.toList = [c] → b = an c.toNat

theorem one_size {s : ByteArray} {c : UInt8} (h : s.data.toList = [c]) : s.size = 1 := by rw [Lib.size_eq, h]; rfl
theorem one_at {s : ByteArray} {c : UInt8} (h : s.data.toList = [c]) (k : Nat) (hk : k < s.size) : s[k] = c := by
  have h1 := one_size h
  obtain rfl : k = 0 := by omega
  have : s.data.toList[0]? = some c := by rw [h]; rfl
  rw [Array.getElem?_toList] at this
  obtain ⟨_, e⟩ := Array.getElem?_eq_some_iff.1 this
  exact e

theorem take_nb (x : ByteArray) (k : Nat) (hk : k < x.size) (h : ∀ b ∈ x.data.toList.take k, nb b.toNat = true) (h2 : nb x[k].toNat = true) : ∀ b ∈ x.data.toList.take (k + 1), nb b.toNat = true := by
  intro b hb
  rw [List.take_succ_eq_append_getElem (by rw [← Lib.size_eq]; exact hk)] at hb
  rcases List.mem_append.1 hb with hb | hb
  · exact h b hb
  · have e : b = x[k] := by
      rw [List.mem_singleton.1 hb]; rfl
    rw [e]; exact h2

set_option linter.unusedSimpArgs false in
set_option maxRecDepth 100000 in
set_option maxHeartbeats 2000000 in
theorem isName_any (s : ByteArray) (w : World) : Calls Tryf.prog 22 #[.string s] w fun e w' => NamP s e ∧ w' = w := by
  go_enter Tryf.func22, Tryf.ntmps22
  by_cases h0 : s.size = 0
  · have e1 : s.toList.isEmpty = true := by rw [Lib.toList_data, List.isEmpty_iff_length_eq_zero, ← Lib.size_eq]; exact h0
    go_wp2
    go_ret
    refine ⟨⟨true, rfl, fun _ => ?_, fun c hc => ?_⟩, rfl⟩
    · rw [Lib.toList_data, List.isEmpty_iff] at e1
      rw [e1]; simp
    · have := one_size hc; omega
  have e1 : s.toList.isEmpty = false := by
    rw [List.isEmpty_eq_false_iff, Lib.toList_data]
    intro h
    have := Lib.size_eq s
    rw [h] at this
    exact h0 this
  by_cases h1 : 63 < s.size
  · have h1' : (63 : Int) < s.size := by omega
    go_wp2
    go_ret
    exact ⟨⟨false, rfl, ⟨fun h => (by cases h), fun c hc => (by have := one_size hc; omega)⟩⟩, rfl⟩
  have h1' : ¬ (63 : Int) < s.size := by omega
  have hx1 : (0 : Int) < (s.size : Int) := by omega
  have hw2 : IntKind.i64.wrap ((s.size : Int) - 1) = (s.size : Int) - 1 := by rw [IntKind.wrap_i64]; omega
  go_wp2_with (go_at_call 23; refine (alnum_any _ _).mono ?_; rintro e w1 ⟨rfl, hw1⟩; replace hw1 := hw1.symm; subst hw1)
  · rename_i hl
    go_ret
    refine ⟨⟨false, rfl, ⟨fun h => (by cases h), fun c hc => ?_⟩⟩, rfl⟩
    rw [← one_at hc (s.size - 1) (by omega)]
    simpa using hl.symm
  · have hA0 : an (s[0].toNat : Int) = true := by assumption
    have hA1 : an (s[s.size - 1].toNat : Int) = true := by
      have h : (!an (s[s.size - 1].toNat : Int)) = false := by assumption
      simpa using h
    simp only [hA1, Bool.not_true]
    go_loop [27] (fun v => ∃ k : Nat, k ≤ s.size ∧ v = .int .i64 (k : Int) ∧ Hid (∀ b ∈ s.data.toList.take k, nb b.toNat = true)) (fun v => s.size - (intOf v).toNat)
    case atStart => exact ⟨0, by omega, rfl, by show ∀ b ∈ _, _; simp⟩
    case round =>
      obtain ⟨k, hk, rfl, HS⟩ := hrel
      by_cases hkx : k < s.size
      · have hkx' : (k : Int) < s.size := by omega
        have hw1 : IntKind.i64.wrap ((k : Int) + 1) = (k : Int) + 1 := by rw [IntKind.wrap_i64]; omega
        have HN : nb (s[k].toNat : Int) = true → Hid (∀ b ∈ s.data.toList.take (k + 1), nb b.toNat = true) := fun h => take_nb s k hkx HS.out h
        clear HS
        go_wp2_with (go_at_call 23; refine (alnum_any _ _).mono ?_; rintro e w1 ⟨rfl, hw1⟩; replace hw1 := hw1.symm; subst hw1)
        all_goals try (
          go_ret
          refine ⟨⟨false, rfl, ⟨fun h => (by cases h), fun c hc => ?_⟩⟩, rfl⟩
          have hn : ¬ an (s[k].toNat : Int) = true := by assumption
          rw [one_at hc k hkx, ← one_at hc 0 (by omega)] at hn
          exact absurd hA0 hn)
        all_goals (
          go_round
          case rel =>
            refine ⟨k + 1, hkx, by simp, HN ?_⟩
            clear HN
            unfold nb
            simp only [bne_eq_false_iff_eq, Bool.or_eq_true, beq_iff_eq] at *
            simp [*]
            try omega
          case measure =>
            show s.size - (((k : Int) + 1).toNat) < s.size - ((k : Int)).toNat
            omega)
      · have hkx' : ¬ (k : Int) < s.size := by omega
        obtain rfl : k = s.size := by omega
        have HA : ∀ b ∈ s.data.toList, nb b.toNat = true := by
          have := HS.out
          rwa [List.take_of_length_le (by rw [← Lib.size_eq]; omega)] at this
        go_wp2
        go_ret
        refine ⟨⟨true, rfl, ⟨fun _ => HA, fun c hc => ?_⟩⟩, rfl⟩
        rw [← one_at hc 0 (by omega)]
        exact hA0.symm
  · rename_i hl
    go_ret
    refine ⟨⟨false, rfl, ⟨fun h => (by cases h), fun c hc => ?_⟩⟩, rfl⟩
    rw [← one_at hc 0 (by omega)]
    simpa using hl
end Go.Proofs.Qxb6605882aFmt
