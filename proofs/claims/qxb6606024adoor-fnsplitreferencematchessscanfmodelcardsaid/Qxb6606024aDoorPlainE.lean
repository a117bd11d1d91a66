/-
  PLAIN LAWS for the model's reading: an unsigned magnitude with an overflow flag; the scan from a place on.
-/
import Derived.Test.Qxb6606024aDoorPlainC
namespace Go.Proofs.Qxb6606024aDoor
open Go.Lib

/-- the magnitude kept, and whether it has overflown -/
def MagIs (v : Nat) (over : Bool) (mag : Int) : Prop := 0 ≤ mag ∧ mag ≤ 18446744073709551615 ∧ (over = false → mag = v) ∧ (over = true → 18446744073709551616 ≤ (v : Int))

theorem mag_zero : MagIs (val []) false 0 := by
  unfold MagIs
  refine ⟨by omega, by omega, fun _ => rfl, fun x => (by cases x)⟩
theorem mag_over {v : Nat} {mag : Int} (d : Nat) (h : MagIs v true mag) : MagIs (10 * v + d) true mag := by
  unfold MagIs at *
  refine ⟨h.1, h.2.1, fun x => (by cases x), fun _ => by have := h.2.2.2 rfl; omega⟩
theorem mag_jump {v d : Nat} {mag : Int} (h : MagIs v false mag) (ht : (18446744073709551615 - (d : Int)) / 10 < mag) : MagIs (10 * v + d) true mag := by
  unfold MagIs at *
  have e := h.2.2.1 rfl
  refine ⟨h.1, h.2.1, fun x => (by cases x), fun _ => by omega⟩
theorem mag_step {v d : Nat} {mag : Int} (h : MagIs v false mag) (hd : d ≤ 9) (ht : ¬ (18446744073709551615 - (d : Int)) / 10 < mag) : MagIs (10 * v + d) false (mag * 10 + d) ∧ mag * 10 + d ≤ 18446744073709551615 := by
  unfold MagIs at *
  have e := h.2.2.1 rfl
  have := h.1
  refine ⟨⟨by omega, by omega, fun _ => by omega, fun x => (by cases x)⟩, by omega⟩

/-- what the last switch makes of them -/
theorem mag_pos_big {v : Nat} {over : Bool} {mag : Int} (h : MagIs v over mag) (ht : over = true ∨ 9223372036854775807 < mag) : cut32 (clampI false v) = -1 := by
  unfold MagIs at h
  have : 9223372036854775807 ≤ (v : Int) := by
    rcases ht with rfl | ht
    · have := h.2.2.2 rfl; omega
    · cases over with
      | false => have := h.2.2.1 rfl; omega
      | true => have := h.2.2.2 rfl; omega
  unfold clampI cut32
  simp only [Bool.false_eq_true, if_false]
  omega
theorem mag_pos_small {v : Nat} {mag : Int} (h : MagIs v false mag) (ht : ¬ 9223372036854775807 < mag) : cut32 (clampI false v) = cut32 (mag % 4294967296) := by
  unfold MagIs at h
  have e := h.2.2.1 rfl
  unfold clampI cut32
  simp only [Bool.false_eq_true, if_false]
  omega
theorem mag_neg_big {v : Nat} {over : Bool} {mag : Int} (h : MagIs v over mag) (ht : over = true ∨ 9223372036854775808 < mag) : cut32 (clampI true v) = 0 := by
  unfold MagIs at h
  have : 9223372036854775808 ≤ (v : Int) := by
    rcases ht with rfl | ht
    · have := h.2.2.2 rfl; omega
    · cases over with
      | false => have := h.2.2.1 rfl; omega
      | true => have := h.2.2.2 rfl; omega
  unfold clampI cut32
  simp only [if_true]
  omega
theorem mag_neg_small {v : Nat} {mag : Int} (h : MagIs v false mag) (ht : ¬ 9223372036854775808 < mag) : cut32 (clampI true v) = cut32 ((-mag) % 18446744073709551616 % 4294967296) := by
  unfold MagIs at h
  have e := h.2.2.1 rfl
  unfold clampI cut32
  simp only [if_true]
  omega

/-! ### from a place on -/
theorem drop_get (l : List UInt8) (p j : Nat) : (l.drop p)[j]? = l[p + j]? := List.getElem?_drop
end Go.Proofs.Qxb6606024aDoor
