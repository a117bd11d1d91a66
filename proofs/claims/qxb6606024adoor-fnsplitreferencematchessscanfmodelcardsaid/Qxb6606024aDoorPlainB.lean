/-
  PLAIN LAWS: the window, the sign and the digits, place by place.
-/
import Derived.Test.Qxb6606024aDoorPlain
namespace Go.Proofs.Qxb6606024aDoor
open Go.Lib
set_option linter.unusedSimpArgs false

theorem dropWhile_skip : ∀ l : List UInt8, l.dropWhile blk = l.drop (skip l)
  | [] => rfl
  | c :: l => by
    have ih := dropWhile_skip l
    unfold skip at ih ⊢
    by_cases h : blk c = true
    · simp [List.dropWhile_cons, List.takeWhile_cons, h, ih]
    · simp [List.dropWhile_cons, List.takeWhile_cons, h]
theorem skip_le (l : List UInt8) : skip l ≤ l.length := by
  unfold skip
  exact (List.takeWhile_sublist _).length_le
theorem skip_blank : ∀ (l : List UInt8) (j : Nat), j < skip l → ∃ c, l[j]? = some c ∧ blk c = true
  | [], j, h => by simp [skip] at h
  | c :: l, j, h => by
    unfold skip at h
    by_cases hb : blk c = true
    · rw [List.takeWhile_cons, if_pos hb] at h
      cases j with
      | zero => exact ⟨c, rfl, hb⟩
      | succ j =>
        have := skip_blank l j (by unfold skip; simpa using h)
        simpa using this
    · rw [List.takeWhile_cons, if_neg hb] at h
      simp at h
theorem skip_stop (l : List UInt8) (h : skip l < l.length) : blk l[skip l] = false := by
  have this := List.head?_dropWhile_not blk l
  rw [dropWhile_skip l, List.drop_eq_getElem_cons h] at this
  exact this
/-- the window's end -/
def lim (l : List UInt8) : Nat := min l.length (skip l + 30)

theorem win_get (l : List UInt8) (j : Nat) (h : j < 30) : (win l)[j]? = l[skip l + j]? := by
  unfold win
  rw [dropWhile_skip, List.getElem?_take_of_lt h, List.getElem?_drop]
theorem win_len (l : List UInt8) : (win l).length = lim l - skip l := by
  unfold win lim
  rw [dropWhile_skip, List.length_take, List.length_drop]
  omega
theorem win_head (l : List UInt8) : (win l).head? = l[skip l]? := by
  rw [List.head?_eq_getElem?, win_get l 0 (by omega)]; simp

theorem sgn_plus (l : List UInt8) (h : l[skip l]? = some 43) : sgn (win l) = 1 ∧ isNeg (win l) = false := by
  unfold sgn isNeg; rw [win_head, h]; simp
theorem sgn_minus (l : List UInt8) (h : l[skip l]? = some 45) : sgn (win l) = 1 ∧ isNeg (win l) = true := by
  unfold sgn isNeg; rw [win_head, h]; simp
theorem sgn_none (l : List UInt8) (h1 : l[skip l]? ≠ some 43) (h2 : l[skip l]? ≠ some 45) : sgn (win l) = 0 ∧ isNeg (win l) = false := by
  unfold sgn isNeg; rw [win_head]; simp [h1, h2]

theorem tw_at (p : UInt8 → Bool) : ∀ (y : List UInt8) (k : Nat) (h : k < (y.takeWhile p).length), y[k]? = some (y.takeWhile p)[k] ∧ p (y.takeWhile p)[k] = true
  | [], k, h => by simp at h
  | c :: y, k, h => by
    by_cases hc : p c = true
    · cases k with
      | zero => simp [List.takeWhile_cons, hc]
      | succ k =>
        have := tw_at p y k (by simpa [List.takeWhile_cons, hc] using h)
        simpa [List.takeWhile_cons, hc] using this
    · simp [List.takeWhile_cons, hc] at h
theorem tw_end (p : UInt8 → Bool) : ∀ (y : List UInt8), (y.takeWhile p).length < y.length → ∃ c, y[(y.takeWhile p).length]? = some c ∧ p c = false
  | [], h => by simp at h
  | c :: y, h => by
    by_cases hc : p c = true
    · have := tw_end p y (by simpa [List.takeWhile_cons, hc] using h)
      simpa [List.takeWhile_cons, hc] using this
    · exact ⟨c, by simp [List.takeWhile_cons, hc], by simpa using hc⟩

theorem digs_at (l : List UInt8) (k : Nat) (h : k < (digs l).length) :
    skip l + sgn (win l) + k < lim l ∧ l[skip l + sgn (win l) + k]? = some (digs l)[k] ∧ dig (digs l)[k] = true := by
  have h2 := tw_at dig ((win l).drop (sgn (win l))) k h
  have h3 : (digs l).length ≤ ((win l).drop (sgn (win l))).length := (List.takeWhile_sublist _).length_le
  rw [List.length_drop, win_len] at h3
  rw [List.getElem?_drop] at h2
  have hl : lim l ≤ skip l + 30 := by unfold lim; omega
  rw [win_get l _ (by omega), ← Nat.add_assoc] at h2
  exact ⟨by omega, h2.1, h2.2⟩
theorem digs_end (l : List UInt8) (h : skip l + sgn (win l) + (digs l).length < lim l) : ∃ c, l[skip l + sgn (win l) + (digs l).length]? = some c ∧ dig c = false := by
  have h1 : (digs l).length < ((win l).drop (sgn (win l))).length := by rw [List.length_drop, win_len]; omega
  obtain ⟨c, h2, h3⟩ := tw_end dig ((win l).drop (sgn (win l))) h1
  have hl : lim l ≤ skip l + 30 := by unfold lim; omega
  rw [List.getElem?_drop] at h2
  refine ⟨c, ?_, h3⟩
  change (win l)[sgn (win l) + (digs l).length]? = some c at h2
  rw [win_get l _ (by omega), ← Nat.add_assoc] at h2
  exact h2
theorem digs_lim (l : List UInt8) (h : skip l + sgn (win l) ≤ lim l) : skip l + sgn (win l) + (digs l).length ≤ lim l := by
  have h3 : (digs l).length ≤ ((win l).drop (sgn (win l))).length := (List.takeWhile_sublist _).length_le
  rw [List.length_drop, win_len] at h3
  omega
theorem digs_30 (l : List UInt8) : (digs l).length ≤ 30 := by
  have h3 : (digs l).length ≤ ((win l).drop (sgn (win l))).length := (List.takeWhile_sublist _).length_le
  rw [List.length_drop, win_len] at h3
  have hl : lim l ≤ skip l + 30 := by unfold lim; omega
  omega
theorem val_next (ds : List UInt8) (k : Nat) (h : k < ds.length) : val (ds.take (k + 1)) = 10 * val (ds.take k) + dv ds[k] := by
  rw [List.take_succ_eq_append_getElem h, val_snoc]
theorem dv_int {c : UInt8} (h : dig c = true) : (48 : Int) ≤ (c.toNat : Int) ∧ (c.toNat : Int) ≤ 57 ∧ ((dv c : Nat) : Int) = (c.toNat : Int) - 48 ∧ dv c ≤ 9 := by
  unfold dig at h
  simp [UInt8.le_iff_toNat_le] at h
  unfold dv
  omega
theorem dig_no {c : UInt8} (h : dig c = false) : (c.toNat : Int) < 48 ∨ (57 : Int) < (c.toNat : Int) := by
  unfold dig at h
  simp [UInt8.le_iff_toNat_le] at h
  by_cases hc : 48 ≤ c.toNat
  · right; have := h hc; omega
  · left; omega
end Go.Proofs.Qxb6606024aDoor
