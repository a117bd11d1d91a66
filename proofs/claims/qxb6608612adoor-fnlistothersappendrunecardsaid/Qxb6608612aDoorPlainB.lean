/-
  PLAIN LAWS: the pieces of a text.
-/
import Derived.Test.Qxb6608612aDoorPlain
namespace Go.Proofs.Qxb6608612aDoor
open Go.Lib

def pcs : Nat → List UInt8 → List (List UInt8)
  | 0, _ => []
  | f + 1, l => if l = [] then [] else l.take (W l) :: pcs f (l.drop (W l))
def P (l : List UInt8) : List (List UInt8) := pcs l.length l

theorem pcs_fuel : ∀ (f g : Nat) (l : List UInt8), l.length ≤ f → l.length ≤ g → pcs f l = pcs g l
  | 0, g, l, hf, _ => by
    have : l = [] := List.eq_nil_of_length_eq_zero (by omega)
    subst this
    cases g <;> simp [pcs]
  | f + 1, 0, l, _, hg => by
    have : l = [] := List.eq_nil_of_length_eq_zero (by omega)
    subst this
    simp [pcs]
  | f + 1, g + 1, l, hf, hg => by
    by_cases h : l = []
    · simp [pcs, h]
    · have hw := W_pos l
      have hl : 0 < l.length := List.length_pos_iff.2 h
      rw [pcs, pcs, if_neg h, if_neg h, pcs_fuel f g (l.drop (W l)) (by rw [List.length_drop]; omega) (by rw [List.length_drop]; omega)]
theorem P_nil : P [] = [] := rfl
theorem P_cons (l : List UInt8) (h : l ≠ []) : P l = l.take (W l) :: P (l.drop (W l)) := by
  have hl : 0 < l.length := List.length_pos_iff.2 h
  have hw := W_pos l
  unfold P
  obtain ⟨f, hf⟩ : ∃ f, l.length = f + 1 := ⟨l.length - 1, by omega⟩
  rw [hf, pcs, if_neg h, pcs_fuel f _ (l.drop (W l)) (by rw [List.length_drop]; omega) (Nat.le_refl _)]
theorem P_ind {p : List UInt8 → Prop} (h0 : p []) (h1 : ∀ l, l ≠ [] → p (l.drop (W l)) → p l) : ∀ l, p l := by
  intro l
  induction hn : l.length using Nat.strongRecOn generalizing l with
  | ind n ih =>
    by_cases h : l = []
    · rw [h]; exact h0
    · have hw := W_pos l
      have hl : 0 < l.length := List.length_pos_iff.2 h
      exact h1 l h (ih (l.drop (W l)).length (by rw [List.length_drop]; omega) _ rfl)
theorem P_flat : ∀ l, (P l).flatten = l := by
  apply P_ind
  · rfl
  · intro l h ih
    rw [P_cons l h, List.flatten_cons, ih, List.take_append_drop]
theorem P_ne : ∀ l, ∀ x ∈ P l, x ≠ [] := by
  apply P_ind
  · intro x hx; simp [P_nil] at hx
  · intro l h ih x hx
    rw [P_cons l h] at hx
    have hw := W_pos l
    have hl : 0 < l.length := List.length_pos_iff.2 h
    rcases List.mem_cons.1 hx with rfl | hx
    · intro e
      have := congrArg List.length e
      rw [List.length_take, List.length_nil] at this
      omega
    · exact ih x hx
theorem P_empty (l : List UInt8) : P l = [] ↔ l = [] := by
  constructor
  · intro h
    have := P_flat l
    rw [h] at this
    exact this.symm
  · rintro rfl; rfl
theorem P_append (e : List UInt8) (he : bt e 0 < 128 ∨ 191 < bt e 0) : ∀ l, P (l ++ e) = P l ++ P e := by
  apply P_ind
  · rfl
  · intro l h ih
    have hl := W_le l h
    have hne : l ++ e ≠ [] := by simp [h]
    rw [P_cons (l ++ e) hne, W_append l e h he, P_cons l h, List.take_append_of_le_length hl, List.drop_append_of_le_length hl, ih]
    rfl
theorem P_one (e : List UInt8) (h : e ≠ []) (hw : W e = e.length) : P e = [e] := by
  rw [P_cons e h, hw, List.take_length, List.drop_length, P_nil]
/-- cut at a piece's edge -/
theorem P_edge : ∀ (A B : List (List UInt8)) (l : List UInt8), P l = A ++ B → P A.flatten = A ∧ P (l.drop A.flatten.length) = B ∧ l.take A.flatten.length = A.flatten
  | [], B, l, h => by simpa [P_nil] using h
  | a :: A, B, l, h => by
    have hne : l ≠ [] := by
      intro e; rw [e, P_nil] at h; simp at h
    have hw := W_pos l
    have hwl := W_le l hne
    rw [P_cons l hne, List.cons_append] at h
    obtain ⟨rfl, h2⟩ := List.cons.inj h
    obtain ⟨i1, i2, i3⟩ := P_edge A B (l.drop (W l)) h2
    have hlt : (l.take (W l)).length = W l := by rw [List.length_take]; omega
    have hk : l.take (W l) ++ A.flatten = l.take (W l + A.flatten.length) := by
      rw [List.take_add, i3]
    refine ⟨?_, ?_, ?_⟩
    · rw [List.flatten_cons]
      have hne2 : l.take (W l) ++ A.flatten ≠ [] := by
        intro e
        have := congrArg List.length e
        rw [List.length_append, hlt, List.length_nil] at this
        omega
      have hW : W (l.take (W l) ++ A.flatten) = W l := by rw [hk]; exact W_take l _ (by omega)
      rw [P_cons _ hne2, hW, List.take_append_of_le_length (by omega), List.take_of_length_le (by omega), List.drop_append_of_le_length (by omega), List.drop_of_length_le (by omega), List.nil_append, i1]
    · rw [List.flatten_cons, List.length_append, hlt, ← List.drop_drop]; exact i2
    · rw [List.flatten_cons, List.length_append, hlt, hk]

/-! ### the model's own decoder -/
theorem get_bt (s : ByteArray) (i : Nat) : (s.get! i).toNat = bt s.data.toList i := by
  unfold bt
  congr 1
  obtain ⟨⟨l⟩⟩ := s
  show (l.toArray)[i]! = l.getD i 0
  by_cases h : i < l.length
  · simp [h]
  · simp [h]
    rfl
theorem decode_W (s : ByteArray) (i : Nat) : (Utf8.decode s i).2 = W (s.data.toList.drop i) := by
  rw [decode_at, get_bt, get_bt, get_bt, get_bt]
  unfold W
  rw [bt_drop, bt_drop, bt_drop, bt_drop, List.length_drop]
  rfl
theorem runeCount_P (s : ByteArray) : runeCount s = (P s.data.toList).length := by
  have hlen : s.data.toList.length = s.size := rfl
  have key : ∀ (f pos : Nat), s.size - pos ≤ f → runeCountFrom s f pos = (P (s.data.toList.drop pos)).length := by
    intro f
    induction f with
    | zero =>
      intro pos h
      have : s.data.toList.drop pos = [] := List.drop_of_length_le (by omega)
      rw [this]; rfl
    | succ f ih =>
      intro pos h
      rw [runeCountFrom]
      by_cases hp : pos < s.size
      · have hne : s.data.toList.drop pos ≠ [] := by
          intro e
          have := congrArg List.length e
          rw [List.length_drop, List.length_nil] at this
          omega
        have hw := W_pos (s.data.toList.drop pos)
        rw [if_pos hp, decode_W, ih _ (by omega), P_cons _ hne, List.length_cons, List.drop_drop]
        omega
      · rw [if_neg hp]
        have : s.data.toList.drop pos = [] := List.drop_of_length_le (by omega)
        rw [this]; rfl
  have := key s.size 0 (by omega)
  rw [List.drop_zero] at this
  exact this
end Go.Proofs.Qxb6608612aDoor
