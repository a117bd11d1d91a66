/-
  THE PLAIN LAWS: the steps of Go's UTF-8 decoder over a list of bytes.
-/
import Derived.Lib.DecodeN
import Derived.Lib.RuneCount
import Derived.Lib.Join
namespace Go.Proofs.Qxb6608612aDoor
open Go.Lib

/-- the j-th byte, 0 beyond the end -/
def bt (l : List UInt8) (j : Nat) : Nat := (l.getD j 0).toNat
theorem bt_lt (l : List UInt8) (j : Nat) : bt l j < 256 := (l.getD j 0).toNat_lt
theorem bt_out (l : List UInt8) (j : Nat) (h : l.length ≤ j) : bt l j = 0 := by
  unfold bt; rw [List.getD_eq_getElem?_getD, List.getElem?_eq_none h]; rfl
theorem bt_take (l : List UInt8) (m j : Nat) (h : j < m) : bt (l.take m) j = bt l j := by
  unfold bt; rw [List.getD_eq_getElem?_getD, List.getD_eq_getElem?_getD, List.getElem?_take_of_lt h]
theorem bt_left (l e : List UInt8) (j : Nat) (h : j < l.length) : bt (l ++ e) j = bt l j := by
  unfold bt; rw [List.getD_eq_getElem?_getD, List.getD_eq_getElem?_getD, List.getElem?_append_left h]
theorem bt_right (l e : List UInt8) (j : Nat) (h : l.length ≤ j) : bt (l ++ e) j = bt e (j - l.length) := by
  unfold bt; rw [List.getD_eq_getElem?_getD, List.getD_eq_getElem?_getD, List.getElem?_append_right h]
theorem bt_drop (l : List UInt8) (i j : Nat) : bt (l.drop i) j = bt l (i + j) := by
  unfold bt; rw [List.getD_eq_getElem?_getD, List.getD_eq_getElem?_getD, List.getElem?_drop]

/-- the decoder's step -/
def W (l : List UInt8) : Nat := (decodeN l.length (bt l 0) (bt l 1) (bt l 2) (bt l 3)).2

abbrev C2 (n b0 b1 : Nat) : Prop := 194 ≤ b0 ∧ b0 ≤ 223 ∧ 2 ≤ n ∧ 128 ≤ b1 ∧ b1 ≤ 191
abbrev C3 (n b0 b1 b2 : Nat) : Prop := 224 ≤ b0 ∧ b0 ≤ 239 ∧ 3 ≤ n ∧ 128 ≤ b1 ∧ b1 ≤ 191 ∧ (b0 = 224 → 160 ≤ b1) ∧ (b0 = 237 → b1 ≤ 159) ∧ 128 ≤ b2 ∧ b2 ≤ 191
abbrev C4 (n b0 b1 b2 b3 : Nat) : Prop := 240 ≤ b0 ∧ b0 ≤ 244 ∧ 4 ≤ n ∧ 128 ≤ b1 ∧ b1 ≤ 191 ∧ (b0 = 240 → 144 ≤ b1) ∧ (b0 = 244 → b1 ≤ 143) ∧ 128 ≤ b2 ∧ b2 ≤ 191 ∧ 128 ≤ b3 ∧ b3 ≤ 191
/-- the step's width, plainly -/
def wOf (n b0 b1 b2 b3 : Nat) : Nat := if C2 n b0 b1 then 2 else if C3 n b0 b1 b2 then 3 else if C4 n b0 b1 b2 b3 then 4 else 1

set_option maxHeartbeats 4000000 in
theorem decodeN_wOf (n b0 b1 b2 b3 : Nat) (h0 : b0 < 256) (h1 : b1 < 256) (h2 : b2 < 256) (h3 : b3 < 256) : (decodeN n b0 b1 b2 b3).2 = wOf n b0 b1 b2 b3 := by
  unfold decodeN wOf C2 C3 C4
  repeat' split
  all_goals first | rfl | (exfalso; omega)

theorem W_eq (l : List UInt8) : W l = wOf l.length (bt l 0) (bt l 1) (bt l 2) (bt l 3) :=
  decodeN_wOf _ _ _ _ _ (bt_lt _ _) (bt_lt _ _) (bt_lt _ _) (bt_lt _ _)
theorem wOf_spec (n b0 b1 b2 b3 : Nat) : (wOf n b0 b1 b2 b3 = 2 ∧ C2 n b0 b1) ∨ (wOf n b0 b1 b2 b3 = 3 ∧ C3 n b0 b1 b2) ∨ (wOf n b0 b1 b2 b3 = 4 ∧ C4 n b0 b1 b2 b3) ∨ (wOf n b0 b1 b2 b3 = 1 ∧ ¬ C2 n b0 b1 ∧ ¬ C3 n b0 b1 b2 ∧ ¬ C4 n b0 b1 b2 b3) := by
  unfold wOf
  by_cases c2 : C2 n b0 b1
  · rw [if_pos c2]; exact .inl ⟨rfl, c2⟩
  · rw [if_neg c2]
    by_cases c3 : C3 n b0 b1 b2
    · rw [if_pos c3]; exact .inr (.inl ⟨rfl, c3⟩)
    · rw [if_neg c3]
      by_cases c4 : C4 n b0 b1 b2 b3
      · rw [if_pos c4]; exact .inr (.inr (.inl ⟨rfl, c4⟩))
      · rw [if_neg c4]; exact .inr (.inr (.inr ⟨rfl, c2, c3, c4⟩))
theorem W_pos (l : List UInt8) : 1 ≤ W l ∧ W l ≤ 4 := by
  rw [W_eq]; rcases wOf_spec l.length (bt l 0) (bt l 1) (bt l 2) (bt l 3) with ⟨h, _⟩ | ⟨h, _⟩ | ⟨h, _⟩ | ⟨h, _⟩ <;> omega
theorem W_le (l : List UInt8) (h : l ≠ []) : W l ≤ l.length := by
  have : 0 < l.length := List.length_pos_iff.2 h
  rw [W_eq]
  rcases wOf_spec l.length (bt l 0) (bt l 1) (bt l 2) (bt l 3) with ⟨h, h2⟩ | ⟨h, h2⟩ | ⟨h, h2⟩ | ⟨h, _⟩
  · unfold C2 at h2; omega
  · unfold C3 at h2; omega
  · unfold C4 at h2; omega
  · omega

/-- the same bytes as far as the step goes: the same step -/
theorem wOf_same {n n' b0 b1 b2 b3 c1 c2 c3 : Nat}
    (h2 : C2 n b0 b1 ↔ C2 n' b0 c1) (h3 : C3 n b0 b1 b2 ↔ C3 n' b0 c1 c2) (h4 : C4 n b0 b1 b2 b3 ↔ C4 n' b0 c1 c2 c3) : wOf n' b0 c1 c2 c3 = wOf n b0 b1 b2 b3 := by
  rcases wOf_spec n b0 b1 b2 b3 with ⟨h, a⟩ | ⟨h, a⟩ | ⟨h, a⟩ | ⟨h, a, b, c⟩
  · rw [h]; unfold wOf; exact if_pos (h2.1 a)
  · rw [h]; unfold wOf
    have : ¬ C2 n' b0 c1 := fun x => by have := h2.2 x; unfold C2 at this; unfold C3 at a; omega
    rw [if_neg (show ¬ _ from this), if_pos (show _ from h3.1 a)]
  · rw [h]; unfold wOf
    have x2 : ¬ C2 n' b0 c1 := fun x => by have := h2.2 x; unfold C2 at this; unfold C4 at a; omega
    have x3 : ¬ C3 n' b0 c1 c2 := fun x => by have := h3.2 x; unfold C3 at this; unfold C4 at a; omega
    rw [if_neg (show ¬ _ from x2), if_neg (show ¬ _ from x3), if_pos (show _ from h4.1 a)]
  · rw [h]; unfold wOf
    rw [if_neg (show ¬ _ from fun x => a (h2.2 x)), if_neg (show ¬ _ from fun x => b (h3.2 x)), if_neg (show ¬ _ from fun x => c (h4.2 x))]

theorem w_C2 {n b0 b1 b2 b3 : Nat} (h : C2 n b0 b1) : wOf n b0 b1 b2 b3 = 2 := by unfold wOf; exact if_pos h
theorem w_C3 {n b0 b1 b2 b3 : Nat} (h : C3 n b0 b1 b2) : wOf n b0 b1 b2 b3 = 3 := by
  unfold wOf; rw [if_neg (by intro x; have := x.2.1; have := h.1; omega), if_pos h]
theorem w_C4 {n b0 b1 b2 b3 : Nat} (h : C4 n b0 b1 b2 b3) : wOf n b0 b1 b2 b3 = 4 := by
  unfold wOf; rw [if_neg (by intro x; have := x.2.1; have := h.1; omega), if_neg (by intro x; have := x.2.1; have := h.1; omega), if_pos h]
/-- cut behind the step: the same step -/
theorem W_take (l : List UInt8) (m : Nat) (h : W l ≤ m) : W (l.take m) = W l := by
  have hm := W_pos l
  rw [W_eq] at h hm
  rw [W_eq, W_eq, List.length_take]
  have t0 := bt_take l m 0
  have t1 := bt_take l m 1
  have t2 := bt_take l m 2
  have t3 := bt_take l m 3
  have u1 : m ≤ 1 → bt (l.take m) 1 = 0 := fun h => bt_out _ _ (by rw [List.length_take]; omega)
  have u2 : m ≤ 2 → bt (l.take m) 2 = 0 := fun h => bt_out _ _ (by rw [List.length_take]; omega)
  have u3 : m ≤ 3 → bt (l.take m) 3 = 0 := fun h => bt_out _ _ (by rw [List.length_take]; omega)
  rw [t0 (by omega)]
  generalize bt (l.take m) 1 = c1 at *
  generalize bt (l.take m) 2 = c2 at *
  generalize bt (l.take m) 3 = c3 at *
  generalize bt l 0 = b0 at *
  generalize bt l 1 = b1 at *
  generalize bt l 2 = b2 at *
  generalize bt l 3 = b3 at *
  generalize l.length = n at *
  clear t0
  refine wOf_same ⟨?_, ?_⟩ ⟨?_, ?_⟩ ⟨?_, ?_⟩
  · intro x
    rw [w_C2 x] at h
    obtain rfl := t1 (by omega)
    exact ⟨x.1, x.2.1, by have := x.2.2.1; omega, x.2.2.2⟩
  · intro x
    have hn : 2 ≤ min m n := x.2.2.1
    obtain rfl := t1 (by omega)
    exact ⟨x.1, x.2.1, by omega, x.2.2.2⟩
  · intro x
    rw [w_C3 x] at h
    obtain rfl := t1 (by omega)
    obtain rfl := t2 (by omega)
    exact ⟨x.1, x.2.1, by have := x.2.2.1; omega, x.2.2.2⟩
  · intro x
    have hn : 3 ≤ min m n := x.2.2.1
    obtain rfl := t1 (by omega)
    obtain rfl := t2 (by omega)
    exact ⟨x.1, x.2.1, by omega, x.2.2.2⟩
  · intro x
    rw [w_C4 x] at h
    obtain rfl := t1 (by omega)
    obtain rfl := t2 (by omega)
    obtain rfl := t3 (by omega)
    exact ⟨x.1, x.2.1, by have := x.2.2.1; omega, x.2.2.2⟩
  · intro x
    have hn : 4 ≤ min m n := x.2.2.1
    obtain rfl := t1 (by omega)
    obtain rfl := t2 (by omega)
    obtain rfl := t3 (by omega)
    exact ⟨x.1, x.2.1, by omega, x.2.2.2⟩

/-- more bytes behind a text that do not go on with a continuation byte: the same step -/
theorem W_append (l e : List UInt8) (hl : l ≠ []) (he : bt e 0 < 128 ∨ 191 < bt e 0) : W (l ++ e) = W l := by
  have hp : 0 < l.length := List.length_pos_iff.2 hl
  rw [W_eq, W_eq, List.length_append]
  have f0 := bt_left l e 0
  have f1 := bt_left l e 1
  have f2 := bt_left l e 2
  have f3 := bt_left l e 3
  have g1 : l.length = 1 → bt (l ++ e) 1 = bt e 0 := fun h => by rw [bt_right l e 1 (by omega), h]
  have g2 : l.length = 2 → bt (l ++ e) 2 = bt e 0 := fun h => by rw [bt_right l e 2 (by omega), h]
  have g3 : l.length = 3 → bt (l ++ e) 3 = bt e 0 := fun h => by rw [bt_right l e 3 (by omega), h]
  rw [f0 hp]
  generalize bt (l ++ e) 1 = c1 at *
  generalize bt (l ++ e) 2 = c2 at *
  generalize bt (l ++ e) 3 = c3 at *
  generalize bt l 0 = b0 at *
  generalize bt l 1 = b1 at *
  generalize bt l 2 = b2 at *
  generalize bt l 3 = b3 at *
  generalize bt e 0 = e0 at *
  generalize l.length = n at *
  generalize e.length = m at *
  clear f0
  refine wOf_same ?_ ?_ ?_
  · constructor <;> intro x <;> unfold C2 at * <;> omega
  · constructor <;> intro x <;> unfold C3 at * <;> omega
  · constructor <;> intro x <;> unfold C4 at * <;> omega
end Go.Proofs.Qxb6608612aDoor
