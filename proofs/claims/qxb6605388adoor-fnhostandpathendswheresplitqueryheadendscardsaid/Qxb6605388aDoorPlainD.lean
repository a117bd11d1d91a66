/-
  PLAIN LAWS for the look-ahead cut's loop.
-/
import Derived.Test.Qxb6605388aDoorPlain
namespace Go.Proofs.Qxb6605388aDoor
open Go.Lib

theorem drop_cons (l : List UInt8) (j : Nat) (h : j < l.length) : l.drop j = l[j] :: l.drop (j + 1) := List.drop_eq_getElem_cons h
theorem part_snoc (l : List UInt8) (f j : Nat) (hf : f ≤ j) (h : j < l.length) : (l.drop f).take (j - f) ++ [l[j]] = (l.drop f).take (j + 1 - f) := by
  rw [show j + 1 - f = (j - f) + 1 by omega, List.take_succ_eq_append_getElem (by simp; omega)]
  simp [show f + (j - f) = j by omega]

theorem cut_other (acc l : List UInt8) (c : UInt8) (h : c ≠ 38) : cut acc (c :: l) = cut (acc ++ [c]) l := by
  rw [cut, if_neg (fun x => h x.1)]
theorem cut_yes (acc l : List UInt8) (h : 0 ≤ indexByte (l.takeWhile (· ≠ 38)) 61) : cut acc (38 :: l) = acc :: cut [] l := by
  rw [cut, if_pos ⟨rfl, h⟩]
theorem cut_no (acc l : List UInt8) (h : ¬ 0 ≤ indexByte (l.takeWhile (· ≠ 38)) 61) : cut acc (38 :: l) = cut (acc ++ [38]) l := by
  rw [cut, if_neg (fun x => h x.2)]

theorem ib_snoc (x : List UInt8) (c d : UInt8) : decide (0 ≤ indexByte (x ++ [c]) d) = (decide (0 ≤ indexByte x d) || decide (c = d)) := by
  rcases ib_cases x d with ⟨h, hn⟩ | ⟨k, h, _, _, _⟩
  · by_cases e : c = d
    · subst e
      have : indexByte (x ++ [c]) c = (x.length : Nat) := ib_hit _ _ _ (by simp) (fun j hj => by rw [List.getElem?_append_left hj]; exact hn j)
      rw [this]; simp
    · have : indexByte (x ++ [c]) d = -1 := ib_append_miss _ _ _ h (by simp [indexByte, e])
      rw [this, h]; simp [e]
  · rw [ib_append_hit x [c] d k h, h]; simp

theorem takeWhile_upto (l : List UInt8) (k : Nat) (hn : ∀ i, i < k → l[i]? ≠ some 38) (he : l.length ≤ k ∨ l[k]? = some 38) : l.takeWhile (· ≠ 38) = l.take k := by
  induction l generalizing k with
  | nil => simp
  | cons c l ih =>
    cases k with
    | zero =>
      rcases he with h | h
      · simp at h
      · have : c = 38 := by simpa using h
        subst this; simp
    | succ k =>
      have hc : c ≠ 38 := by have := hn 0 (by omega); simpa using this
      have := ih k (fun i hi => by have := hn (i + 1) (by omega); simpa using this) (by simpa using he)
      rw [List.take_succ_cons, ← this]
      simp [hc]

/-- the loop's word: what has been cut off, and what is still to come, make up the whole cut -/
def Mid (l : List UInt8) (L : List ByteArray) (f j : Nat) : Prop :=
  L.map (·.data.toList) ++ cut ((l.drop f).take (j - f)) (l.drop j) = cut [] l

theorem mid_zero (l : List UInt8) : Mid l [] 0 0 := by unfold Mid; simp
theorem mid_other {l : List UInt8} {L : List ByteArray} {f j : Nat} (h : Mid l L f j) (hf : f ≤ j) (hj : j < l.length) (hc : l[j] ≠ 38) : Mid l L f (j + 1) := by
  unfold Mid at h ⊢
  rw [drop_cons l j hj, cut_other _ _ _ hc, part_snoc l f j hf hj] at h
  exact h
theorem mid_no {l : List UInt8} {L : List ByteArray} {f j : Nat} (h : Mid l L f j) (hf : f ≤ j) (hj : j < l.length) (hc : l[j] = 38) (hn : ¬ 0 ≤ indexByte ((l.drop (j + 1)).takeWhile (· ≠ 38)) 61) : Mid l L f (j + 1) := by
  unfold Mid at h ⊢
  have e := part_snoc l f j hf hj
  rw [hc] at e
  rw [drop_cons l j hj, hc, cut_no _ _ hn, e] at h
  exact h
theorem mid_yes {l : List UInt8} {L : List ByteArray} {f j : Nat} {x : ByteArray} (h : Mid l L f j) (hj : j < l.length) (hc : l[j] = 38) (hn : 0 ≤ indexByte ((l.drop (j + 1)).takeWhile (· ≠ 38)) 61) (hx : x.data.toList = (l.drop f).take (j - f)) : Mid l (L ++ [x]) (j + 1) (j + 1) := by
  unfold Mid at h ⊢
  rw [drop_cons l j hj, hc, cut_yes _ _ hn] at h
  rw [List.map_append, List.append_assoc, Nat.sub_self, List.take_zero]
  simpa [hx] using h
theorem mid_end {l : List UInt8} {L : List ByteArray} {f : Nat} {x : ByteArray} (h : Mid l L f l.length) (hx : x.data.toList = l.drop f) : (L ++ [x]).map (·.data.toList) = settings l := by
  unfold Mid at h
  rw [List.drop_of_length_le (Nat.le_refl _), cut, cut_settings] at h
  rw [← h, List.map_append, List.take_of_length_le (by simp)]
  simp [hx]
theorem mid_end_B {r : ByteArray} {L : List ByteArray} {f : Nat} (h : Mid r.data.toList L f r.size) : L ++ [r.extract f r.size] = settingsB r := by
  apply bas_ext
  rw [settingsB_data]
  exact mid_end h (extract_to_end r f)

/-- does an '=' stand among the bytes from a on, up to k? -/
def eqB (l : List UInt8) (a k : Nat) : Bool := decide (0 ≤ indexByte ((l.drop a).take (k - a)) 61)
theorem eqB_start (l : List UInt8) (a : Nat) : eqB l a a = false := by
  unfold eqB; rw [Nat.sub_self, List.take_zero]; rfl
theorem eqB_next (l : List UInt8) (a k : Nat) (ha : a ≤ k) (hk : k < l.length) : eqB l a (k + 1) = (eqB l a k || decide (l[k] = 61)) := by
  unfold eqB
  rw [← part_snoc l a k ha hk, ib_snoc]
theorem eqB_hit (l : List UInt8) (a k : Nat) (ha : a ≤ k) (hk : k < l.length) (h : l[k] = 61) : eqB l a (k + 1) = true := by
  rw [eqB_next l a k ha hk]; simp [h]
theorem eqB_miss (l : List UInt8) (a k : Nat) (ha : a ≤ k) (hk : k < l.length) (h : l[k] ≠ 61) : eqB l a (k + 1) = eqB l a k := by
  rw [eqB_next l a k ha hk]; simp [h]
theorem eqB_end (l : List UInt8) (a k : Nat) (hn : ∀ i, i < k - a → (l.drop a)[i]? ≠ some 38) (he : l.length ≤ k ∨ (a ≤ k ∧ l[k]? = some 38)) :
    eqB l a k = decide (0 ≤ indexByte ((l.drop a).takeWhile (· ≠ 38)) 61) := by
  unfold eqB
  rw [takeWhile_upto (l.drop a) (k - a) hn]
  rcases he with h | ⟨ha, h⟩
  · left; simp; omega
  · right; rw [List.getElem?_drop, show a + (k - a) = k by omega]; exact h
theorem extract_part (r : ByteArray) (f j : Nat) : (r.extract f j).data.toList = (r.data.toList.drop f).take (j - f) := by
  rw [extract_data]

end Go.Proofs.Qxb6605388aDoor
