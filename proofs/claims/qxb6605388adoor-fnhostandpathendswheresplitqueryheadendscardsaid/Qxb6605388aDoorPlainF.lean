/-
  PLAIN LAWS on "://", '@' and '?'.
-/
import Derived.Test.Qxb6605388aDoorPlainD
import Derived.Lib.IndexMore
namespace Go.Proofs.Qxb6605388aDoor
open Go.Lib

/-- the place just behind the first "://", or 0 -/
def schemeN (l : List UInt8) : Nat := if index l [58, 47, 47] < 0 then 0 else (index l [58, 47, 47]).toNat + 3

theorem occ3 (l : List UInt8) (k : Nat) : occAt l [58, 47, 47] k = true ↔ l[k]? = some 58 ∧ l[k + 1]? = some 47 ∧ l[k + 2]? = some 47 := by
  unfold occAt
  have e0 : l[k]? = (l.drop k)[0]? := by simp
  have e1 : l[k + 1]? = (l.drop k)[1]? := by simp
  have e2 : l[k + 2]? = (l.drop k)[2]? := by simp
  rw [e0, e1, e2]
  generalize l.drop k = x
  match x with
  | [] => simp
  | [a] => simp [List.isPrefixOf]
  | [a, b] => simp [List.isPrefixOf]
  | a :: b :: c :: x => simp [List.isPrefixOf]; constructor <;> (rintro ⟨rfl, rfl, rfl⟩; simp)

theorem scheme_hit (l : List UInt8) (k : Nat) (hn : NoOcc l [58, 47, 47] k) (h0 : l[k]? = some 58) (h1 : l[k + 1]? = some 47) (h2 : l[k + 2]? = some 47) : schemeN l = k + 3 ∧ index l [58, 47, 47] = k := by
  have hl : k ≤ l.length := by
    rcases Nat.lt_or_ge l.length k with h | h
    · rw [List.getElem?_eq_none (by omega)] at h0; cases h0
    · exact h
  have e := index_hit hn hl ((occ3 l k).2 ⟨h0, h1, h2⟩)
  exact ⟨by unfold schemeN; rw [e, if_neg (by omega)]; simp, e⟩
theorem scheme_miss (l : List UInt8) (k : Nat) (hn : NoOcc l [58, 47, 47] k) (h : l.length < k + 3) : schemeN l = 0 := by
  have e := index_past (s := l) (sub := [58, 47, 47]) (by simp) hn (by simpa using h)
  unfold schemeN; rw [e]; rfl
theorem scheme_step (l : List UInt8) (k : Nat) (hn : NoOcc l [58, 47, 47] k) (h : ¬ (l[k]? = some 58 ∧ l[k + 1]? = some 47 ∧ l[k + 2]? = some 47)) : NoOcc l [58, 47, 47] (k + 1) :=
  hn.succ (by
    cases e : occAt l [58, 47, 47] k with
    | false => rfl
    | true => exact absurd ((occ3 l k).1 e) h)

/-- either none, or at k: the three bytes, and what schemeN is -/
theorem scheme_cases (l : List UInt8) : (index l [58, 47, 47] = -1 ∧ schemeN l = 0) ∨ (∃ k : Nat, index l [58, 47, 47] = k ∧ schemeN l = k + 3 ∧ k + 3 ≤ l.length ∧ l[k]? = some 58 ∧ l[k + 1]? = some 47 ∧ l[k + 2]? = some 47) := by
  rcases index_spec l [58, 47, 47] with ⟨h, _⟩ | ⟨i, h, _, ho, _⟩
  · exact .inl ⟨h, by unfold schemeN; rw [h]; rfl⟩
  · have hr := index_room l [58, 47, 47] (by omega)
    have := (occ3 l i).1 ho
    exact .inr ⟨i, h, by unfold schemeN; rw [h, if_neg (by omega)]; simp, by simp at hr; omega, this⟩

/-- where the first "://" does not begin behind the first '?', it ends ahead of it -/
theorem scheme_before (l : List UInt8) (q : Nat) (hq : indexByte l 63 = q) (h : schemeN l ≤ q + 3) : schemeN l ≤ q := by
  rcases scheme_cases l with ⟨_, e⟩ | ⟨k, _, e, _, h0, h1, h2⟩
  · omega
  · have hc := (indexByte_some hq).1
    have n0 : q ≠ k := fun x => by subst x; rw [hc] at h0; simp at h0
    have n1 : q ≠ k + 1 := fun x => by subst x; rw [hc] at h1; simp at h1
    have n2 : q ≠ k + 2 := fun x => by subst x; rw [hc] at h2; simp at h2
    omega

/-- what hostAndPath's bounds are worth -/
structure HP (l : List UInt8) (st en : Nat) : Prop where
  lo : schemeN l ≤ st
  hi : st ≤ l.length
  edge : st = schemeN l ∨ (0 < st ∧ l[st - 1]? = some 64)
  stop : (indexByte (l.drop st) 63 = -1 ∧ en = l.length) ∨ (∃ i : Nat, indexByte (l.drop st) 63 = i ∧ en = st + i)

theorem hp_none {l : List UInt8} {st en : Nat} (h : HP l st en) (hq : indexByte l 63 = -1) : en = l.length ∧ st ≤ en := by
  rcases h.stop with ⟨_, e⟩ | ⟨i, e, _⟩
  · exact ⟨e, by rw [e]; exact h.hi⟩
  · have h1 := (indexByte_some e).1
    rw [List.getElem?_drop] at h1
    exact absurd h1 (indexByte_none hq _)

theorem hp_some {l : List UInt8} {st en q : Nat} (h : HP l st en) (hq : indexByte l 63 = q) (ha : ∀ j, q < j → l[j]? ≠ some 64) (hp : schemeN l ≤ q + 3) : en = q ∧ st ≤ q := by
  have hb := scheme_before l q hq hp
  obtain ⟨hc, hn⟩ := indexByte_some hq
  have hst : st ≤ q := by
    rcases h.edge with e | ⟨h0, e⟩
    · omega
    · have n1 : ¬ q < st - 1 := fun x => ha _ x e
      have n2 : st - 1 ≠ q := fun x => by rw [x, hc] at e; simp at e
      omega
  have e : indexByte (l.drop st) 63 = ((q - st : Nat) : Int) := by
    refine ib_hit _ _ _ ?_ ?_
    · rw [List.getElem?_drop, show st + (q - st) = q by omega]; exact hc
    · intro j hj; rw [List.getElem?_drop]; exact hn _ (by omega)
  rcases h.stop with ⟨e2, _⟩ | ⟨i, e2, e3⟩
  · rw [e] at e2; omega
  · rw [e] at e2; exact ⟨by omega, hst⟩

end Go.Proofs.Qxb6605388aDoor
