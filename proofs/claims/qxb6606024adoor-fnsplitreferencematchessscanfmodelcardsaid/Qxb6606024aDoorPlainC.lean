/-
  PLAIN LAWS: splitReference's loop.
-/
import Derived.Test.Qxb6606024aDoorPlainB
namespace Go.Proofs.Qxb6606024aDoor
open Go.Lib

/-- at place i, with P more '(' than ')' ahead of it: what is still to be found -/
def Mid (l : List UInt8) (i : Nat) (P : Int) : Prop := firstC 0 l = (firstC P (l.drop i)).map (· + i)

theorem mid_zero (l : List UInt8) : Mid l 0 0 := by
  unfold Mid
  rw [List.drop_zero]
  cases firstC 0 l <;> rfl
theorem mid_none {l : List UInt8} {i : Nat} {P : Int} (h : Mid l i P) (hn : indexByte (l.drop i) 58 = -1) : splitR l = ⟨l.length, 0, 2147483647⟩ := by
  unfold Mid at h
  rw [firstC_none _ _ (indexByte_none hn)] at h
  unfold splitR
  rw [h]
  rfl
theorem mid_end {l : List UInt8} {i : Nat} {P : Int} (h : Mid l i P) (hi : l.length ≤ i) : splitR l = ⟨l.length, 0, 2147483647⟩ := by
  unfold Mid at h
  rw [List.drop_of_length_le hi] at h
  unfold splitR
  rw [h]
  rfl
theorem mid_jump {l : List UInt8} {i k : Nat} {P : Int} (h : Mid l i P) (hk : indexByte (l.drop i) 58 = k) :
    firstC 0 l = (firstC (P + depth ((l.drop i).take k)) (58 :: l.drop (i + k + 1))).map (· + (i + k)) ∧ i + k < l.length := by
  obtain ⟨h1, h2⟩ := indexByte_some hk
  have hlt : k < (l.drop i).length := by
    rcases Nat.lt_or_ge k (l.drop i).length with h | h
    · exact h
    · rw [List.getElem?_eq_none h] at h1; cases h1
  unfold Mid at h
  rw [firstC_jump k (l.drop i) P (by omega) h2, Option.map_map, List.drop_drop] at h
  rw [List.getElem?_drop] at h1
  have hl : i + k < l.length := by rw [List.length_drop] at hlt; omega
  have e : l.drop (i + k) = 58 :: l.drop (i + k + 1) := by
    rw [List.drop_eq_getElem_cons hl]
    rw [List.getElem?_eq_getElem hl] at h1
    rw [Option.some.inj h1]
  rw [e] at h
  refine ⟨?_, hl⟩
  rw [h]
  congr 1
  funext x
  simp only [Function.comp]
  omega
theorem mid_hit {l : List UInt8} {i k : Nat} {P : Int} (h : Mid l i P) (hk : indexByte (l.drop i) 58 = k) (h0 : P + depth ((l.drop i).take k) = 0) : splitR l = refAt l (i + k) := by
  have := (mid_jump h hk).1
  rw [h0, firstC_at] at this
  unfold splitR
  rw [this]
  simp
theorem mid_next {l : List UInt8} {i k : Nat} {P : Int} (h : Mid l i P) (hk : indexByte (l.drop i) 58 = k) (h0 : P + depth ((l.drop i).take k) ≠ 0) : Mid l (i + k + 1) (P + depth ((l.drop i).take k)) := by
  have := (mid_jump h hk).1
  rw [firstC_step 58 _ _ (fun x => h0 x.2), Option.map_map] at this
  unfold Mid
  have hp : par 58 = 0 := by decide
  rw [this, hp, Int.add_zero]
  congr 1
  funext x
  simp only [Function.comp]
  omega
theorem depth_bound (l : List UInt8) : -(l.length : Int) ≤ depth l ∧ depth l ≤ (l.length : Int) := by
  unfold depth
  have h1 := List.count_le_length (a := (40 : UInt8)) (l := l)
  have h2 := List.count_le_length (a := (41 : UInt8)) (l := l)
  omega
theorem extract_part (r : ByteArray) (f j : Nat) : (r.extract f j).data.toList = (r.data.toList.drop f).take (j - f) := by
  rw [extract_data]
theorem ba_ext {a b : ByteArray} (h : a.data.toList = b.data.toList) : a = b := by
  obtain ⟨⟨a⟩⟩ := a
  obtain ⟨⟨b⟩⟩ := b
  simp at h
  rw [h]
theorem extract_all (s : ByteArray) : s.extract 0 s.size = s := by
  apply ba_ext
  rw [extract_part, Nat.sub_zero, List.drop_zero, List.take_of_length_le (by have : s.data.toList.length = s.size := rfl; omega)]

/-- the second number -/
theorem lenAt_no (l : List UInt8) (p : Nat) (h : hasPrefix (l.drop p) [58] = false) : lenAt l p = 2147483647 := by
  unfold lenAt
  rw [if_neg]
  intro e
  unfold hasPrefix at h
  cases hd : l.drop p with
  | nil => rw [hd] at e; simp at e
  | cons c t =>
    rw [hd] at e h
    have : c = 58 := by simpa using e
    subst this
    simp [List.isPrefixOf] at h
theorem lenAt_yes (l : List UInt8) (p : Nat) (h : hasPrefix (l.drop p) [58] = true) : lenAt l p = (if 0 < scanN (l.drop (p + 1)) then scanV (l.drop (p + 1)) else 2147483647) ∧ p < l.length := by
  unfold hasPrefix at h
  have hl : p < l.length := by
    rcases Nat.lt_or_ge p l.length with hl | hl
    · exact hl
    · rw [List.drop_of_length_le hl] at h; simp at h
  unfold lenAt
  rw [if_pos]
  · exact ⟨rfl, hl⟩
  cases hd : l.drop p with
  | nil => rw [hd] at h; simp at h
  | cons c t =>
    rw [hd] at h
    have : 58 = c := by simpa [List.isPrefixOf] using h
    subst this
    rfl
theorem scanN_le (l : List UInt8) : scanN l ≤ l.length := by
  unfold scanN
  split
  · omega
  · rename_i h
    have h1 : 0 < (digs l).length := List.length_pos_iff.2 h
    have := (digs_at l ((digs l).length - 1) (by omega)).1
    have hl : lim l ≤ l.length := by unfold lim; omega
    omega
theorem cut32_bounds (x : Int) : -2147483648 ≤ cut32 x ∧ cut32 x ≤ 2147483647 := by unfold cut32; omega
theorem scanV_bounds (l : List UInt8) : -2147483648 ≤ scanV l ∧ scanV l ≤ 2147483647 := by
  unfold scanV
  split
  · omega
  · exact cut32_bounds _

end Go.Proofs.Qxb6606024aDoor
