/-
  THE PLAIN LAWS: strtol's reading, the first colon outside parentheses; lists of bytes; no Go in sight.
-/
import Derived.Lib.IndexLaws
namespace Go.Proofs.Qxb6606024aDoor
open Go.Lib

/-! ### the first place of a byte -/
theorem ib_hit : ∀ (l : List UInt8) (c : UInt8) (k : Nat), l[k]? = some c → (∀ j, j < k → l[j]? ≠ some c) → indexByte l c = k
  | [], c, k, h, _ => by simp at h
  | b :: l, c, 0, h, _ => by
    have : b = c := by simpa using h
    subst this
    simp [indexByte]
  | b :: l, c, k + 1, h, hn => by
    have hb : ¬ b = c := by have := hn 0 (by omega); simpa using this
    have ih := ib_hit l c k (by simpa using h) (fun j hj => by have := hn (j + 1) (by omega); simpa using this)
    simp only [indexByte, ih]
    rw [if_neg (by simpa using hb), if_neg (by simp)]
    omega
theorem ib_cases (l : List UInt8) (c : UInt8) : (indexByte l c = -1 ∧ ∀ j : Nat, l[j]? ≠ some c) ∨ (∃ k : Nat, indexByte l c = k ∧ k < l.length ∧ l[k]? = some c ∧ ∀ j, j < k → l[j]? ≠ some c) := by
  have hge := indexByte_ge l c
  by_cases h : indexByte l c = -1
  · exact .inl ⟨h, indexByte_none h⟩
  · obtain ⟨k, hk⟩ : ∃ k : Nat, indexByte l c = k := ⟨(indexByte l c).toNat, by omega⟩
    obtain ⟨h1, h2⟩ := indexByte_some hk
    have hlt : k < l.length := by
      rcases Nat.lt_or_ge k l.length with h | h
      · exact h
      · rw [List.getElem?_eq_none h] at h1; cases h1
    exact .inr ⟨k, hk, hlt, h1, h2⟩

/-! ### strtol's reading -/
def blk (c : UInt8) : Bool := c == 32 || c == 9 || c == 10 || c == 11 || c == 12 || c == 13
def dig (c : UInt8) : Bool := 48 ≤ c && c ≤ 57
def dv (c : UInt8) : Nat := c.toNat - 48
def val (ds : List UInt8) : Nat := ds.foldl (fun a c => 10 * a + dv c) 0
theorem val_snoc (ds : List UInt8) (c : UInt8) : val (ds ++ [c]) = 10 * val ds + dv c := by unfold val; rw [List.foldl_append]; rfl

/-- a long's bounds -/
def clampI (neg : Bool) (v : Nat) : Int := if neg then max (-9223372036854775808) (-(v : Int)) else min 9223372036854775807 (v : Int)
/-- cut to 32 bits -/
def cut32 (x : Int) : Int := (x + 2147483648) % 4294967296 - 2147483648

def sgn (x : List UInt8) : Nat := if x.head? = some 43 ∨ x.head? = some 45 then 1 else 0
def isNeg (x : List UInt8) : Bool := decide (x.head? = some 45)
/-- the bytes of the window -/
def win (l : List UInt8) : List UInt8 := (l.dropWhile blk).take 30
def digs (l : List UInt8) : List UInt8 := ((win l).drop (sgn (win l))).takeWhile dig
def skip (l : List UInt8) : Nat := (l.takeWhile blk).length
def scanN (l : List UInt8) : Nat := if digs l = [] then 0 else skip l + sgn (win l) + (digs l).length
def scanV (l : List UInt8) : Int := if digs l = [] then 0 else cut32 (clampI (isNeg (win l)) (val (digs l)))

theorem clamp_neg_step (v d : Nat) (hd : d ≤ 9) (L : Int) (h : L = clampI true v) :
    (L < (-9223372036854775808 + (d : Int)).tdiv 10 → clampI true (10 * v + d) = -9223372036854775808) ∧ (¬ L < (-9223372036854775808 + (d : Int)).tdiv 10 → clampI true (10 * v + d) = L * 10 - d ∧ -9223372036854775808 ≤ L * 10 - d) := by
  subst h
  unfold clampI
  simp only [if_true]
  have e : (-9223372036854775808 + (d : Int)).tdiv 10 = -((9223372036854775808 - (d : Int)) / 10) := by
    have : (-9223372036854775808 + (d : Int)) = -(9223372036854775808 - (d : Int)) := by omega
    rw [this, Int.neg_tdiv, Int.tdiv_eq_ediv_of_nonneg (by omega)]
  rw [e]
  omega
theorem clamp_pos_step (v d : Nat) (hd : d ≤ 9) (L : Int) (h : L = clampI false v) :
    ((9223372036854775807 - (d : Int)).tdiv 10 < L → clampI false (10 * v + d) = 9223372036854775807) ∧ (¬ (9223372036854775807 - (d : Int)).tdiv 10 < L → clampI false (10 * v + d) = L * 10 + d ∧ L * 10 + d ≤ 9223372036854775807) := by
  subst h
  unfold clampI
  have e : (9223372036854775807 - (d : Int)).tdiv 10 = (9223372036854775807 - (d : Int)) / 10 := Int.tdiv_eq_ediv_of_nonneg (by omega)
  rw [e]
  simp only [Bool.false_eq_true, if_false]
  omega
theorem clamp_pos_step2 (v d : Nat) (hd : d ≤ 9) (L : Int) (h : L = clampI false v) :
    ((9223372036854775807 - (d : Int)) / 10 < L → clampI false (10 * v + d) = 9223372036854775807) ∧ (¬ (9223372036854775807 - (d : Int)) / 10 < L → clampI false (10 * v + d) = L * 10 + d ∧ L * 10 + d ≤ 9223372036854775807) := by
  subst h
  unfold clampI
  simp only [Bool.false_eq_true, if_false]
  omega
theorem clamp_bounds (n : Bool) (v : Nat) : -9223372036854775808 ≤ clampI n v ∧ clampI n v ≤ 9223372036854775807 ∧ (n = false → 0 ≤ clampI n v) ∧ (n = true → clampI n v ≤ 0) := by
  unfold clampI; cases n <;> simp <;> omega

/-! ### the first colon outside parentheses -/
def par (c : UInt8) : Int := if c = 40 then 1 else if c = 41 then -1 else 0
def firstC : Int → List UInt8 → Option Nat
  | _, [] => none
  | d, c :: l => if c = 58 ∧ d = 0 then some 0 else (firstC (d + par c) l).map (· + 1)
def depth (l : List UInt8) : Int := (l.count 40 : Int) - (l.count 41 : Int)

theorem depth_cons (c : UInt8) (l : List UInt8) : depth (c :: l) = par c + depth l := by
  unfold depth par
  simp only [List.count_cons]
  by_cases h0 : c = 40
  · subst h0; simp; omega
  · by_cases h1 : c = 41
    · subst h1; simp; omega
    · simp [h0, h1]
theorem depth_snoc (c : UInt8) (l : List UInt8) : depth (l ++ [c]) = depth l + par c := by
  unfold depth par
  simp only [List.count_append, List.count_singleton]
  by_cases h0 : c = 40
  · subst h0; simp; omega
  · by_cases h1 : c = 41
    · subst h1; simp; omega
    · simp [h0, h1]

/-- no colon: none -/
theorem firstC_none : ∀ (l : List UInt8) (d : Int), (∀ j : Nat, l[j]? ≠ some 58) → firstC d l = none
  | [], _, _ => rfl
  | c :: l, d, h => by
    have hc : c ≠ 58 := by have := h 0; simpa using this
    rw [firstC, if_neg (fun x => hc x.1), firstC_none l _ (fun j => by have := h (j + 1); simpa using this)]
    rfl
/-- over k bytes that are no colons -/
theorem firstC_jump : ∀ (k : Nat) (l : List UInt8) (d : Int), k ≤ l.length → (∀ j : Nat, j < k → l[j]? ≠ some 58) → firstC d l = (firstC (d + depth (l.take k)) (l.drop k)).map (· + k)
  | 0, l, d, _, _ => by simp [depth]
  | k + 1, [], d, hl, _ => by simp at hl
  | k + 1, c :: l, d, hl, h => by
    have hc : c ≠ 58 := by have := h 0 (by omega); simpa using this
    have ih := firstC_jump k l (d + par c) (by simpa using hl) (fun j hj => by have := h (j + 1) (by omega); simpa using this)
    rw [firstC, if_neg (fun x => hc x.1), ih, List.take_succ_cons, List.drop_succ_cons, depth_cons, Option.map_map]
    rw [show d + par c + depth (l.take k) = d + (par c + depth (l.take k)) by omega]
    rfl
theorem firstC_step (c : UInt8) (l : List UInt8) (d : Int) (h : ¬ (c = 58 ∧ d = 0)) : firstC d (c :: l) = (firstC (d + par c) l).map (· + 1) := by
  rw [firstC, if_neg h]
theorem firstC_at (l : List UInt8) : firstC 0 (58 :: l) = some 0 := by rw [firstC, if_pos ⟨rfl, rfl⟩]

/-! ### what splitReference gives -/
structure Ref where
  at_ : Nat
  off : Int
  len : Int
def lenAt (l : List UInt8) (p : Nat) : Int :=
  if (l.drop p).head? = some 58 then (if 0 < scanN (l.drop (p + 1)) then scanV (l.drop (p + 1)) else 2147483647) else 2147483647
def refAt (l : List UInt8) (i : Nat) : Ref :=
  if scanN (l.drop (i + 1)) = 0 then ⟨i, 0, 2147483647⟩ else ⟨i, scanV (l.drop (i + 1)), lenAt l (i + 1 + scanN (l.drop (i + 1)))⟩
def splitR (l : List UInt8) : Ref := match firstC 0 l with
  | none => ⟨l.length, 0, 2147483647⟩
  | some i => refAt l i

end Go.Proofs.Qxb6606024aDoor
