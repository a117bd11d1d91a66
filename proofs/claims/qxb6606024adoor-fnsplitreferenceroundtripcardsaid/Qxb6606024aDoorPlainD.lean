/-
  PLAIN LAWS: a number written out and read again.
-/
import Derived.Test.Qxb6606024aDoorPlainC
namespace Go.Proofs.Qxb6606024aDoor
open Go.Lib
set_option linter.unusedSimpArgs false

theorem fold_val : ∀ (ds : List UInt8) (a : Nat), ds.foldl (fun a c => 10 * a + dv c) a = a * 10 ^ ds.length + val ds
  | [], a => by simp [val]
  | c :: ds, a => by
    unfold val
    rw [List.foldl_cons, List.foldl_cons, fold_val ds, fold_val ds (10 * 0 + dv c), List.length_cons, Nat.pow_succ]
    rw [Nat.mul_zero, Nat.zero_add, Nat.add_mul, Nat.add_assoc, Nat.mul_comm 10 a, Nat.mul_assoc, Nat.mul_comm 10 (10 ^ ds.length)]
theorem val_cons (c : UInt8) (ds : List UInt8) : val (c :: ds) = dv c * 10 ^ ds.length + val ds := by
  show (ds.foldl _ (10 * 0 + dv c)) = _
  rw [fold_val]; simp

/-- the writing loop's word: n is what is still to be written, ahead of the digits ds -/
structure Wr (n0 x : Nat) (ds : List UInt8) : Prop where
  sum : n0 = x * 10 ^ ds.length + val ds
  all : ∀ c ∈ ds, dig c = true
  big : ds = [] ∨ 1 ≤ x
theorem wr_start (n : Nat) : Wr n n [] := ⟨by simp [val], by simp, .inl rfl⟩
theorem digit_of (d : Nat) (h : d < 10) : dig (UInt8.ofNat (48 + d)) = true ∧ dv (UInt8.ofNat (48 + d)) = d ∧ (UInt8.ofNat (48 + d)).toNat = 48 + d := by
  have e : (UInt8.ofNat (48 + d)).toNat = 48 + d := by simp; omega
  refine ⟨?_, ?_, e⟩
  · unfold dig
    simp [UInt8.le_iff_toNat_le, e]
    omega
  · unfold dv; rw [e]; omega
theorem wr_len {n0 x : Nat} {ds : List UInt8} (h : Wr n0 x ds) (hn : n0 < 10000000000) : ds.length ≤ 9 := by
  rcases h.big with rfl | h1
  · simp
  · rcases Nat.lt_or_ge ds.length 10 with h2 | h2
    · omega
    · have h3 : 10 ^ 10 ≤ 10 ^ ds.length := Nat.pow_le_pow_right (by omega) h2
      have h4 : 1 * 10 ^ ds.length ≤ x * 10 ^ ds.length := Nat.mul_le_mul_right _ h1
      have := h.sum
      omega
theorem wr_next {n0 x : Nat} {ds : List UInt8} (h : Wr n0 x ds) : n0 = (x / 10) * 10 ^ (ds.length + 1) + val (UInt8.ofNat (48 + x % 10) :: ds) ∧ (∀ c ∈ UInt8.ofNat (48 + x % 10) :: ds, dig c = true) := by
  have hd := digit_of (x % 10) (by omega)
  constructor
  · rw [val_cons, hd.2.1, h.sum, Nat.pow_succ, Nat.mul_comm (10 ^ ds.length) 10, ← Nat.mul_assoc, ← Nat.add_assoc, ← Nat.add_mul]
    congr 2
    omega
  · intro c hc
    rcases List.mem_cons.1 hc with rfl | hc
    · exact hd.1
    · exact h.all c hc
theorem wr_on {n0 x : Nat} {ds : List UInt8} (h : Wr n0 x ds) (hx : x / 10 ≠ 0) : Wr n0 (x / 10) (UInt8.ofNat (48 + x % 10) :: ds) :=
  ⟨(wr_next h).1, (wr_next h).2, .inr (by omega)⟩

/-- what itoa32 writes -/
structure Text (v : Int) (l : List UInt8) : Prop where
  ex : ∃ ds : List UInt8, ds ≠ [] ∧ (∀ c ∈ ds, dig c = true) ∧ ds.length ≤ 10 ∧ l = (if v < 0 then [45] else []) ++ ds ∧ (val ds : Int) = if v < 0 then -v else v
theorem wr_end {n0 x : Nat} {ds : List UInt8} (h : Wr n0 x ds) (hx : x / 10 = 0) (hn : n0 < 10000000000) {v : Int} (hv : (n0 : Int) = if v < 0 then -v else v) : Text v ((if v < 0 then [45] else []) ++ (UInt8.ofNat (48 + x % 10) :: ds)) := by
  refine ⟨⟨_, by simp, (wr_next h).2, by have := wr_len h hn; simp; omega, rfl, ?_⟩⟩
  have := (wr_next h).1
  rw [hx, Nat.zero_mul, Nat.zero_add] at this
  rw [← this]; exact hv

/-! ### read again -/
theorem takeWhile_digs (ds t : List UInt8) (h : ∀ c ∈ ds, dig c = true) (ht : ∀ c, t.head? = some c → dig c = false) : (ds ++ t).takeWhile dig = ds := by
  induction ds with
  | nil =>
    cases t with
    | nil => rfl
    | cons c t => have := ht c rfl; simp [List.takeWhile_cons, this]
  | cons c ds ih =>
    have hc := h c (by simp)
    rw [List.cons_append, List.takeWhile_cons, if_pos hc, ih (fun x hx => h x (by simp [hx]))]
theorem dig_blk {c : UInt8} (h : dig c = true) : blk c = false ∧ c ≠ 43 ∧ c ≠ 45 := by
  have h1 := dv_int h
  have e : ∀ n : Nat, n < 48 → c ≠ UInt8.ofNat n := by
    intro n hn e
    have h2 : c.toNat = n := by rw [e]; simp; omega
    omega
  refine ⟨?_, e 43 (by omega), e 45 (by omega)⟩
  unfold blk
  have a := e 32 (by omega); have b := e 9 (by omega); have d := e 10 (by omega); have f := e 11 (by omega); have g := e 12 (by omega); have i := e 13 (by omega)
  simp only [Bool.or_eq_false_iff, beq_eq_false_iff_ne, ne_eq]
  exact ⟨⟨⟨⟨⟨a, b⟩, d⟩, f⟩, g⟩, i⟩

/-- a written number, behind it nothing or a byte that is no digit: read as itself, whole -/
theorem scan_text {v : Int} {l t : List UInt8} (h : Text v l) (h1 : -2147483648 ≤ v) (h2 : v ≤ 2147483647) (ht : t = [] ∨ t.head? = some 58) : scanV (l ++ t) = v ∧ scanN (l ++ t) = l.length ∧ 0 < l.length := by
  obtain ⟨ds, hne, hall, hlen, rfl, hval⟩ := h.ex
  have ht2 : ∀ c, t.head? = some c → dig c = false := by
    intro c hc
    rcases ht with rfl | ht
    · simp at hc
    · rw [ht] at hc; cases hc; rfl
  obtain ⟨d0, dt, rfl⟩ : ∃ d0 dt, ds = d0 :: dt := by
    cases ds with
    | nil => exact absurd rfl hne
    | cons d0 dt => exact ⟨d0, dt, rfl⟩
  have hd0 := dig_blk (hall d0 (by simp))
  have hpos : 0 < (d0 :: dt).length := by simp
  by_cases hv : v < 0
  · rw [if_pos hv] at hval ⊢
    have ed : ([45] ++ (d0 :: dt) ++ t).dropWhile blk = [45] ++ (d0 :: dt) ++ t := by
      simp [List.dropWhile_cons, blk]
    have ew : win ([45] ++ (d0 :: dt) ++ t) = 45 :: ((d0 :: dt) ++ t).take 29 := by
      unfold win; rw [ed]; simp
    have es : sgn (win ([45] ++ (d0 :: dt) ++ t)) = 1 := by rw [ew]; simp [sgn]
    have en : isNeg (win ([45] ++ (d0 :: dt) ++ t)) = true := by rw [ew]; simp [isNeg]
    have eg : digs ([45] ++ (d0 :: dt) ++ t) = d0 :: dt := by
      unfold digs
      rw [es, ew, List.drop_succ_cons, List.drop_zero]
      rw [List.take_append, List.take_of_length_le (by omega)]
      refine takeWhile_digs _ _ hall (fun c hc => ?_)
      refine ht2 c ?_
      have hz : 0 < 29 - (d0 :: dt).length := by omega
      rw [List.head?_take, if_neg (by omega)] at hc
      exact hc
    have ek : skip ([45] ++ (d0 :: dt) ++ t) = 0 := by simp [skip, List.takeWhile_cons, blk]
    unfold scanV scanN
    rw [eg, es, en, ek, if_neg (by simp), if_neg (by simp)]
    refine ⟨?_, by simp; omega, by simp⟩
    unfold clampI cut32
    simp only [if_true]
    omega
  · rw [if_neg hv] at hval ⊢
    rw [List.nil_append]
    have ed : ((d0 :: dt) ++ t).dropWhile blk = (d0 :: dt) ++ t := by
      rw [List.cons_append, List.dropWhile_cons, if_neg (by rw [hd0.1]; simp)]
    have ew : win ((d0 :: dt) ++ t) = ((d0 :: dt) ++ t).take 30 := by unfold win; rw [ed]
    have eh : (win ((d0 :: dt) ++ t)).head? = some d0 := by rw [ew]; simp
    have es : sgn (win ((d0 :: dt) ++ t)) = 0 := by unfold sgn; rw [eh]; simp [hd0.2.1, hd0.2.2]
    have en : isNeg (win ((d0 :: dt) ++ t)) = false := by unfold isNeg; rw [eh]; simp [hd0.2.2]
    have eg : digs ((d0 :: dt) ++ t) = d0 :: dt := by
      unfold digs
      rw [es, ew, List.drop_zero]
      rw [List.take_append, List.take_of_length_le (by omega)]
      refine takeWhile_digs _ _ hall (fun c hc => ?_)
      refine ht2 c ?_
      rw [List.head?_take, if_neg (by omega)] at hc
      exact hc
    have ek : skip ((d0 :: dt) ++ t) = 0 := by
      unfold skip
      rw [List.cons_append, List.takeWhile_cons, if_neg (by rw [hd0.1]; simp)]; rfl
    unfold scanV scanN
    rw [eg, es, en, ek, if_neg (by simp), if_neg (by simp)]
    refine ⟨?_, by simp, by simp⟩
    unfold clampI cut32
    simp only [Bool.false_eq_true, if_false]
    omega

/-- the law: name ++ ":" ++ offset ++ ":" ++ length reads back -/
theorem round_trip (name a b : List UInt8) (x y : Int) (hf : firstC 0 name = none) (hd : depth name = 0) (ha : Text x a) (hb : Text y b)
    (hx1 : -2147483648 ≤ x) (hx2 : x ≤ 2147483647) (hy1 : -2147483648 ≤ y) (hy2 : y ≤ 2147483647) :
    splitR (name ++ [58] ++ a ++ [58] ++ b) = ⟨name.length, x, y⟩ := by
  have hfirst : ∀ (l r : List UInt8) (d : Int), firstC d l = none → d + depth l = 0 → firstC d (l ++ 58 :: r) = some l.length := by
    intro l r
    induction l with
    | nil => intro d _ h0; simp [depth] at h0; subst h0; exact firstC_at r
    | cons c l ih =>
      intro d h1 h0
      have hc : ¬ (c = 58 ∧ d = 0) := by
        intro e
        rw [firstC, if_pos e] at h1
        cases h1
      rw [firstC_step c l d hc, Option.map_eq_none_iff] at h1
      rw [List.cons_append, firstC_step c _ d hc, ih (d + par c) h1 (by rw [depth_cons] at h0; omega)]
      simp
  have e : name ++ [58] ++ a ++ [58] ++ b = name ++ 58 :: (a ++ 58 :: b) := by simp
  rw [e]
  unfold splitR
  rw [hfirst name (a ++ 58 :: b) 0 hf (by omega)]
  simp only
  have e1 : (name ++ 58 :: (a ++ 58 :: b)).drop (name.length + 1) = a ++ 58 :: b := by
    rw [List.drop_append, List.drop_of_length_le (by omega)]; simp
  obtain ⟨s1, s2, s3⟩ := scan_text (t := 58 :: b) ha hx1 hx2 (.inr rfl)
  have e2 : (name ++ 58 :: (a ++ 58 :: b)).drop (name.length + 1 + a.length) = 58 :: b := by
    rw [← List.drop_drop, e1, List.drop_append, List.drop_of_length_le (by omega)]; simp
  have e3 : (name ++ 58 :: (a ++ 58 :: b)).drop (name.length + 1 + a.length + 1) = b := by
    rw [← List.drop_drop, e2]; simp
  obtain ⟨t1, t2, t3⟩ := scan_text (t := []) hb hy1 hy2 (.inl rfl)
  rw [List.append_nil] at t1 t2
  unfold refAt
  rw [e1, s1, s2, if_neg (by omega)]
  unfold lenAt
  rw [e2, e3, t1, t2, if_pos (show (58 :: b).head? = some 58 from rfl), if_pos (by omega)]

end Go.Proofs.Qxb6606024aDoor
