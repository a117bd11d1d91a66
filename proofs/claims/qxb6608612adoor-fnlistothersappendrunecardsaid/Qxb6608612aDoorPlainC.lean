/-
  THE PLAIN LAWS on joined pieces and on the bytes of a rune.
-/
import Derived.Test.Qxb6608612aDoorWalkD
import Derived.Test.Qxb6608612aDoorWalkE
namespace Go.Proofs.Qxb6608612aDoor

theorem joinTail_append (sep : List UInt8) (A B : List (List UInt8)) : Lib.joinTail sep (A ++ B) = Lib.joinTail sep A ++ Lib.joinTail sep B := by simp [Lib.joinTail]
theorem join_append (sep : List UInt8) (A B : List (List UInt8)) (h : A ≠ []) : Lib.join (A ++ B) sep = Lib.join A sep ++ Lib.joinTail sep B := by
  cases A with
  | nil => exact absurd rfl h
  | cons a A => rw [List.cons_append, Lib.join_cons, Lib.join_cons, joinTail_append, List.append_assoc]
/-- what stands between what is there and the next piece -/
def gap (A : List (List UInt8)) : List UInt8 := if A = [] then [] else [44, 32]
theorem join_snoc (A : List (List UInt8)) (x : List UInt8) : Lib.join (A ++ [x]) [44, 32] = Lib.join A [44, 32] ++ gap A ++ x := by
  by_cases h : A = []
  · subst h; simp [Lib.join_nil, Lib.join_one, gap]
  · rw [join_append _ _ _ h, gap, if_neg h]; simp [Lib.joinTail]
theorem join_through (A : List (List UInt8)) (x : List UInt8) (B : List (List UInt8)) : ∃ R, Lib.join (A ++ x :: B) [44, 32] = Lib.join A [44, 32] ++ (gap A ++ (x ++ R)) := by
  refine ⟨Lib.joinTail [44, 32] B, ?_⟩
  rw [show A ++ x :: B = (A ++ [x]) ++ B by simp, join_append _ _ _ (by simp), join_snoc]
  simp only [List.append_assoc]
theorem join_empty_iff (A : List (List UInt8)) (h : ∀ x ∈ A, x ≠ []) : Lib.join A [44, 32] = [] ↔ A = [] := by
  cases A with
  | nil => simp [Lib.join_nil]
  | cons a A =>
    rw [Lib.join_cons]
    have := h a (by simp)
    simp [this]

theorem bt_zero (a : UInt8) (l : List UInt8) : bt (a :: l) 0 = a.toNat := rfl
theorem bt_succ (a : UInt8) (l : List UInt8) (j : Nat) : bt (a :: l) (j + 1) = bt l j := rfl
theorem ofNat_toNat (k : Nat) (h : k < 256) : (UInt8.ofNat k).toNat = k := UInt8.toNat_ofNat_of_lt' h

/-- a rune's bytes: never none; no continuation byte ahead; one step -/
theorem enc_facts (n : Nat) (hn : n < 1114112) (hs : n < 55296 ∨ 57343 < n) : enc n ≠ [] ∧ (bt (enc n) 0 < 128 ∨ 191 < bt (enc n) 0) ∧ W (enc n) = (enc n).length ∧ (enc n).length ≤ 4 := by
  have hW := W_spec (enc n) _ rfl
  unfold WSpec at hW
  generalize W (enc n) = wid at *
  unfold enc at *
  by_cases h1 : n < 128
  · rw [if_pos h1] at *
    have b0 : bt [UInt8.ofNat n] 0 = n := ofNat_toNat _ (by omega)
    rw [b0] at *
    simp only [List.length_singleton] at *
    exact ⟨by simp, by omega, by omega, by omega⟩
  rw [if_neg h1] at *
  by_cases h2 : n < 2048
  · rw [if_pos h2] at *
    have b0 : bt [UInt8.ofNat (192 + n / 64), UInt8.ofNat (128 + n % 64)] 0 = 192 + n / 64 := ofNat_toNat _ (by omega)
    have b1 : bt [UInt8.ofNat (192 + n / 64), UInt8.ofNat (128 + n % 64)] 1 = 128 + n % 64 := ofNat_toNat _ (by omega)
    rw [b0, b1] at hW
    rw [b0]
    simp only [List.length_cons, List.length_nil] at *
    exact ⟨by simp, by omega, by omega, by omega⟩
  rw [if_neg h2] at *
  by_cases h3 : n < 65536
  · rw [if_pos h3] at *
    have b0 : bt [UInt8.ofNat (224 + n / 4096), UInt8.ofNat (128 + n / 64 % 64), UInt8.ofNat (128 + n % 64)] 0 = 224 + n / 4096 := ofNat_toNat _ (by omega)
    have b1 : bt [UInt8.ofNat (224 + n / 4096), UInt8.ofNat (128 + n / 64 % 64), UInt8.ofNat (128 + n % 64)] 1 = 128 + n / 64 % 64 := ofNat_toNat _ (by omega)
    have b2 : bt [UInt8.ofNat (224 + n / 4096), UInt8.ofNat (128 + n / 64 % 64), UInt8.ofNat (128 + n % 64)] 2 = 128 + n % 64 := ofNat_toNat _ (by omega)
    rw [b0, b1, b2] at hW
    rw [b0]
    simp only [List.length_cons, List.length_nil] at *
    exact ⟨by simp, by omega, by omega, by omega⟩
  · rw [if_neg h3] at *
    have b0 : bt [UInt8.ofNat (240 + n / 262144), UInt8.ofNat (128 + n / 4096 % 64), UInt8.ofNat (128 + n / 64 % 64), UInt8.ofNat (128 + n % 64)] 0 = 240 + n / 262144 := ofNat_toNat _ (by omega)
    have b1 : bt [UInt8.ofNat (240 + n / 262144), UInt8.ofNat (128 + n / 4096 % 64), UInt8.ofNat (128 + n / 64 % 64), UInt8.ofNat (128 + n % 64)] 1 = 128 + n / 4096 % 64 := ofNat_toNat _ (by omega)
    have b2 : bt [UInt8.ofNat (240 + n / 262144), UInt8.ofNat (128 + n / 4096 % 64), UInt8.ofNat (128 + n / 64 % 64), UInt8.ofNat (128 + n % 64)] 2 = 128 + n / 64 % 64 := ofNat_toNat _ (by omega)
    have b3 : bt [UInt8.ofNat (240 + n / 262144), UInt8.ofNat (128 + n / 4096 % 64), UInt8.ofNat (128 + n / 64 % 64), UInt8.ofNat (128 + n % 64)] 3 = 128 + n % 64 := ofNat_toNat _ (by omega)
    rw [b0, b1, b2, b3] at hW
    rw [b0]
    simp only [List.length_cons, List.length_nil] at *
    exact ⟨by simp, by omega, by omega, by omega⟩
theorem P_enc (n : Nat) (hn : n < 1114112) (hs : n < 55296 ∨ 57343 < n) (l : List UInt8) : P (l ++ enc n) = P l ++ [enc n] := by
  obtain ⟨h1, h2, h3, _⟩ := enc_facts n hn hs
  rw [P_append _ h2, P_one _ h1 h3]

/-- a step over the pieces -/
theorem P_step (l : List UInt8) (A : List (List UInt8)) (i : Nat) (hi : i < l.length) (h : P l = A ++ P (l.drop i)) :
    P l = A ++ [(l.drop i).take (W (l.drop i))] ++ P (l.drop (i + W (l.drop i))) ∧ ((l.drop i).take (W (l.drop i))).length = W (l.drop i) ∧ 1 ≤ W (l.drop i) ∧ i + W (l.drop i) ≤ l.length := by
  have hne : l.drop i ≠ [] := by
    intro e
    have := congrArg List.length e
    rw [List.length_drop, List.length_nil] at this
    omega
  have h1 := W_pos (l.drop i)
  have h2 := W_le _ hne
  refine ⟨?_, ?_, h1.1, ?_⟩
  · rw [h, P_cons _ hne, List.drop_drop]; simp
  · rw [List.length_take]; omega
  · rw [List.length_drop] at h2; omega
end Go.Proofs.Qxb6608612aDoor
