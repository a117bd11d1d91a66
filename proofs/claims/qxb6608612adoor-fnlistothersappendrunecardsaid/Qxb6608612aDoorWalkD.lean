/-
  THE WALK of zzSeqLen: the decoder's step.
-/
import Derived.Test.Qxb6608612aDoorWalkC
namespace Go.Proofs.Qxb6608612aDoor
open Go.RowKit

theorem bt_at (s : ByteArray) (i j : Nat) (h : i + j < s.size) : bt (s.data.toList.drop i) j = s[i + j].toNat := by
  rw [bt_drop]
  unfold bt
  have hl : i + j < s.data.toList.length := h
  rw [List.getD_eq_getElem?_getD, List.getElem?_eq_getElem hl]
  rfl

def WSpec (wid n b0 b1 b2 b3 : Nat) : Prop :=
  (wid = 2 ∧ 194 ≤ b0 ∧ b0 ≤ 223 ∧ 2 ≤ n ∧ 128 ≤ b1 ∧ b1 ≤ 191) ∨
  (wid = 3 ∧ 224 ≤ b0 ∧ b0 ≤ 239 ∧ 3 ≤ n ∧ 128 ≤ b1 ∧ b1 ≤ 191 ∧ (b0 = 224 → 160 ≤ b1) ∧ (b0 = 237 → b1 ≤ 159) ∧ 128 ≤ b2 ∧ b2 ≤ 191) ∨
  (wid = 4 ∧ 240 ≤ b0 ∧ b0 ≤ 244 ∧ 4 ≤ n ∧ 128 ≤ b1 ∧ b1 ≤ 191 ∧ (b0 = 240 → 144 ≤ b1) ∧ (b0 = 244 → b1 ≤ 143) ∧ 128 ≤ b2 ∧ b2 ≤ 191 ∧ 128 ≤ b3 ∧ b3 ≤ 191) ∨
  (wid = 1 ∧ ¬ (194 ≤ b0 ∧ b0 ≤ 223 ∧ 2 ≤ n ∧ 128 ≤ b1 ∧ b1 ≤ 191) ∧
    ¬ (224 ≤ b0 ∧ b0 ≤ 239 ∧ 3 ≤ n ∧ 128 ≤ b1 ∧ b1 ≤ 191 ∧ (b0 = 224 → 160 ≤ b1) ∧ (b0 = 237 → b1 ≤ 159) ∧ 128 ≤ b2 ∧ b2 ≤ 191) ∧
    ¬ (240 ≤ b0 ∧ b0 ≤ 244 ∧ 4 ≤ n ∧ 128 ≤ b1 ∧ b1 ≤ 191 ∧ (b0 = 240 → 144 ≤ b1) ∧ (b0 = 244 → b1 ≤ 143) ∧ 128 ≤ b2 ∧ b2 ≤ 191 ∧ 128 ≤ b3 ∧ b3 ≤ 191))
theorem W_spec (l : List UInt8) (n : Nat) (h : l.length = n) : WSpec (W l) n (bt l 0) (bt l 1) (bt l 2) (bt l 3) := by
  subst h
  rw [W_eq]
  exact wOf_spec _ _ _ _ _
theorem ret_w {wid : Nat} {n : Int} {ok : Bool} (h : (wid : Int) = n) : Ending.returned (.tuple #[.int .i64 n, .bool ok]) = .returned (.tuple #[.int .i64 (wid : Int), .bool ok]) := by rw [h]
/-- the step's width, and a flag -/
def SeqRet (wid : Nat) (e : Ending) : Prop := ∃ ok, e = .returned (.tuple #[.int .i64 (wid : Int), .bool ok])
theorem SeqRet.mk {wid : Nat} {n : Int} {ok : Bool} (h : (wid : Int) = n) : SeqRet wid (.returned (.tuple #[.int .i64 n, .bool ok])) := ⟨ok, ret_w h⟩
theorem beq_t {a b : Int} (h : (a == b) = true) : a = b := eq_of_beq h

set_option maxRecDepth 100000 in
set_option maxHeartbeats 4000000 in
theorem zzSeqLen_any (s : ByteArray) (i : Nat) (w : World) (hs : s.size ≤ 2000000) (hi : i < s.size) :
    Calls Tryd.prog 17 #[.string s, .int .i64 i] w fun e w' => SeqRet (W (s.data.toList.drop i)) e ∧ w' = w := by
  have B0 : Hid (bt (s.data.toList.drop i) 0 = s[i].toNat) := bt_at s i 0 hi
  have B1 : Hid (∀ h : i + 1 < s.size, bt (s.data.toList.drop i) 1 = s[i + 1].toNat) := fun h => bt_at s i 1 h
  have B2 : Hid (∀ h : i + 2 < s.size, bt (s.data.toList.drop i) 2 = s[i + 2].toNat) := fun h => bt_at s i 2 h
  have B3 : Hid (∀ h : i + 3 < s.size, bt (s.data.toList.drop i) 3 = s[i + 3].toNat) := fun h => bt_at s i 3 h
  have hl : (s.data.toList.drop i).length = s.size - i := by rw [List.length_drop]; rfl
  have HW : Hid (WSpec (W (s.data.toList.drop i)) (s.size - i) (bt (s.data.toList.drop i) 0) (bt (s.data.toList.drop i) 1) (bt (s.data.toList.drop i) 2) (bt (s.data.toList.drop i) 3)) := W_spec _ _ hl
  clear hl
  generalize W (s.data.toList.drop i) = wid at *
  generalize bt (s.data.toList.drop i) 0 = b0 at *
  generalize bt (s.data.toList.drop i) 1 = b1 at *
  generalize bt (s.data.toList.drop i) 2 = b2 at *
  generalize bt (s.data.toList.drop i) 3 = b3 at *
  go_enter Tryd.func17, Tryd.ntmps17
  go_wp2_with (go_at_call 21; refine (zzCont_any _ _).mono ?_; rintro e w1 ⟨rfl, rfl⟩)
  all_goals (go_ret2; refine ⟨SeqRet.mk ?_, rfl⟩)
  all_goals (
    have h0 := B0.out
    have hW := HW.out
    have h1 := B1.out
    have h2 := B2.out
    have h3 := B3.out
    unfold WSpec at hW
    try simp only [beq_iff_eq, beq_eq_false_iff_ne, ne_eq] at *
    clear B0 B1 B2 B3 HW)

  all_goals (
    by_cases k1 : i + 1 < s.size
    · have g1 := h1 k1
      by_cases k2 : i + 2 < s.size
      · have g2 := h2 k2
        by_cases k3 : i + 3 < s.size
        · have g3 := h3 k3
          clear h1 h2 h3
          omega
        · clear h1 h2 h3
          omega
      · clear h1 h2 h3
        omega
    · clear h1 h2 h3
      omega)
end Go.Proofs.Qxb6608612aDoor
