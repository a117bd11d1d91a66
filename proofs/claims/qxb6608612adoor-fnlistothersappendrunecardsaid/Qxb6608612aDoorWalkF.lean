/-
  THE WALKS of zzLastPieceStart and zzJoinedIs.
-/
import Derived.Test.Qxb6608612aDoorPlainC
namespace Go.Proofs.Qxb6608612aDoor
open Go.RowKit

/-- how many bytes some pieces hold -/
def flen (A : List (List UInt8)) : Nat := A.flatten.length
theorem flen_snoc (A : List (List UInt8)) (x : List UInt8) : flen (A ++ [x]) = flen A + x.length := by simp [flen]

set_option maxRecDepth 100000 in
set_option maxHeartbeats 1000000 in
theorem zzLastPieceStart_any (s : ByteArray) (w : World) (hs : s.size ≤ 2000000) :
    Calls Tryd.prog 12 #[.string s] w fun e w' => e = .returned (.int .i64 (flen (P s.data.toList).dropLast : Nat)) ∧ w' = w := by
  have hlen : s.data.toList.length = s.size := rfl
  have hst : P s.data.toList = [] ++ P (s.data.toList.drop 0) := by simp
  generalize hPL : P s.data.toList = L at *
  go_enter Tryd.func12, Tryd.ntmps12
  go_wp2_with fail
  go_loop [3, 4] (fun v3 v4 => ∃ (A : List (List UInt8)) (i : Nat), v3 = .int .i64 (flen A.dropLast : Nat) ∧ v4 = .int .i64 (i : Int) ∧ i ≤ s.size ∧ Hid (i = flen A) ∧ Hid (L = A ++ P (s.data.toList.drop i))) (fun _ i => s.size - (intOf i).toNat)
  case atStart => exact ⟨[], 0, rfl, rfl, by omega, rfl, hst⟩
  case round =>
    obtain ⟨A, i, rfl, rfl, hi, HA, HL⟩ := hrel
    by_cases hlt : i < s.size
    · obtain ⟨q1, q2, q3, q4⟩ := P_step s.data.toList A i (by omega) (hPL.trans HL.out)
      have CS := zzSeqLen_any s i w hs hlt
      have hbig := (W_pos (s.data.toList.drop i)).2
      generalize W (s.data.toList.drop i) = K at *
      generalize (s.data.toList.drop i).take K = x at *
      rw [hPL] at q1
      rw [hlen] at q4
      have HQ : Hid (L = A ++ [x] ++ P (s.data.toList.drop (i + K))) := q1
      have HX : Hid (x.length = K) := q2
      clear q1 q2
      have hlt' : (i : Int) < (s.size : Int) := by omega
      go_wp2_with (go_at_call 17; refine CS.mono ?_; clear CS; rintro e w1 ⟨⟨ok, rfl⟩, rfl⟩)
      go_round
      case rel =>
        refine ⟨A ++ [x], i + K, ?_, ?_, ?_, ?_, HQ.out⟩
        · rw [List.dropLast_concat, ← HA.out]
        · simp
        · omega
        · show _ = _
          rw [flen_snoc, HA.out, ← HX.out]
      case measure => simp [intOf]; omega
    · have hge : ¬ (i : Int) < (s.size : Int) := by omega
      have HE : Hid (L = A) := by
        show _ = _
        rw [HL.out, List.drop_of_length_le (by omega), P_nil, List.append_nil]
      clear hlen hPL hst hge
      have hge : (s.size : Int) ≤ (i : Int) := by omega
      go_wp2
      go_ret
      exact ⟨by rw [HE.out]; rfl, rfl⟩
end Go.Proofs.Qxb6608612aDoor
