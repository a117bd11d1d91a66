/-
  THE WALKS of ZZFormListOthers and of the law's little functions.
-/
import Derived.Test.Qxb6608612aDoorWalkB
namespace Go.Proofs.Qxb6608612aDoor
open Go.RowKit

theorem formListOthers_any (m : Int) (s : ByteArray) (w : World) (hs : s.size ≤ 2000000) (h0 : 0 < s.size) (hT : Lib.Utf8Tabs 1 2 w) (hz : 2 < w.heap.size) :
    Calls Tryd.prog 6 #[.int .i64 m, .string s] w fun e w' => e = .returned (str (listed s.data.toList)) ∧ Below w.heap.size w w' := by
  have C := listOthers_any m s w hs h0 hT hz
  go_enter Tryd.func6, Tryd.ntmps6
  go_wp2_with (go_at_call 15; refine C.mono ?_; rintro e w1 ⟨rfl, hb⟩)
  go_ret
  exact ⟨rfl, hb⟩

set_option linter.unusedSimpArgs false in
theorem zzBytes9 (m d : Int) (s : ByteArray) (w : World) : Calls Tryd.prog 9 #[.int .i64 m, .string s, .int .i32 d] w fun e w' => e = .returned (.bool (decide (s.size ≤ 1048576))) ∧ w' = w := by
  go_enter Tryd.func9, Tryd.ntmps9
  by_cases h : s.size ≤ 1048576
  · have h1 : (s.size : Int) ≤ 1048576 := by omega
    go_wp2
    go_ret
    simp [h]
  · have h1 : ¬ (s.size : Int) ≤ 1048576 := by omega
    go_wp2
    go_ret
    simp [h]

set_option linter.unusedSimpArgs false in
theorem zzBytes5 (m d : Int) (s : ByteArray) (w : World) : Calls Tryd.prog 5 #[.int .i64 m, .string s, .int .i32 d] w fun e w' => e = .returned (.bool (decide (s.size ≤ 1048576))) ∧ w' = w := by
  go_enter Tryd.func5, Tryd.ntmps5
  by_cases h : s.size ≤ 1048576
  · have h1 : (s.size : Int) ≤ 1048576 := by omega
    go_wp2
    go_ret
    simp [h]
  · have h1 : ¬ (s.size : Int) ≤ 1048576 := by omega
    go_wp2
    go_ret
    simp [h]

theorem zzCont_any (b : Int) (w : World) : Calls Tryd.prog 21 #[.int .u8 b] w fun e w' => e = .returned (.bool (decide (128 ≤ b ∧ b ≤ 191))) ∧ w' = w := by
  go_enter Tryd.func21, Tryd.ntmps21
  by_cases h : 128 ≤ b <;> by_cases h2 : b ≤ 191 <;> (go_wp2; go_ret; simp [h, h2])

/-- a rune that is one -/
def vr (d : Int) : Bool := decide (0 ≤ d ∧ d ≤ 1114111 ∧ (d < 55296 ∨ 57343 < d))

theorem zzValidRune_any (d : Int) (w : World) : Calls Tryd.prog 10 #[.int .i32 d] w fun e w' => e = .returned (.bool (vr d)) ∧ w' = w := by
  go_enter Tryd.func10, Tryd.ntmps10
  by_cases h : 0 ≤ d <;> by_cases h2 : d ≤ 1114111 <;> by_cases h3 : d < 55296 <;> by_cases h4 : 57343 < d <;> first | omega | (go_wp2; go_ret; simp [vr, h, h2, h3, h4])

theorem zzHasSuffix_true (h p : List UInt8) (w : World) (hs : h.length ≤ 20000000) (hp : p.length ≤ 20000000) : Calls Tryd.prog 13 #[str (h ++ p), str p] w fun e w' => e = .returned (.bool true) ∧ w' = w := by
  unfold str
  have e1 := str_size (h ++ p)
  have e2 := str_size p
  have e3 : p.length ≤ (h ++ p).length := by simp
  have hl : (h ++ p).length ≤ 40000000 := by simp; omega
  have HX : Hid (((⟨(h ++ p).toArray⟩ : ByteArray).extract ((h ++ p).length - p.length) (h ++ p).length).toList = p) := by
    show _ = _
    rw [Lib.toList_data, extract_part]
    simp
  generalize h ++ p = s at *
  go_enter Tryd.func13, Tryd.ntmps13
  go_wp2
  go_ret
  simp [HX.out]
end Go.Proofs.Qxb6608612aDoor
