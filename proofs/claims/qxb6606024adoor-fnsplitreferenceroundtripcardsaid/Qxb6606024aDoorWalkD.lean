/-
  THE WALK of itoa32.
-/
import Derived.Test.Qxb6606024aDoorWalkA
import Derived.Test.Qxb6606024aDoorPlainD
import Derived.Laws.IdiomStrings
namespace Go.Proofs.Qxb6606024aDoor
open Go.RowKit

/-- twelve cells of the call's own; those from p on hold ds -/
structure Buf (B : Nat) (w wr : World) (p : Nat) (ds : List UInt8) : Prop where
  has : ∀ j, j < 12 → ∃ u, wr.cell? ⟨B, j, none⟩ = some u
  free : ∀ j, j < 12 → wr.frozen? ⟨B, j, none⟩ = false
  holds : ∀ j (h : j < ds.length), wr.cell? ⟨B, p + j, none⟩ = some (.int .u8 (ds[j].toNat : Int))
  below : Below B w wr
  len : p + ds.length = 12

theorem buf_push {B : Nat} {w wr : World} {p : Nat} {ds : List UInt8} (h : Buf B w wr (p + 1) ds) (c : UInt8) : Buf B w (wr.setCell ⟨B, p, none⟩ (.int .u8 (c.toNat : Int))) p (c :: ds) := by
  have hlen := h.len
  obtain ⟨u, hu⟩ := h.has p (by omega)
  refine ⟨?_, ?_, ?_, h.below.setCell (Nat.le_refl _) _, by simp; omega⟩
  · intro j hj
    by_cases e : j = p
    · subst e; exact ⟨_, World.cell?_setCell_same' _ _ _ (by rw [hu]; rfl)⟩
    · obtain ⟨u2, hu2⟩ := h.has j hj
      exact ⟨u2, by rw [World.cell?_setCell_other _ _ _ _ (by intro x; exact e (congrArg Addr.off x).symm)]; exact hu2⟩
  · intro j hj
    rw [World.frozen?_setCell]; exact h.free j hj
  · intro j hj
    cases j with
    | zero => exact World.cell?_setCell_same' _ _ _ (by show (wr.cell? ⟨B, p, none⟩).isSome = true; rw [hu]; rfl)
    | succ j =>
      have hj' : j < ds.length := by simpa using hj
      rw [show p + (j + 1) = p + 1 + j by omega, World.cell?_setCell_other _ _ _ _ (by intro e; have := congrArg Addr.off e; simp at this; omega), h.holds j hj']
      simp

theorem buf_conv {w wr : World} {B p : Nat} {ds : List UInt8} (h : Buf B w wr p ds) : (convert 30 9 (.slice (some ⟨B, p, none⟩) ds.length ds.length)).run Tryd.prog wr = .ok (.string ⟨ds.toArray⟩) wr :=
  run_convert_bytes_back wr 30 9 5 ⟨B, p, none⟩ ds.length ds Tryd.underlying30 Tryd.underlying5 Tryd.underlying9 (fun j hj => by rw [← h.holds j hj]; unfold Addr.add; split <;> simp [*])

theorem arr29 : Tryd.prog.underlying 29 = some (.array (Tryd.prog.arrayLen 29) (Tryd.prog.elem 29)) := by kernel_rfl
theorem len29 : Tryd.prog.arrayLen 29 = 12 := by kernel_rfl
theorem elem29 : Tryd.prog.elem 29 = 5 := by kernel_rfl
theorem size5 (w : World) : (sizeOf 5).run Tryd.prog w = .ok 1 w := by kernel_rfl
/-- buf[p:] -/
theorem slice_buf (B p : Nat) (h : p < 12) (W : World) : (Instr.sliceAt 29 (.pointer (some ⟨B, 0, none⟩)) (some (.int .i64 p)) none none).run Tryd.prog W = .ok (.slice (some ⟨B, p, none⟩) (12 - p) (12 - p)) W := by
  rw [run_sliceAt_array_l W 29 ⟨B, 0, none⟩ arr29 .i64 p (by omega) (by rw [len29]; omega), elem29, size5, len29]
  simp only [Result.andThen, slicedAt, Int.toNat_natCast, Nat.mul_one]
  rw [if_neg (by omega)]
  unfold Addr.add
  split
  · rename_i h; subst h; rfl
  · simp

theorem buf_start (w : World) : Buf w.heap.size w (w.alloc (.cells #[.int .u8 0, .int .u8 0, .int .u8 0, .int .u8 0, .int .u8 0, .int .u8 0, .int .u8 0, .int .u8 0, .int .u8 0, .int .u8 0, .int .u8 0, .int .u8 0] 29)) 12 [] := by
  refine ⟨fun j hj => ?_, fun j hj => ?_, fun j hj => by simp at hj, (Below.refl _ _).alloc (Nat.le_refl _) _, rfl⟩
  · refine ⟨.int .u8 0, ?_⟩
    simp only [World.cell?_alloc_at]
    match j, hj with
    | 0, _ | 1, _ | 2, _ | 3, _ | 4, _ | 5, _ | 6, _ | 7, _ | 8, _ | 9, _ | 10, _ | 11, _ => rfl
  · simp

set_option maxRecDepth 100000 in
set_option maxHeartbeats 1000000 in
theorem itoa_neg (v : Int) (w : World) (h1 : -2147483648 ≤ v) (h2 : v < 0) :
    Calls Tryd.prog 9 #[.int .i32 v] w fun e w' => (∃ t : ByteArray, e = .returned (.string t) ∧ Text v t.data.toList ∧ t.size ≤ 11) ∧ Below w.heap.size w w' := by
  obtain ⟨n0, hn0⟩ : ∃ n0 : Nat, -v = n0 := ⟨(-v).toNat, by omega⟩
  have hn1 : n0 < 10000000000 := by omega
  have HV : Hid ((n0 : Int) = if v < 0 then -v else v) := by rw [if_pos h2]; exact hn0.symm
  go_enter Tryd.func9, Tryd.ntmps9
  go_wp2
  go_loopw [3, 6] (fun vx vp wr => ∃ (x p : Nat) (ds : List UInt8), vx = .int .i64 x ∧ vp = .int .i64 ((p + 1 : Nat) : Int) ∧ Hid (Wr n0 x ds) ∧ Hid (Buf w.heap.size w wr (p + 1) ds) ∧ (x : Int) ≤ n0 ∧ p ≤ 11 ∧ 2 ≤ p) (fun vx _ _ => (intOf vx).toNat)
  case atStart => exact ⟨n0, 11, [], by go_num, rfl, wr_start _, buf_start w, by omega, by omega, by omega⟩
  case round =>
    obtain ⟨x, p, ds, rfl, rfl, HW, HB, hx, hp1, hp2⟩ := hrel
    obtain ⟨u, hu⟩ := HB.out.has p (by omega)
    have hfr := HB.out.free p (by omega)
    have hp := buf_push HB.out (UInt8.ofNat (48 + x % 10))
    rw [(digit_of (x % 10) (by omega)).2.2, show ((48 + x % 10 : Nat) : Int) = 48 + (x : Int) % 10 by omega] at hp
    by_cases hz : x / 10 = 0
    · have HT : Hid (Text v ([45] ++ (UInt8.ofNat (48 + x % 10) :: ds))) := by
        have := wr_end HW.out hz hn1 HV.out
        rw [if_pos h2] at this
        exact this
      have hpl := hp.len
      obtain ⟨p', rfl⟩ : ∃ p', p = p' + 1 := ⟨p - 1, by omega⟩
      obtain ⟨u2, hu2⟩ := hp.has p' (by omega)
      have hfr2 := hp.free p' (by omega)
      have hq := buf_push hp 45
      have hql := hq.len
      have hcv := buf_conv hq
      rw [show (45 :: UInt8.ofNat (48 + x % 10) :: ds).length = 12 - p' by omega] at hcv
      have hsl := slice_buf w.heap.size p' (by omega)
      have h45 : (((45 : UInt8).toNat : Nat) : Int) = 45 := rfl
      rw [h45] at hcv
      have HQB : Hid (Below w.heap.size w _) := hq.below
      have hz2 : ((x : Int) / 10 == 0) = true := by simp; omega
      generalize UInt8.ofNat (48 + x % 10) :: ds = L at *
      clear HW HB hp hq
      go_wp2
      go_ret
      refine ⟨⟨⟨(45 :: L).toArray⟩, rfl, HT.out, ?_⟩, HQB.out⟩
      have e : (⟨(45 :: L).toArray⟩ : ByteArray).size = (45 :: L).length := by simp [ByteArray.size]
      rw [e]
      omega
    · have HWn := wr_on HW.out hz
      have hl9 := wr_len HWn hn1
      have hpl := hp.len
      have HW2 : Hid (Wr n0 (x / 10) (UInt8.ofNat (48 + x % 10) :: ds)) := HWn
      obtain ⟨p', rfl⟩ : ∃ p', p = p' + 1 := ⟨p - 1, by omega⟩
      have HB2 : Hid (Buf w.heap.size w _ (p' + 1) (UInt8.ofNat (48 + x % 10) :: ds)) := hp
      clear HWn hp HW HB
      go_wp2
      go_roundw
      case rel => exact ⟨x / 10, p', _, by go_num, by go_num, HW2, HB2, by omega, by omega, by omega⟩
      case measure => simp [intOf]; omega
set_option maxRecDepth 100000 in
set_option maxHeartbeats 1000000 in
theorem itoa_pos (v : Int) (w : World) (h1 : v ≤ 2147483647) (h2 : ¬ v < 0) :
    Calls Tryd.prog 9 #[.int .i32 v] w fun e w' => (∃ t : ByteArray, e = .returned (.string t) ∧ Text v t.data.toList ∧ t.size ≤ 11) ∧ Below w.heap.size w w' := by
  obtain ⟨n0, hn0⟩ : ∃ n0 : Nat, v = n0 := ⟨v.toNat, by omega⟩
  have hn1 : n0 < 10000000000 := by omega
  have HV : Hid ((n0 : Int) = if v < 0 then -v else v) := by rw [if_neg h2]; exact hn0.symm
  go_enter Tryd.func9, Tryd.ntmps9
  go_wp2
  go_loopw [3, 6] (fun vx vp wr => ∃ (x p : Nat) (ds : List UInt8), vx = .int .i64 x ∧ vp = .int .i64 ((p + 1 : Nat) : Int) ∧ Hid (Wr n0 x ds) ∧ Hid (Buf w.heap.size w wr (p + 1) ds) ∧ (x : Int) ≤ n0 ∧ p ≤ 11 ∧ 2 ≤ p) (fun vx _ _ => (intOf vx).toNat)
  case atStart => exact ⟨n0, 11, [], by go_num, rfl, wr_start _, buf_start w, by omega, by omega, by omega⟩
  case round =>
    obtain ⟨x, p, ds, rfl, rfl, HW, HB, hx, hp1, hp2⟩ := hrel
    obtain ⟨u, hu⟩ := HB.out.has p (by omega)
    have hfr := HB.out.free p (by omega)
    have hp := buf_push HB.out (UInt8.ofNat (48 + x % 10))
    rw [(digit_of (x % 10) (by omega)).2.2, show ((48 + x % 10 : Nat) : Int) = 48 + (x : Int) % 10 by omega] at hp
    by_cases hz : x / 10 = 0
    · have HT : Hid (Text v (UInt8.ofNat (48 + x % 10) :: ds)) := by
        have := wr_end HW.out hz hn1 HV.out
        rw [if_neg (by omega)] at this
        exact this
      have hpl := hp.len
      have hcv := buf_conv hp
      rw [show (UInt8.ofNat (48 + x % 10) :: ds).length = 12 - p by omega] at hcv
      have hsl := slice_buf w.heap.size p (by omega)
      have HQB : Hid (Below w.heap.size w _) := hp.below
      have hz2 : ((x : Int) / 10 == 0) = true := by simp; omega
      generalize UInt8.ofNat (48 + x % 10) :: ds = L at *
      clear HW HB hp
      go_wp2
      go_ret
      refine ⟨⟨⟨L.toArray⟩, rfl, HT.out, ?_⟩, HQB.out⟩
      have e : (⟨L.toArray⟩ : ByteArray).size = L.length := by simp [ByteArray.size]
      rw [e]
      omega
    · have HWn := wr_on HW.out hz
      have hl9 := wr_len HWn hn1
      have hpl := hp.len
      have HW2 : Hid (Wr n0 (x / 10) (UInt8.ofNat (48 + x % 10) :: ds)) := HWn
      obtain ⟨p', rfl⟩ : ∃ p', p = p' + 1 := ⟨p - 1, by omega⟩
      have HB2 : Hid (Buf w.heap.size w _ (p' + 1) (UInt8.ofNat (48 + x % 10) :: ds)) := hp
      clear HWn hp HW HB
      go_wp2
      go_roundw
      case rel => exact ⟨x / 10, p', _, by go_num, by go_num, HW2, HB2, by omega, by omega, by omega⟩
      case measure => simp [intOf]; omega
theorem itoa_any (v : Int) (w : World) (h1 : -2147483648 ≤ v) (h2 : v ≤ 2147483647) :
    Calls Tryd.prog 9 #[.int .i32 v] w fun e w' => (∃ t : ByteArray, e = .returned (.string t) ∧ Text v t.data.toList ∧ t.size ≤ 11) ∧ Below w.heap.size w w' := by
  by_cases h : v < 0
  · exact itoa_neg v w h1 h
  · exact itoa_pos v w h2 h
end Go.Proofs.Qxb6606024aDoor
