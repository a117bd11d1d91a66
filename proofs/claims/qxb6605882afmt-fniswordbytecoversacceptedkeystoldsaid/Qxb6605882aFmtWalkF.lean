/-
  THE WALK of selector.checkKey.
-/
import Derived.Test.Qxb6605882aFmtWalkE
import Derived.Deep.RegionWith
namespace Go.Proofs.Qxb6605882aFmt
open Go.RowKit Go.Extern.Stop Go.Stop Go.Extern

/-- what checkKey answers -/
def KeyP (s : ByteArray) (e : Ending) : Prop :=
  (e = .returned .nilIface ∧ (∀ x ∈ s.data.toList, wb x.toNat = true) ∧ ∀ c : UInt8, s.data.toList = [c] → an c.toNat = true) ∨
  ((∃ a, e = .returned (.iface 65 (.pointer (some a)))) ∧ ∀ c : UInt8, s.data.toList = [c] → an c.toNat = false)

theorem below_drewN (B : Nat) (w : World) (n : Nat) : Below B w (w.drewN n) := ⟨rfl, rfl, rfl, Nat.le_refl _, fun _ _ => rfl⟩

theorem new_cell (W : World) (v : Value) (t : TypeId) : (W.alloc (.cells #[v] t)).cell? ⟨W.heap.size, 0, none⟩ = some v := by simp [go_sem]

theorem below_err {w w2 : World} {n : Nat} {o : Obj} (h : Below ((w.drewN n).alloc o).heap.size ((w.drewN n).alloc o) w2) : Below w.heap.size w w2 :=
  ((below_drewN w.heap.size w n).alloc (Nat.le_refl _) o).trans (h.mono (by simp))

theorem nb_wb {x : Int} (h : nb x = true) : wb x = true := by
  unfold nb at h
  unfold wb
  simp only [Bool.or_eq_true] at *
  exact .inl h

set_option maxRecDepth 100000 in
set_option maxHeartbeats 2000000 in
theorem checkKey_miss (F : Interp) (s : ByteArray) (w : World) (hF : F.answers w.tape) (h : Lib.indexByte s.data.toList 47 < 0) :
    Calls Tryf.prog 14 #[.string s] w fun e w' => KeyP s e ∧ Below w.heap.size w w' := by
  have C := cut_miss s w h
  go_enter Tryf.func14, Tryf.ntmps14
  by_cases h0 : s.size = 0
  · have e1 : s.toList.isEmpty = true := by rw [Lib.toList_data, List.isEmpty_iff_length_eq_zero, ← Lib.size_eq]; exact h0
    go_wp2_with (first | (go_at_call 19; refine C.mono ?_; clear C; rintro e w1 ⟨rfl, n, rfl⟩) | (go_at_call 21; refine (errorf_b F s _ _ ?_ ?_).mono ?_; exact hF; exact new_cell _ _ _; rintro e w2 ⟨⟨a, rfl⟩, hB⟩))
    go_ret
    refine ⟨.inr ⟨⟨_, rfl⟩, fun c hc => ?_⟩, ?_⟩
    · have := one_size hc; omega
    · exact below_err hB
  have e1 : s.toList.isEmpty = false := by
    rw [List.isEmpty_eq_false_iff, Lib.toList_data]
    intro h
    have := Lib.size_eq s
    rw [h] at this
    exact h0 this
  go_wp2_with (first | (go_at_call 19; refine C.mono ?_; clear C; rintro e w1 ⟨rfl, n, rfl⟩) | (go_at_call 22; refine (isName_any s _).mono ?_; rintro e w1 ⟨⟨b, rfl, hb⟩, rfl⟩) | (go_at_call 21; refine (errorf_b F s _ _ ?_ ?_).mono ?_; exact hF; exact new_cell _ _ _; rintro e w2 ⟨⟨a, rfl⟩, hB⟩))
  · have hb0 : b = false := by
      have h : (!b) = true := by assumption
      simpa using h
    go_ret
    refine ⟨.inr ⟨⟨_, rfl⟩, fun c hc => ?_⟩, below_err hB⟩
    rw [← hb.2 c hc, hb0]
  · have hb0 : b = true := by
      have h : (!b) = false := by assumption
      simpa using h
    go_ret
    refine ⟨.inl ⟨rfl, fun x hx => nb_wb (hb.1 hb0 x hx), fun c hc => ?_⟩, below_drewN _ _ _⟩
    rw [← hb.2 c hc, hb0]

theorem parts47 (t : ByteArray) (i : Nat) (h : Lib.indexByte t.data.toList 47 = (i : Int)) : i + 1 ≤ t.size ∧ (∀ x ∈ t.data.toList, x = 47 ∨ x ∈ (t.extract 0 i).data.toList ∨ x ∈ (t.extract (i + 1) t.size).data.toList) ∧
    (∀ c : UInt8, t.data.toList = [c] → c = 47 ∧ (t.extract 0 i).size = 0) := by
  obtain ⟨h1, _⟩ := Lib.indexByte_some h
  obtain ⟨hi, he⟩ := List.getElem?_eq_some_iff.1 h1
  refine ⟨hi, fun x hx => ?_, fun c hc => ?_⟩
  · have e1 : (t.extract 0 i).data.toList = t.data.toList.take i := by rw [Lib.extract_data]; simp
    have e2 : (t.extract (i + 1) t.size).data.toList = t.data.toList.drop (i + 1) := Lib.extract_to_end _ _
    rw [e1, e2]
    have e3 : t.data.toList = t.data.toList.take i ++ t.data.toList[i] :: t.data.toList.drop (i + 1) := by
      rw [List.getElem_cons_drop, List.take_append_drop]
    rw [e3] at hx
    rcases List.mem_append.1 hx with h | h
    · exact .inr (.inl h)
    · rcases List.mem_cons.1 h with h | h
      · left; rw [h, he]
      · exact .inr (.inr h)
  · have h2 := one_size hc
    obtain rfl : i = 0 := by rw [Lib.size_eq] at h2; omega
    rw [hc] at h1
    simp at h1
    refine ⟨h1, ?_⟩
    rw [ByteArray.size_extract]; omega

theorem sb_wb {x : UInt8} (h : sb x = true) : wb x.toNat = true := by
  unfold sb lb at h
  unfold wb an
  simp only [Bool.or_eq_true, Bool.and_eq_true, decide_eq_true_eq, beq_iff_eq] at *
  rcases h with ((h | h) | h) | h
  · omega
  · omega
  · omega
  · subst h; simp

theorem tape_ok {F : Interp} {w w1 : World} {n B : Nat} (hF : F.answers w.tape) (h : Below B (w.drewN n) w1) : F.answers w1.tape := by rw [h.tape]; exact hF
theorem below_sub {w w1 : World} {n : Nat} (h : Below (w.drewN n).heap.size (w.drewN n) w1) : Below w.heap.size w w1 := (below_drewN _ w n).trans h
theorem below_err2 {w w1 w2 : World} {n : Nat} {o : Obj} (h : Below (w.drewN n).heap.size (w.drewN n) w1) (k : Below (w1.alloc o).heap.size (w1.alloc o) w2) : Below w.heap.size w w2 :=
  ((below_sub h).alloc h.size o).trans (k.mono (Nat.le_trans h.size (by simp)))

set_option maxRecDepth 100000 in
set_option maxHeartbeats 2000000 in
theorem checkKey_hit (F : Interp) (s : ByteArray) (i : Nat) (w : World) (hF : F.answers w.tape) (hs : s.size ≤ 2000000) (h : Lib.indexByte s.data.toList 47 = (i : Int)) :
    Calls Tryf.prog 14 #[.string s] w fun e w' => KeyP s e ∧ Below w.heap.size w w' := by
  obtain ⟨p1, p2, p3⟩ := parts47 s i h
  have C := cut_hit s i w h p1 hs
  generalize s.extract 0 i = pre at *
  generalize s.extract (i + 1) s.size = rest at *
  clear h p1 hs
  have P2 : Hid (∀ x ∈ s.data.toList, x = 47 ∨ x ∈ pre.data.toList ∨ x ∈ rest.data.toList) := p2
  have P3 : Hid (∀ c : UInt8, s.data.toList = [c] → c = 47 ∧ pre.size = 0) := p3
  clear p2 p3
  go_enter Tryf.func14, Tryf.ntmps14
  by_cases h0 : rest.size = 0
  · have e1 : rest.toList.isEmpty = true := by rw [Lib.toList_data, List.isEmpty_iff_length_eq_zero, ← Lib.size_eq]; exact h0
    go_wp2_with (first | (go_at_call 19; refine C.mono ?_; clear C; rintro e w1 ⟨rfl, n, rfl⟩) | (go_at_call 20; refine (isSubdomain_any pre _).mono ?_; rintro e w1 ⟨⟨b, rfl, hb⟩, hB1⟩))
    · refine (errorf_a F s _ _ ?_ ?_).mono ?_
      · have := tape_ok hF hB1; exact this
      · exact new_cell _ _ _
      rintro e w2 ⟨⟨a, rfl⟩, hB⟩
      go_wp2
      go_ret
      exact ⟨.inr ⟨⟨_, rfl⟩, fun c hc => by rw [(P3.out c hc).1]; rfl⟩, below_err2 hB1 hB⟩
    · refine (errorf_b F s _ _ ?_ ?_).mono ?_
      · have := tape_ok hF hB1; exact this
      · exact new_cell _ _ _
      rintro e w2 ⟨⟨a, rfl⟩, hB⟩
      go_wp2
      go_ret
      exact ⟨.inr ⟨⟨_, rfl⟩, fun c hc => by rw [(P3.out c hc).1]; rfl⟩, below_err2 hB1 hB⟩
  have e1 : rest.toList.isEmpty = false := by
    rw [List.isEmpty_eq_false_iff, Lib.toList_data]
    intro h
    have := Lib.size_eq rest
    rw [h] at this
    exact h0 this
  go_wp2_with (first | (go_at_call 19; refine C.mono ?_; clear C; rintro e w1 ⟨rfl, n, rfl⟩) | (go_at_call 20; refine (isSubdomain_any pre _).mono ?_; rintro e w1 ⟨⟨b, rfl, hb⟩, hB1⟩) | (go_at_call 22; refine (isName_any rest _).mono ?_; rintro e w3 ⟨⟨b', rfl, hb'⟩, hw3⟩; replace hw3 := hw3.symm; subst hw3))
  · refine (errorf_a F s _ _ ?_ ?_).mono ?_
    · have := tape_ok hF hB1; exact this
    · exact new_cell _ _ _
    rintro e w2 ⟨⟨a, rfl⟩, hB⟩
    go_wp2
    go_ret
    exact ⟨.inr ⟨⟨_, rfl⟩, fun c hc => by rw [(P3.out c hc).1]; rfl⟩, below_err2 hB1 hB⟩
  · refine (errorf_b F s _ _ ?_ ?_).mono ?_
    · have := tape_ok hF hB1; exact this
    · exact new_cell _ _ _
    rintro e w2 ⟨⟨a, rfl⟩, hB⟩
    go_wp2
    go_ret
    exact ⟨.inr ⟨⟨_, rfl⟩, fun c hc => by rw [(P3.out c hc).1]; rfl⟩, below_err2 hB1 hB⟩
  · have hb0 : b = true := by
      have h : (!b) = false := by assumption
      simpa using h
    have hb1 : b' = true := by
      have h : (!b') = false := by assumption
      simpa using h
    go_ret
    refine ⟨.inl ⟨rfl, fun x hx => ?_, fun c hc => absurd (P3.out c hc).2 (hb hb0).1⟩, below_sub hB1⟩
    rcases P2.out x hx with rfl | h | h
    · rfl
    · exact sb_wb ((hb hb0).2 x h)
    · exact nb_wb (hb'.1 hb1 x h)

/-- checkKey, whatever the key -/
theorem checkKey_any (F : Interp) (s : ByteArray) (w : World) (hF : F.answers w.tape) (hs : s.size ≤ 2000000) :
    Calls Tryf.prog 14 #[.string s] w fun e w' => KeyP s e ∧ Below w.heap.size w w' := by
  rcases Int.lt_or_le (Lib.indexByte s.data.toList 47) 0 with hlt | hge
  · exact checkKey_miss F s w hF hlt
  · obtain ⟨i, hi⟩ := Int.eq_ofNat_of_zero_le hge
    exact checkKey_hit F s i w hF hs hi
end Go.Proofs.Qxb6605882aFmt
