/-
  THE WALK of strings.SplitSeq and of selector.isSubdomain.
-/
import Derived.Test.Qxb6605882aFmtWalkA
import Derived.Lib.Strings
namespace Go.Proofs.Qxb6605882aFmt
open Go.RowKit Go.Shelf
attribute [local go_sem] Oper.semAt_some

def split3 (s sep : ByteArray) (w : World) : World := ((w.alloc (.cells #[.string s] 9)).alloc (.cells #[.string sep] 9)).alloc (.cells #[.int .i64 0] 3)

theorem splitSeq_any (s sep : ByteArray) (w : World) : Calls Tryf.prog 40 #[.string s, .string sep, .int .i64 0] w fun e w' =>
    e = .returned (.func (.func 47) #[] #[.pointer (some ⟨w.heap.size + 1, 0, none⟩), .pointer (some ⟨w.heap.size, 0, none⟩), .pointer (some ⟨w.heap.size + 1 + 1, 0, none⟩)]) ∧ w' = split3 s sep w := by
  go_enter Tryf.func40, Tryf.ntmps40
  go_wp2
  go_ret
  exact ⟨rfl, rfl⟩

theorem SplitSeq_any (s sep : ByteArray) (w : World) : Calls Tryf.prog 32 #[.string s, .string sep] w fun e w' =>
    e = .returned (.func (.func 47) #[] #[.pointer (some ⟨w.heap.size + 1, 0, none⟩), .pointer (some ⟨w.heap.size, 0, none⟩), .pointer (some ⟨w.heap.size + 1 + 1, 0, none⟩)]) ∧ w' = split3 s sep w := by
  have C := splitSeq_any s sep w
  go_enter Tryf.func32, Tryf.ntmps32
  go_wp2_with (go_at_call 40; refine C.mono ?_; clear C; rintro e w1 ⟨rfl, rfl⟩)
  go_ret
  exact ⟨rfl, rfl⟩

/-- a label's byte -/
def lb (x : UInt8) : Bool := (decide (97 ≤ x.toNat) && decide (x.toNat ≤ 122)) || (decide (48 ≤ x.toNat) && decide (x.toNat ≤ 57)) || decide (x.toNat = 45)
/-- a subdomain's byte -/
def sb (x : UInt8) : Bool := lb x || x == 46

theorem take_lb (x : ByteArray) (k : Nat) (hk : k < x.size) (h : ∀ b ∈ x.data.toList.take k, lb b = true) (h2 : lb x[k] = true) : ∀ b ∈ x.data.toList.take (k + 1), lb b = true := by
  intro b hb
  rw [List.take_succ_eq_append_getElem (by rw [← Lib.size_eq]; exact hk)] at hb
  rcases List.mem_append.1 hb with hb | hb
  · exact h b hb
  · have e : b = x[k] := by
      rw [List.mem_singleton.1 hb]; rfl
    rw [e]; exact h2

/-- what isSubdomain answers -/
def SubP (s : ByteArray) (e : Ending) : Prop := ∃ b, e = .returned (.bool b) ∧ (b = true → s.size ≠ 0 ∧ ∀ x ∈ s.data.toList, sb x = true)

set_option linter.unusedSimpArgs false in
set_option maxRecDepth 100000 in
set_option maxHeartbeats 2000000 in
theorem isSubdomain_any (s : ByteArray) (w : World) : Calls Tryf.prog 20 #[.string s] w fun e w' => SubP s e ∧ Below w.heap.size w w' := by
  refine (callsIn_wide (n := 10)).1 ?_
  refine callsIn_of_wp_marks Tryf.func20 rfl trivial ?_ rfl
  simp only [Tryf.ntmps20, List.size_toArray, List.length_cons, List.length_nil, Nat.reduceAdd, Nat.reduceSub, Array.replicate_succ, Array.replicate_zero, List.push_toArray, List.append_toArray, List.nil_append, List.cons_append]
  have f32 : Fence.wide.fn 32 := trivial
  have hB : ∀ o, Below w.heap.size w (w.alloc o) := fun o => (Below.refl _ _).alloc (Nat.le_refl _) o
  have c0 : (w.alloc (.cells #[.bool false] 4)).cell? ⟨w.heap.size, 0, none⟩ = some (.bool false) := by simp [go_sem]
  by_cases h0 : s.size = 0
  · have h0' : (s.size : Int) = 0 := by omega
    have e1 : s.toList.isEmpty = true := by rw [Lib.toList_data, List.isEmpty_iff_length_eq_zero, ← Lib.size_eq]; exact h0
    gi_wp2
    refine ⟨.bool false, ?_, ⟨_, rfl, fun h => by cases h⟩, hB _⟩
    simp [results, Tryf.f20, go_sem, c0]
  have e1 : s.toList.isEmpty = false := by
    rw [List.isEmpty_eq_false_iff, Lib.toList_data]
    intro h
    have := Lib.size_eq s
    rw [h] at this
    exact h0 this
  by_cases h1 : 253 < s.size
  · have h1' : (253 : Int) < s.size := by omega
    gi_wp2
    refine ⟨.bool false, ?_, ⟨_, rfl, fun h => by cases h⟩, hB _⟩
    simp [results, Tryf.f20, go_sem, c0]
  have h1' : ¬ (253 : Int) < s.size := by omega
  have C := SplitSeq_any s ⟨#[46]⟩ (w.alloc (.cells #[.bool false] 4))
  gi_wp2_with (gi_at_call 32; refine (callsIn_wide.2 C).mono ?_; clear C; rintro e w1 ⟨rfl, rfl⟩)
  obtain ⟨W0, hW0⟩ : ∃ W0, split3 s ⟨#[46]⟩ (w.alloc (.cells #[.bool false] 4)) = W0 := ⟨_, rfl⟩
  have hsz : W0.heap.size = w.heap.size + 4 := by rw [← hW0]; simp [split3]
  have cB : W0.cell? ⟨w.heap.size, 0, none⟩ = some (.bool false) := by rw [← hW0]; simp [split3, go_sem]
  have fB : W0.frozen? ⟨w.heap.size, 0, none⟩ = false := by rw [← hW0]; simp [split3, go_sem]
  have c1 : W0.cell? ⟨w.heap.size + 1, 0, none⟩ = some (.string s) := by rw [← hW0]; simp [split3, go_sem]
  have g1 : W0.frozen? ⟨w.heap.size + 1, 0, none⟩ = false := by rw [← hW0]; simp [split3, go_sem]
  have c2 : W0.cell? ⟨w.heap.size + 1 + 1, 0, none⟩ = some (.string ⟨#[46]⟩) := by rw [← hW0]; simp [split3, go_sem]
  have c3 : W0.cell? ⟨w.heap.size + 1 + 1 + 1, 0, none⟩ = some (.int .i64 0) := by rw [← hW0]; simp [split3, go_sem]
  have hB0 : Below w.heap.size w W0 := by
    rw [← hW0]
    exact ((((Below.refl _ w).alloc (Nat.le_refl _) _).alloc (by simp) _).alloc (by simp; omega) _).alloc (by simp; omega) _
  rw [hW0]
  refine range_cell (gf := 47) (c := w.heap.size + 1) (S := Covers s) rfl (enters_of Tryf.func47 (by kernel_rfl) rfl)
    (split47 9 (by omega) (w.heap.size + 1 + 1) (w.heap.size + 1) (w.heap.size + 1 + 1 + 1) s W0 (by omega) (by omega) (by omega) (by omega) (by omega) c2 c1 g1 c3) (by omega)
    (fun pre W => (∀ x ∈ pre, ∀ b ∈ x.data.toList, lb b = true) ∧ W.cell? ⟨w.heap.size, 0, none⟩ = some (.bool false) ∧ W.frozen? ⟨w.heap.size, 0, none⟩ = false ∧ Below w.heap.size w W)
    (fun _ W => W.cell? ⟨w.heap.size, 0, none⟩ = some (.bool false) ∧ Below w.heap.size w W)
    (fun pre A B h hb => ⟨h.1, (hb.cell (p := ⟨w.heap.size, 0, none⟩) (by show w.heap.size < _; omega) (by show w.heap.size ≠ _; omega)).trans h.2.1, (hb.frozen (p := ⟨w.heap.size, 0, none⟩) (by show w.heap.size < _; omega) (by show w.heap.size ≠ _; omega)).trans h.2.2.1, h.2.2.2.trans ⟨hb.os, hb.tape, hb.output, hb.size, fun k hk => hb.block k (by omega) (by omega)⟩⟩)
    (fun pre A B h hb => ⟨(hb.cell (p := ⟨w.heap.size, 0, none⟩) (by show w.heap.size < _; omega) (by show w.heap.size ≠ _; omega)).trans h.1, h.2.trans ⟨hb.os, hb.tape, hb.output, hb.size, fun k hk => hb.block k (by omega) (by omega)⟩⟩)
    ⟨by simp, cB, fB, hB0⟩
    (fun x => { tmps := #[.string s, undef, .pointer (some ⟨w.heap.size, 0, none⟩), .string x, undef, undef, .string s, .bool false, .bool false, .string s, .int .i64 (s.size : Int), .bool false, .bool false, .string s,
      .func (.func 47) #[] #[.pointer (some ⟨w.heap.size + 1 + 1, 0, none⟩), .pointer (some ⟨w.heap.size + 1, 0, none⟩), .pointer (some ⟨w.heap.size + 1 + 1 + 1, 0, none⟩)], .string x, undef, undef, undef, undef, undef, undef, undef, undef, undef, undef, undef, undef, undef, undef, undef, undef, undef, undef, undef, undef, undef, undef, undef, undef, undef, undef, undef, undef, undef, undef, undef, undef, undef, undef, undef, undef, undef, undef, undef, undef, undef, undef, undef], defers := [] })
    ?assign ?body ?done ?stop
  case assign =>
    intro l x W K hK
    gi_wp2
    exact hK
  case body =>
    rintro l pre x W hxs ⟨hp, hc, hf, hBW⟩
    have hleave : KeepsOthers W (W.setCell ⟨w.heap.size, 0, none⟩ (.bool false)) ∧ (W.setCell ⟨w.heap.size, 0, none⟩ (.bool false)).cell? ⟨w.heap.size, 0, none⟩ = some (.bool false) ∧ Below w.heap.size w (W.setCell ⟨w.heap.size, 0, none⟩ (.bool false)) :=
      ⟨KeepsOthers.setCell _ _ _, World.cell?_setCell_same' _ _ _ (by rw [hc]; rfl), hBW.setCell (p := ⟨w.heap.size, 0, none⟩) (by simp) _⟩
    by_cases hx0 : x.size = 0
    · have e2 : x.toList.isEmpty = true := by rw [Lib.toList_data, List.isEmpty_iff_length_eq_zero, ← Lib.size_eq]; exact hx0
      gi_wp2
      exact hleave
    have e2 : x.toList.isEmpty = false := by
      rw [List.isEmpty_eq_false_iff, Lib.toList_data]
      intro h
      have := Lib.size_eq x
      rw [h] at this
      exact hx0 this
    have hx1 : (0 : Int) < (x.size : Int) := by omega
    gi_wp2
    · exact hleave
    · exact hleave
    gi_loop [33] (fun v => ∃ k : Nat, k ≤ x.size ∧ v = .int .i64 (k : Int) ∧ Hid (∀ b ∈ x.data.toList.take k, lb b = true)) (fun v => x.size - (intOf v).toNat)
    case atStart => exact ⟨0, by omega, rfl, by show ∀ b ∈ _, _; simp⟩
    case round =>
      obtain ⟨k, hk, rfl, HS⟩ := hrel
      by_cases hkx : k < x.size
      · have hkx' : (k : Int) < x.size := by omega
        have hw1 : IntKind.i64.wrap ((k : Int) + 1) = (k : Int) + 1 := by rw [IntKind.wrap_i64]; omega
        have HN : lb x[k] = true → Hid (∀ b ∈ x.data.toList.take (k + 1), lb b = true) := fun h => take_lb x k hkx HS.out h
        clear HS
        gi_wp2
        all_goals first
          | exact hleave
          | (refine ⟨⟨_, _, _, ⟨k + 1, hkx, rfl, HN ?_⟩, rfl, rfl, rfl⟩, ?_⟩
             · clear hW0
               unfold lb
               simp only [Bool.not_eq_eq_eq_not, Bool.not_true, Bool.not_false, Bool.or_eq_true, Bool.and_eq_true, decide_eq_true_eq, decide_eq_false_iff_not, beq_iff_eq, beq_eq_false_iff_ne] at *
               omega
             · show x.size - (((k : Int) + 1).toNat) < x.size - ((k : Int)).toNat
               omega)
      · have hkx' : ¬ (k : Int) < x.size := by omega
        obtain rfl : k = x.size := by omega
        have HA : ∀ b ∈ x.data.toList, lb b = true := by
          have := HS.out
          rwa [List.take_of_length_le (by rw [← Lib.size_eq]; omega)] at this
        gi_wp2
        exact ⟨KeepsOthers.refl _, Below.refl _ _, fun y hy b hb => by
          have hb' : b ∈ y.data.toList := by simpa using hb
          rcases List.mem_append.1 hy with e | e
          · exact hp y e b hb'
          · rw [List.mem_singleton.1 e] at hb'
            exact HA b hb', hc, hf, hBW⟩
  case done =>
    rintro D xs W hD hS ⟨hp, hc, hf, hBW⟩ hK
    gi_wp2
    have hK' := (KeepsOthers.setCell W ⟨w.heap.size, 0, none⟩ (.bool true)).same D _ hK rfl
    refine ⟨by simp, .inl ⟨_, _, rfl, run_takeDeferred hK', ?_⟩⟩
    have hc5 := cell_kept (World.cell?_setCell_same' W ⟨w.heap.size, 0, none⟩ (.bool true) (by rw [hc]; rfl)) (grownBy_putObj' _ D (.deferred none)) (fun r e => by cases e; exact ⟨_, hK', rfl⟩)
    refine ⟨.bool true, ?_, ⟨true, rfl, fun _ => ⟨h0, fun b hb => ?_⟩⟩, (hBW.setCell (p := ⟨w.heap.size, 0, none⟩) (by simp) _).trans (belowK_b (w := w) (Nat.le_refl _) _ D _ _ (by omega) hK' rfl rfl)⟩
    · simp [results, Tryf.f20, go_sem, hc5]
    · unfold sb
      rcases hS b hb with rfl | ⟨x, hx, hbx⟩
      · simp
      · simp [hp x hx b hbx]
  case stop =>
    rintro D xs W hD ⟨hc, hBW⟩ hK
    gi_wp2
    refine ⟨by simp, .inl ⟨_, _, rfl, run_takeDeferred hK, ?_⟩⟩
    have hc5 := cell_kept hc (grownBy_putObj' _ D (.deferred none)) (fun r e => by cases e; exact ⟨_, hK, rfl⟩)
    refine ⟨.bool false, ?_, ⟨false, rfl, fun h => by cases h⟩, hBW.trans (belowK_b (w := w) (Nat.le_refl _) W D _ _ (by omega) hK rfl rfl)⟩
    simp [results, Tryf.f20, go_sem, hc5]
end Go.Proofs.Qxb6605882aFmt
