/-
  THE WALKS of strings.Split(s, "") and of the form's list.
-/
import Derived.Test.Qxb6608612aDoorWalkA
namespace Go.Proofs.Qxb6608612aDoor
open Go.RowKit

def MadePieces (w : World) (l : List UInt8) (e : Ending) (w' : World) : Prop :=
  ∃ g, e = .returned (.slice (some ⟨g, 0, none⟩) (P l).length (P l).length) ∧
      (∀ (k : Nat) x, (P l)[k]? = some x → w'.cell? ⟨g, k, none⟩ = some (str x)) ∧ w.heap.size ≤ g ∧ g < w'.heap.size ∧ Below w.heap.size w w'

theorem genSplit_empty (s : ByteArray) (w : World) (hs : s.size ≤ 2000000) (h0 : 0 < s.size) (hT : Lib.Utf8Tabs 1 2 w) (hz : 2 < w.heap.size) :
    Calls Tryd.prog 22 #[.string s, .string ⟨#[]⟩, .int .i64 0, .int .i64 (-1)] w (MadePieces w s.data.toList) := by
  have C := explode_any s w hs h0 hT hz
  go_enter Tryd.func22, Tryd.ntmps22
  go_wp2_with (go_at_call 27; refine C.mono ?_; rintro e w1 ⟨g, rfl, h1, h2, h3, h4⟩)
  go_ret
  exact ⟨g, rfl, h1, h2, h3, h4⟩

theorem Split_empty (s : ByteArray) (w : World) (hs : s.size ≤ 2000000) (h0 : 0 < s.size) (hT : Lib.Utf8Tabs 1 2 w) (hz : 2 < w.heap.size) :
    Calls Tryd.prog 18 #[.string s, .string ⟨#[]⟩] w (MadePieces w s.data.toList) := by
  have C := genSplit_empty s w hs h0 hT hz
  go_enter Tryd.func18, Tryd.ntmps18
  go_wp2_with (go_at_call 22; refine C.mono ?_; rintro e w1 ⟨g, rfl, h1, h2, h3, h4⟩)
  go_ret
  exact ⟨g, rfl, h1, h2, h3, h4⟩

/-- the list: all pieces but the last joined, ' and ', the last -/
def listed (l : List UInt8) : List UInt8 := Lib.join (P l).dropLast [44, 32] ++ [32, 97, 110, 100, 32] ++ (P l).getLastD []

theorem lens_flat (A : List (List UInt8)) : Lib.lens A = A.flatten.length := by
  unfold Lib.lens
  rw [List.length_flatten]

theorem join_bound (A : List (List UInt8)) : (Lib.join A [44, 32]).length ≤ 2 * A.length + A.flatten.length := by
  cases A with
  | nil => simp [Lib.join_nil]
  | cons a A =>
    rw [Lib.join_length, lens_flat]
    simp
    omega

theorem str_size (l : List UInt8) : (⟨l.toArray⟩ : ByteArray).size = l.length := by simp [ByteArray.size]

theorem join_pieces (A : List (List UInt8)) (g c : Nat) (w : World) (hc : ∀ (k : Nat) x, A[k]? = some x → w.cell? ⟨g, k, none⟩ = some (str x)) (hg : g < w.heap.size) (hn : A.length ≤ c) (hn2 : A.length ≤ 3000000) (hf : A.flatten.length ≤ 3000000) :
    Calls Tryd.prog 19 #[.slice (some ⟨g, 0, none⟩) A.length c, .string ⟨#[44, 32]⟩] w fun e w' => e = .returned (str (Lib.join A [44, 32])) ∧ Below w.heap.size w w' := by
  have hm : (A.map fun x => (⟨x.toArray⟩ : ByteArray)).map (·.data.toList) = A := by
    rw [List.map_map]
    conv => rhs; rw [← List.map_id A]
    apply List.map_congr_left
    intro x _
    simp
  have C := Tryd.strings_Join g 0 c (A.map fun x => ⟨x.toArray⟩) ⟨#[44, 32]⟩ w (by
    intro j x hx
    rw [List.getElem?_map] at hx
    rw [Nat.zero_add]
    cases h : A[j]? with
    | none => rw [h] at hx; cases hx
    | some y => rw [h] at hx; cases hx; exact hc j y h) hg (by rw [List.length_map]; omega) (by rw [List.length_map]; omega) (by
    rw [hm]
    have := join_bound A
    show (Lib.join A [44, 32]).length ≤ _
    omega)
  rw [hm, List.length_map] at C
  exact C

set_option maxRecDepth 100000 in
set_option maxHeartbeats 1000000 in
theorem listOthers_any (m : Int) (s : ByteArray) (w : World) (hs : s.size ≤ 2000000) (h0 : 0 < s.size) (hT : Lib.Utf8Tabs 1 2 w) (hz : 2 < w.heap.size) :
    Calls Tryd.prog 15 #[.agg #[.int .i64 m, .string s]] w fun e w' => e = .returned (str (listed s.data.toList)) ∧ Below w.heap.size w w' := by
  have hsz1 : ∀ o, (w.alloc o).heap.size = w.heap.size + 1 := fun o => by simp
  have C := fun o => Split_empty s (w.alloc o) hs h0 (tabs_below hT hz ((Below.refl _ _).alloc (Nat.le_refl _) o)) (by rw [hsz1]; omega)
  have hne : P s.data.toList ≠ [] := by
    rw [ne_eq, P_empty]; intro e
    have : s.data.toList.length = s.size := rfl
    rw [e] at this; simp at this; omega
  have hlen : (P s.data.toList).flatten.length = s.size := by rw [P_flat]; rfl
  have hnle : (P s.data.toList).length ≤ s.size := by rw [← runeCount_P]; exact Lib.runeCount_le s
  unfold listed
  unfold MadePieces at C
  generalize P s.data.toList = L at *
  obtain ⟨H, x, rfl⟩ : ∃ H x, L = H ++ [x] := ⟨L.dropLast, L.getLast hne, (List.dropLast_concat_getLast hne).symm⟩
  rw [List.dropLast_concat, List.getLastD_concat]
  simp only [List.length_append, List.length_singleton, List.flatten_append, List.length_append] at C hlen hnle
  clear hne
  have hjb := join_bound H
  have hxl : x.length ≤ 2000000 := by simp at hlen; omega
  have HR : Hid (str (Lib.join H [44, 32] ++ [32, 97, 110, 100, 32] ++ x) = .string (⟨(Lib.join H [44, 32]).toArray⟩ ++ (⟨#[32, 97, 110, 100, 32]⟩ : ByteArray) ++ ⟨x.toArray⟩)) := by
    show _ = _
    unfold str
    rw [← ByteArray.mk_append_mk, ← ByteArray.mk_append_mk]
  have hadd1 := fun w => run_string_add_sum (P := Tryd.prog) w ⟨(Lib.join H [44, 32]).toArray⟩ ⟨#[32, 97, 110, 100, 32]⟩ (by rw [str_size]; show _ + 5 ≤ _; omega)
  have hadd2 := fun w => run_string_add_sum (P := Tryd.prog) w (⟨(Lib.join H [44, 32]).toArray⟩ ++ ⟨#[32, 97, 110, 100, 32]⟩) ⟨x.toArray⟩ (by rw [ByteArray.size_append, str_size (Lib.join H [44, 32]), str_size x]; show _ + 5 + _ ≤ _; omega)
  clear hjb hxl
  go_enter Tryd.func15, Tryd.ntmps15
  go_wp2_with (go_at_call 18; refine (C _).mono ?_; clear C; rintro e w1 ⟨g, rfl, hcells, hg1, hg2, hb⟩; have hcx : w1.cell? ⟨g, H.length, none⟩ = some (.string ⟨x.toArray⟩) := hcells H.length x (by simp); have CJ := join_pieces H g (H.length + 1) w1.drew (fun k y hy => hcells k y (by rw [List.getElem?_append_left (List.getElem?_eq_some_iff.1 hy).1]; exact hy)) hg2 (by omega) (by omega) (by omega); replace CJ := CJ.mono (R' := fun e w2 => e = .returned (.string ⟨(Lib.join H [44, 32]).toArray⟩) ∧ w2.cell? ⟨g, H.length, none⟩ = some (.string ⟨x.toArray⟩) ∧ Below w1.heap.size w1 w2) (fun e w2 h => ⟨by rw [h.1]; rfl, (h.2.cell (p := ⟨g, H.length, none⟩) hg2).trans hcx, (Below.refl _ _).drew.trans h.2⟩); clear hcells)
  go_region_with (go_at_call 19; refine CJ.mono ?_; rintro e w2 ⟨rfl, hcx2, hb2⟩)
  all_goals (go_wp2_with fail; go_ret; exact ⟨HR.out ▸ rfl, (((Below.refl _ _).alloc (Nat.le_refl _) _).trans (hb.mono (by rw [hsz1]; omega))).trans (hb2.mono (by rw [hsz1] at hg1; omega))⟩)
end Go.Proofs.Qxb6608612aDoor
