/-
  THE WALKS of strings.explode and strings.Split(s, "") at every string.
-/
import Derived.Test.Qxb6608612aDoorRows
import Derived.Test.Qxb6608612aDoorPlainB
import Derived.Test.Qxb6608612aDoorShelf
import Derived.WalkKit
import Derived.WalkSpells
import Derived.WalkLawsBesides
namespace Go.Proofs.Qxb6608612aDoor
open Go.RowKit

theorem Tryd.info9 : (Tryd.prog.info? 9).map (fun i => (i.zero, i.size, i.bytes)) = some (some (.string ByteArray.empty), 1, 16) := by kernel_rfl

/-- a text out of its bytes -/
def str (l : List UInt8) : Value := .string ⟨l.toArray⟩

theorem tabs_below {w w' : World} (h : Lib.Utf8Tabs 1 2 w) (hz : 2 < w.heap.size) (hb : Below w.heap.size w w') : Lib.Utf8Tabs 1 2 w' := by
  refine ⟨fun c hc => (hb.cell (p := ⟨1, c, none⟩) (by show 1 < _; omega)).trans (h.1 c hc), fun i hi => ⟨?_, ?_⟩⟩
  · exact (hb.cell (p := ⟨2, 2 * i, none⟩) hz).trans (h.2 i hi).1
  · exact (hb.cell (p := ⟨2, 2 * i + 1, none⟩) hz).trans (h.2 i hi).2

/-- the step at the head of what is left -/
theorem decodeGo_W (s : ByteArray) (pos : Nat) (h : pos < s.size) : (Lib.decodeGo (s.extract pos s.size)).2 = W (s.data.toList.drop pos) := by
  unfold Lib.decodeGo
  have hsz : (s.extract pos s.size).size = s.size - pos := by rw [ByteArray.size_extract]; omega
  rw [if_neg (by omega), decode_W, List.drop_zero, Lib.extract_to_end]

/-- the row while it is filled -/
def filled (A : List (List UInt8)) (n : Nat) : List Value := A.map str ++ List.replicate (n - A.length) (.string ByteArray.empty)
theorem filled_zero (n : Nat) : filled [] n = List.replicate n (.string ByteArray.empty) := by simp [filled]
theorem filled_set (A : List (List UInt8)) (n : Nat) (x : List UInt8) (h : A.length < n) : (filled A n).set A.length (str x) = filled (A ++ [x]) n := by
  unfold filled
  rw [List.set_append_right _ _ (by simp), List.length_map, Nat.sub_self]
  obtain ⟨m, hm⟩ : ∃ m, n - A.length = m + 1 := ⟨n - A.length - 1, by omega⟩
  have hm2 : n - (A ++ [x]).length = m := by simp; omega
  rw [hm, hm2, List.replicate_succ, List.set_cons_zero]
  simp
theorem filled_len (A : List (List UInt8)) (n : Nat) (h : A.length ≤ n) : (filled A n).length = n := by simp [filled]; omega
theorem filled_all (A : List (List UInt8)) : filled A A.length = A.map str := by simp [filled]

theorem own_below {w w' : World} {base : Nat} {e : TypeId} {size : Nat} {v : Value} {n : Nat} {xs : List Value} (h : w.ownsRow base e size v n xs) (hb : Below w.heap.size w w') : w'.ownsRow base e size v n xs := by
  refine ⟨h.1, ?_⟩
  rcases h.2 with h2 | ⟨g, cap, cur, h1, h2, h3, h4⟩
  · exact .inl h2
  · refine .inr ⟨g, cap, cur, h1, h2, ?_, h4⟩
    rw [hb.block g (by
      rcases Nat.lt_or_ge g w.heap.size with h | h
      · exact h
      · rw [Array.getElem?_eq_none h] at h3; cases h3)]
    exact h3
theorem ba_ext {a b : ByteArray} (h : a.data.toList = b.data.toList) : a = b := by
  obtain ⟨⟨a⟩⟩ := a
  obtain ⟨⟨b⟩⟩ := b
  simp at h
  rw [h]
theorem extract_part (r : ByteArray) (f j : Nat) : (r.extract f j).data.toList = (r.data.toList.drop f).take (j - f) := by
  rw [Lib.extract_data]
theorem piece_head (s : ByteArray) (pos K : Nat) : Value.string ((s.extract pos s.size).extract 0 K) = str ((s.data.toList.drop pos).take K) := by
  unfold str
  congr 1
  apply ba_ext
  rw [extract_part, Lib.extract_to_end]
  simp
theorem piece_tail (s : ByteArray) (pos K : Nat) : (s.extract pos s.size).extract K (s.size - pos) = s.extract (pos + K) s.size := by
  apply ba_ext
  have e : s.size - pos = (s.extract pos s.size).size := by rw [ByteArray.size_extract]; omega
  rw [e, Lib.extract_to_end, Lib.extract_to_end, Lib.extract_to_end, List.drop_drop]

set_option maxRecDepth 100000 in
set_option maxHeartbeats 1000000 in
theorem explode_any (s : ByteArray) (w : World) (hs : s.size ≤ 2000000) (h0 : 0 < s.size) (hT : Lib.Utf8Tabs 1 2 w) (hz : 2 < w.heap.size) :
    Calls Tryd.prog 27 #[.string s, .int .i64 (-1)] w fun e w' => ∃ g, e = .returned (.slice (some ⟨g, 0, none⟩) (P s.data.toList).length (P s.data.toList).length) ∧
      (∀ (k : Nat) x, (P s.data.toList)[k]? = some x → w'.cell? ⟨g, k, none⟩ = some (str x)) ∧ w.heap.size ≤ g ∧ g < w'.heap.size ∧ Below w.heap.size w w' := by
  obtain ⟨i0, hi, hz0, hz1, hz2⟩ := info_parts Tryd.info9
  have hlen : s.data.toList.length = s.size := rfl
  have CR := Tryd.utf8_RuneCountInString s w (by omega)
  rw [runeCount_P] at CR
  have hnle : (P s.data.toList).length ≤ s.size := by rw [← runeCount_P]; exact Lib.runeCount_le s
  have hn1 : 0 < (P s.data.toList).length := by
    rw [List.length_pos_iff, ne_eq, P_empty]
    intro e; rw [e] at hlen; simp at hlen; omega
  have hst : P s.data.toList = [] ++ P (s.data.toList.drop 0) := by simp
  generalize hPL : P s.data.toList = L at *
  generalize hN : L.length = N at *
  go_enter Tryd.func27, Tryd.ntmps27
  go_wp2_with (first
    | (go_at_call 36; refine CR.mono ?_; rintro e w1 ⟨rfl, pos0, rfl⟩)
    | (at_make; refine wpList_make_full _ rfl _ _ 35 rfl (w.heap.size + 1) 9 i0 (.string ByteArray.empty) 1 Tryd.underlying35 hi hz0 hz1 _ _ _ _ N rfl rfl rfl rfl (by rw [hz2]; omega) (by unfold maxLen; omega) (by simp [World.iter]) ?_; intro w2 hown2 hgrow2))
  have hG : (w.iter s pos0).heap.size = w.heap.size + 1 := by simp [World.iter]
  have hb0 : Below w.heap.size w w2 := ((Below.refl _ _).alloc (Nat.le_refl _) (.stringIter s pos0)).grown hgrow2 (by show _ ≤ (w.iter s pos0).heap.size; rw [hG]; omega) (fun k h => by cases h)
  have hmc : (madeCells (Value.string ByteArray.empty).cells (N * 1)).toList = filled [] N := by
    rw [filled_zero, Nat.mul_one]
    show (madeCells #[.string ByteArray.empty] N).toList = _
    rw [← Lib.cellsOf_nil]
    simp [Lib.cellsOf]
  rw [hmc, hG] at hown2
  rw [hG]
  have HO2 : Hid (w2.ownsRow (w.heap.size + 1) 9 1 (.slice (some ⟨w.heap.size + 1, 0, none⟩) N N) N (filled [] N)) := hown2
  clear hown2 hgrow2 hmc CR
  go_loopw [0, 7] (fun v0 v7 wr => ∃ (A : List (List UInt8)) (pos : Nat), v0 = .string (s.extract pos s.size) ∧ v7 = .int .i64 (A.length : Int) ∧ A.length + 1 ≤ N ∧ Hid (L = A ++ P (s.data.toList.drop pos)) ∧
      Hid (wr.ownsRow (w.heap.size + 1) 9 1 (.slice (some ⟨w.heap.size + 1, 0, none⟩) N N) N (filled A N)) ∧ Below w.heap.size w wr) (fun _ i _ => N - (intOf i).toNat)
  case atStart => exact ⟨[], 0, by rw [Lib.whole_piece], rfl, by simp; omega, hst, HO2, hb0⟩
  case round =>
    obtain ⟨A, pos, rfl, rfl, hA, HL, HO, hbel⟩ := hrel
    have hposlt : pos < s.size := by
      rcases Nat.lt_or_ge pos s.size with h | h
      · exact h
      · have e := HL.out
        rw [List.drop_of_length_le (by omega), P_nil, List.append_nil] at e
        rw [e] at hN
        omega
    have hne : s.data.toList.drop pos ≠ [] := by
      intro e
      have := congrArg List.length e
      rw [List.length_drop, List.length_nil] at this
      omega
    have hPc := P_cons _ hne
    have hfl : (filled A N)[A.length]? = some (.string ByteArray.empty) := by
      unfold filled
      rw [List.getElem?_append_right (by simp), List.length_map, Nat.sub_self, List.getElem?_replicate, if_pos (by omega)]
    have HF : Hid ((filled A N)[A.length]? = some (.string ByteArray.empty)) := hfl
    clear hfl
    by_cases hlt : A.length + 1 < N
    · have CD := Tryd.utf8_DecodeRuneInString (s.extract pos s.size) wr (tabs_below hT hz hbel)
      have hwp := W_pos (s.data.toList.drop pos)
      have hwl := W_le _ hne
      rw [List.length_drop, hlen] at hwl
      rw [decodeGo_W s pos hposlt] at CD
      generalize (Lib.decodeGo (s.extract pos s.size)).1 = R at CD
      generalize hK : W (s.data.toList.drop pos) = K at *
      have HE : Hid (L = (A ++ [(s.data.toList.drop pos).take K]) ++ P (s.data.toList.drop (pos + K))) := by
        rw [HL.out, hPc, List.drop_drop, List.append_assoc]; trivial
      clear hPc hK
      go_wp2_with (go_at_call 37; refine CD.mono ?_; clear CD; rintro e w3 ⟨rfl, hb3⟩; have HO3 := own_below HO.out hb3; have hcl3 := (HO3.cellAt A.length (by omega)).trans HF.out; have hfr3 := HO3.frozenAt A.length; have HO4 : Hid _ := (HO3.stored A.length (str ((s.data.toList.drop pos).take K))).1; have HB4 : Hid (Below w.heap.size w (w3.setCell ⟨w.heap.size + 1, A.length, none⟩ (str ((s.data.toList.drop pos).take K)))) := ((hbel.trans (hb3.mono hbel.size)).setCell (by show _ ≤ w.heap.size + 1; omega) _); clear HO3 hb3)
      go_roundw
      case rel =>
        refine ⟨A ++ [(s.data.toList.drop pos).take K], pos + K, by rw [piece_tail], by simp, by simp; omega, HE, ?_, ?_⟩
        · rw [piece_head]
          show World.ownsRow _ _ _ _ _ _ _
          have := HO4.out
          rw [filled_set _ _ _ (by omega)] at this
          exact this
        · rw [piece_head]; exact HB4.out
      case measure => simp [intOf]; omega
    · have hAN : A.length + 1 = N := by omega
      subst hAN
      have hlast : P (s.data.toList.drop pos) = [s.data.toList.drop pos] := by
        have e := HL.out
        have e2 : (P (s.data.toList.drop pos)).length = 1 := by
          have := congrArg List.length e
          rw [List.length_append] at this
          omega
        have e3 := P_flat (s.data.toList.drop pos)
        match hq : P (s.data.toList.drop pos), e2 with
        | [x], _ => rw [hq] at e3; simp at e3; rw [e3]
      have HE : Hid (L = A ++ [s.data.toList.drop pos]) := by rw [HL.out, hlast]; trivial
      have hcl := (HO.out.cellAt A.length (by omega)).trans HF.out
      have hfr := HO.out.frozenAt A.length
      have hval : Value.string (s.extract pos s.size) = str (s.data.toList.drop pos) := by
        unfold str
        congr 1
        apply ba_ext
        rw [Lib.extract_to_end]
      have HO4 := (HO.out.stored A.length (.string (s.extract pos s.size))).1
      rw [hval, filled_set _ _ _ (by omega), ← hval] at HO4
      have hG2 := (HO4.lt) (w.heap.size + 1) rfl
      have HC4 : Hid (∀ (k : Nat) x, L[k]? = some x → (wr.setCell ⟨w.heap.size + 1, A.length, none⟩ (.string (s.extract pos s.size))).cell? ⟨w.heap.size + 1, k, none⟩ = some (str x)) := by
        intro k x hx
        have hk : k < A.length + 1 := by
          rcases Nat.lt_or_ge k L.length with h | h
          · omega
          · rw [List.getElem?_eq_none h] at hx; cases hx
        rw [HO4.cellAt k (by omega)]
        have e : filled (A ++ [s.data.toList.drop pos]) (A.length + 1) = L.map str := by
          rw [HE.out]
          have : A.length + 1 = (A ++ [s.data.toList.drop pos]).length := by simp
          rw [this, filled_all]
        rw [e, List.getElem?_map, hx]; rfl
      have HB4 : Hid (Below w.heap.size w (wr.setCell ⟨w.heap.size + 1, A.length, none⟩ (.string (s.extract pos s.size)))) := hbel.setCell (by show _ ≤ w.heap.size + 1; omega) _
      have HG3 : Hid (w.heap.size + 1 < (wr.setCell ⟨w.heap.size + 1, A.length, none⟩ (.string (s.extract pos s.size))).heap.size) := hG2.2
      clear HO4 hG2 hlast hPc HL hval
      go_wp2
      go_ret
      exact ⟨w.heap.size + 1, rfl, HC4.out, by omega, HG3.out, HB4.out⟩
end Go.Proofs.Qxb6608612aDoor
