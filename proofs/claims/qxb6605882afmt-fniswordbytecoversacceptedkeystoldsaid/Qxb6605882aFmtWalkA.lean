/-
  THE WALK of strings.splitSeq$1 at the separator ".": the iterator's word.
-/
import Derived.Test.Qxb6605882aFmtRange
import Derived.Test.Qxb6605882aFmtShelf
namespace Go.Proofs.Qxb6605882aFmt
open Go.RowKit Go.Shelf
attribute [local go_sem] Oper.semAt_some

/-- the bytes of a text are dots or lie in one of the pieces -/
def Covers (s : ByteArray) (xs : List ByteArray) : Prop := ∀ b ∈ s.data.toList, b = 46 ∨ ∃ x ∈ xs, b ∈ x.data.toList
def left (b : Nat) (w : World) : Nat := match w.cell? ⟨b, 0, none⟩ with | some (.string t) => t.size | _ => 0

theorem index_parts (t : ByteArray) (i : Nat) (h : Lib.indexByte t.data.toList 46 = (i : Int)) : i + 1 ≤ t.size ∧ ∀ x ∈ t.data.toList, x = 46 ∨ x ∈ (t.extract 0 i).data.toList ∨ x ∈ (t.extract (i + 1) t.size).data.toList := by
  obtain ⟨h1, _⟩ := Lib.indexByte_some h
  obtain ⟨hi, he⟩ := List.getElem?_eq_some_iff.1 h1
  refine ⟨hi, fun x hx => ?_⟩
  have e1 : (t.extract 0 i).data.toList = t.data.toList.take i := by rw [Lib.extract_data]; simp
  have e2 : (t.extract (i + 1) t.size).data.toList = t.data.toList.drop (i + 1) := Lib.extract_to_end _ _
  rw [e1, e2]
  have e3 : t.data.toList = t.data.toList.take i ++ t.data.toList[i] :: t.data.toList.drop (i + 1) := by
    rw [List.getElem_cons_drop, List.take_append_drop]
  rw [e3] at hx
  rcases List.mem_append.1 hx with h | h
  · exact .inr (.inl h)
  · rcases List.mem_cons.1 h with h | h
    · left; rw [h, he]
    · exact .inr (.inr h)

set_option maxRecDepth 100000 in
set_option maxHeartbeats 2000000 in
theorem split47 (n : Nat) (hn : 1 ≤ n) (a b d : Nat) (s : ByteArray) (w : World) (hab : a < w.heap.size) (hdb : d < w.heap.size) (ha : a ≠ b) (hd : d ≠ b) (hs : s.size ≤ 1000)
    (ca : w.cell? ⟨a, 0, none⟩ = some (.string ⟨#[46]⟩)) (cb : w.cell? ⟨b, 0, none⟩ = some (.string s)) (fb : w.frozen? ⟨b, 0, none⟩ = false) (cd : w.cell? ⟨d, 0, none⟩ = some (.int .i64 0)) :
    Splits Tryf.prog n 47 #[.pointer (some ⟨a, 0, none⟩), .pointer (some ⟨b, 0, none⟩), .pointer (some ⟨d, 0, none⟩)] b (Covers s) w := by
  intro l J Jx W hW hbw hJ hJx hY h0
  show CallsIn Fence.wide n Tryf.prog 47 #[.func (.yield l) #[] #[], .pointer (some ⟨a, 0, none⟩), .pointer (some ⟨b, 0, none⟩), .pointer (some ⟨d, 0, none⟩)] W _
  have ca0 := (hW.cell (p := ⟨a, 0, none⟩) hab).trans ca
  have cb0 := (hW.cell (p := ⟨b, 0, none⟩) hbw).trans cb
  have cd0 := (hW.cell (p := ⟨d, 0, none⟩) hdb).trans cd
  have fb0 := (hW.frozen (p := ⟨b, 0, none⟩) hbw).trans fb
  refine callsIn_of_wp Tryf.func47 rfl trivial ?_ rfl
  simp only [Tryf.ntmps47, List.size_toArray, List.length_cons, List.length_nil, Nat.reduceAdd, Nat.reduceSub, Array.replicate_succ, Array.replicate_zero, List.push_toArray, List.append_toArray, List.nil_append, List.cons_append]
  gi_wp2
  gi_loopw [7] (fun _ wr => ∃ (pre : List ByteArray) (t : ByteArray), J pre wr ∧ wr.cell? ⟨b, 0, none⟩ = some (.string t) ∧ wr.frozen? ⟨b, 0, none⟩ = false ∧ wr.cell? ⟨a, 0, none⟩ = some (.string ⟨#[46]⟩) ∧ wr.cell? ⟨d, 0, none⟩ = some (.int .i64 0) ∧ t.size ≤ 1000 ∧
      Hid (∀ x ∈ s.data.toList, x = 46 ∨ (∃ y ∈ pre, x ∈ y.data.toList) ∨ x ∈ t.data.toList)) (fun _ wr => left b wr)
  case atStart => exact ⟨[], s, h0, cb0, fb0, ca0, cd0, hs, fun x hx => .inr (.inr hx)⟩
  case round =>
    obtain ⟨pre, t, hJt, ct, ft, cat, cdt, hts, HS⟩ := hrel
    have CI := Tryf.strings_Index_one t 46 wr
    have f49 : Fence.wide.fn 49 := trivial
    rcases Int.lt_or_le (Lib.indexByte t.data.toList 46) 0 with hlt | hge
    · generalize Lib.indexByte t.data.toList 46 = k at *
      obtain ⟨fn, tmps, assign, body, hy, hR⟩ := hY pre t wr hts hJt
      gi_wp2_with (gi_at_call 49; refine (callsIn_wide.2 CI).mono ?_; clear CI; rintro e w1 ⟨rfl, hw1⟩; replace hw1 := hw1.symm; subst hw1)
      refine hR.mono ?_
      have HC : Hid (Covers s (pre ++ [t])) := fun x hx => by
        rcases HS.out x hx with h | ⟨y, hy, h⟩ | h
        · exact .inl h
        · exact .inr ⟨y, List.mem_append_left _ hy, h⟩
        · exact .inr ⟨t, by simp, h⟩
      rintro e W3 (⟨rfl, hJ3, hk3⟩ | ⟨rfl, hJx3⟩)
      · gi_wp2
        go_end0
        exact ⟨⟨_, rfl⟩, .inl ⟨_, HC.out, hJ3⟩⟩
      · gi_wp2
        go_end0
        exact ⟨⟨_, rfl⟩, .inr ⟨_, hJx3⟩⟩
    · obtain ⟨i, hi⟩ := Int.eq_ofNat_of_zero_le hge
      obtain ⟨p1, p2⟩ := index_parts t i hi
      rw [hi] at CI
      have HS2 : Hid (∀ x ∈ s.data.toList, x = 46 ∨ (∃ y ∈ pre ++ [t.extract 0 i], x ∈ y.data.toList) ∨ x ∈ (t.extract (i + 1) t.size).data.toList) := fun x hx => by
        rcases HS.out x hx with h | ⟨y, hy, h⟩ | h
        · exact .inl h
        · exact .inr (.inl ⟨y, List.mem_append_left _ hy, h⟩)
        · rcases p2 x h with h | h | h
          · exact .inl h
          · exact .inr (.inl ⟨_, by simp, h⟩)
          · exact .inr (.inr h)
      obtain ⟨fn, tmps, assign, body, hy, hR⟩ := hY pre (t.extract 0 i) wr (by rw [ByteArray.size_extract]; omega) hJt
      have q1 : (i : Int) ≤ (t.size : Int) := by omega
      have q2 : (i : Int) + 1 ≤ (t.size : Int) := by omega
      clear p2 hge hi HS
      gi_wp2_with (gi_at_call 49; refine (callsIn_wide.2 CI).mono ?_; clear CI; rintro e w1 ⟨rfl, hw1⟩; replace hw1 := hw1.symm; subst hw1)
      refine hR.mono ?_
      rintro e W3 (⟨rfl, hJ3, hk3⟩ | ⟨rfl, hJx3⟩)
      · have ct3 := (hk3.cell (p := ⟨b, 0, none⟩) hbw).trans ct
        have ft3 := (hk3.frozen (p := ⟨b, 0, none⟩) hbw).trans ft
        have ca3 := (hk3.cell (p := ⟨a, 0, none⟩) hab).trans cat
        have cd3 := (hk3.cell (p := ⟨d, 0, none⟩) hdb).trans cdt
        gi_wp2
        go_roundw
        case rel =>
          refine ⟨pre ++ [t.extract 0 i], t.extract (i + 1) t.size, ?_, ?_, ?_, ?_, ?_, ?_, HS2.out⟩
          · exact hJ _ _ _ hJ3 (But.setCell _ _)
          · exact World.cell?_setCell_same' _ _ _ (by rw [ct3]; rfl)
          · rw [World.frozen?_setCell]; exact ft3
          · rw [World.cell?_setCell_other _ _ _ _ (by intro e; exact ha (congrArg Addr.block e).symm)]; exact ca3
          · rw [World.cell?_setCell_other _ _ _ _ (by intro e; exact hd (congrArg Addr.block e).symm)]; exact cd3
          · rw [ByteArray.size_extract]; omega
        case measure =>
          have e1 : left b wr = t.size := by unfold left; rw [ct]
          have e2 : left b (W3.setCell ⟨b, 0, none⟩ (.string (t.extract (i + 1) t.size))) = t.size - (i + 1) := by
            unfold left
            rw [World.cell?_setCell_same' _ _ _ (by rw [ct3]; rfl)]
            show (t.extract (i + 1) t.size).size = _
            rw [ByteArray.size_extract]; omega
          rw [e1, e2]; omega
      · gi_wp2
        refine bodyPost_ret (results_none rfl _ _ _) rfl ?_
        exact ⟨⟨_, rfl⟩, .inr ⟨_, hJx3⟩⟩
end Go.Proofs.Qxb6605882aFmt
