/-
  THE WALK of splitQuery.
-/
import Derived.Test.Qxb6605388aDoorWalkA
import Derived.Test.Qxb6605388aDoorShelf
namespace Go.Proofs.Qxb6605388aDoor
open Go.RowKit

theorem Tryd.info9 : (Tryd.prog.info? 9).map (fun i => (i.zero, i.size, i.bytes)) = some (some (.string ByteArray.empty), 1, 16) := by kernel_rfl

set_option maxHeartbeats 400000 in
theorem splitQuery_none (s : ByteArray) (w : World) (hq : Lib.indexByte s.data.toList 63 = -1) :
    Calls Tryd.prog 14 #[.string s] w fun e w' => e = .returned (.tuple #[.string s, .slice none 0 0]) ∧ w' = w := by
  have hq' : Lib.indexByte s.data.toList (63 : Int).toNat.toUInt8 = -1 := hq
  go_enter Tryd.func14, Tryd.ntmps14
  go_wp2_with (go_at_call 16; refine (Tryd.strings_IndexByte _ _ _).mono ?_; rintro e w' ⟨rfl, rfl⟩)
  go_ret2
  exact ⟨rfl, rfl⟩

theorem piecesB_length (r : ByteArray) : (piecesB r).length = Lib.countB r ⟨#[38]⟩ + 1 := Lib.splitB_all _ (by decide) 0 _ r rfl
theorem piecesB_le (r : ByteArray) : (piecesB r).length ≤ r.size + 1 := by
  rw [piecesB_length]
  have := Lib.countB_le ⟨#[38]⟩ (by decide) r.size r (Nat.le_refl _)
  omega
theorem splitB_small (sep : ByteArray) : ∀ (k : Nat) (s x : ByteArray), x ∈ Lib.splitB sep 0 k s → x.size ≤ s.size
  | 0, s, x, h => by simp [Lib.splitB] at h; subst h; exact Nat.le_refl _
  | k + 1, s, x, h => by
    unfold Lib.splitB at h
    split at h
    · simp at h; subst h; exact Nat.le_refl _
    · rcases List.mem_cons.1 h with rfl | h
      · rw [ByteArray.size_extract]; omega
      · have := splitB_small sep k _ x h
        rw [ByteArray.size_extract] at this
        omega
theorem piecesB_small (r x : ByteArray) (h : x ∈ piecesB r) : x.size ≤ r.size := splitB_small _ _ _ _ h

theorem split_amp (r : ByteArray) (m : Int) (w : World) (hs : r.size < 4294967281) (hm : w.cell? ⟨0, 0, none⟩ = some (.int .i64 m)) :
    Calls Tryd.prog 17 #[.string r, .string ⟨#[38]⟩] w fun e w' =>
      e = .returned (.slice (some ⟨w.heap.size, 0, none⟩) (piecesB r).length (piecesB r).length) ∧ w' = w.alloc (.cells ((piecesB r).map Value.string).toArray 9) := by
  rw [piecesB_length]
  exact Tryd.strings_Split r ⟨#[38]⟩ m w hs hm (by decide)

/-- the settings out of the first k pieces -/
def upto (P : List ByteArray) (k : Nat) : List ByteArray := (P.take k).foldl stepB []
theorem upto_zero (P : List ByteArray) : upto P 0 = [] := rfl
theorem upto_succ (P : List ByteArray) (k : Nat) (h : k < P.length) : upto P (k + 1) = stepB (upto P k) P[k] := by
  unfold upto
  rw [List.take_succ_eq_append_getElem h, List.foldl_append]; rfl
theorem upto_all (P : List ByteArray) (k : Nat) (h : P.length ≤ k) : upto P k = P.foldl stepB [] := by
  unfold upto
  rw [List.take_of_length_le h]
theorem upto_pos (P : List ByteArray) (k : Nat) (h : k < P.length) : upto P (k + 1) ≠ [] := by
  rw [upto_succ P k h]; unfold stepB; split <;> simp
theorem upto_len (P : List ByteArray) : ∀ k, (upto P k).length ≤ k
  | 0 => Nat.le_refl _
  | k + 1 => by
    by_cases h : k < P.length
    · have ih := upto_len P k
      rw [upto_succ P k h]; unfold stepB
      split
      · rename_i hh
        have : 0 < (upto P k).length := List.length_pos_iff.2 hh.1
        simp; omega
      · simp; omega
    · rw [upto_all P _ (by omega), ← upto_all P k (by omega)]
      have := upto_len P k
      omega
theorem upto_small (P : List ByteArray) (n : Nat) (hn : ∀ x ∈ P, x.size ≤ n) : ∀ k, ∀ x ∈ upto P k, x.size ≤ k * (n + 1)
  | 0, x, hx => by simp [upto_zero] at hx
  | k + 1, x, hx => by
    have ih := upto_small P n hn k
    by_cases h : k < P.length
    · rw [upto_succ P k h] at hx
      have hp := hn P[k] (List.getElem_mem h)
      have e : (k + 1) * (n + 1) = k * (n + 1) + (n + 1) := by rw [Nat.succ_mul]
      unfold stepB at hx
      split at hx
      · rename_i hh
        rcases List.mem_append.1 hx with hx | hx
        · have := ih x ((List.dropLast_sublist _).subset hx); omega
        · simp at hx
          subst hx
          have hl : (upto P k).getLastD ByteArray.empty ∈ upto P k := by
            obtain ⟨S, y, e⟩ : ∃ S y, upto P k = S ++ [y] := ⟨_, (upto P k).getLast hh.1, (List.dropLast_concat_getLast hh.1).symm⟩
            rw [e]; simp
          have := ih _ hl
          have e1 : (⟨#[38]⟩ : ByteArray).size = 1 := rfl
          have e2 : ((upto P k).getLast?.getD ByteArray.empty) = (upto P k).getLastD ByteArray.empty := by simp
          rw [e2, ByteArray.size_append, ByteArray.size_append, e1]
          omega
      · rcases List.mem_append.1 hx with hx | hx
        · have := ih x hx; omega
        · simp at hx; subst hx; omega
    · rw [upto_all P _ (by omega), ← upto_all P k (by omega)] at hx
      have := ih x hx
      have e : (k + 1) * (n + 1) = k * (n + 1) + (n + 1) := by rw [Nat.succ_mul]
      omega

theorem snoc_cases {α : Type} (L : List α) : L = [] ∨ ∃ S y, L = S ++ [y] := by
  by_cases h : L = []
  · exact .inl h
  · exact .inr ⟨L.dropLast, L.getLast h, (List.dropLast_concat_getLast h).symm⟩
theorem one_cell (w : World) (p : ByteArray) : ∀ (j : Nat) (u : Value), [Value.string p][j]? = some u → (w.alloc (.cells #[.string p] 9)).cell? ((⟨w.heap.size, 0, none⟩ : Addr).add j) = some u
  | 0, u, h => by simp at h; subst h; simp [Addr.add]
theorem one_one (p : ByteArray) : ∀ u ∈ [Value.string p], u.oneCell' = true := by intro u hu; simp at hu; subst hu; rfl
/-- what a round that appends leaves -/
theorem rel_push {w0 wr w1 : World} {B : Nat} {v v' : Value} {n : Nat} {xs xs' : List Value} {o : Obj} (hB : B ≤ w0.heap.size) (hown : wr.ownsRow B 9 1 v n xs) (hbel : Below B w0 wr)
    (hown' : w1.ownsRow B 9 1 v' (n + 1) xs') (hgrow : (wr.alloc o).grownBy w1 v.ownBlock) :
    w1.ownsRow B 9 1 v' (n + 1) xs' ∧ Below B w0 w1 := by
  refine ⟨hown', (hbel.alloc (Nat.le_trans hB hbel.size) o).grown hgrow ?_ fun k hk => ((hown.lt) k hk).1⟩
  have := hbel.size
  simp; omega

theorem own_out {w wr : World} {o : Obj} {v : Value} {L : List ByteArray} (hown : wr.ownsRow (w.heap.size + 1) 9 1 v L.length (L.map Value.string)) (hne : L ≠ []) (hbel : Below (w.heap.size + 1) (w.alloc o) wr) :
    ∃ g cap, v = .slice (some ⟨g, 0, none⟩) L.length cap ∧ (∀ k, k < L.length → wr.cell? ⟨g, k, none⟩ = some (.string (L.getD k ByteArray.empty))) ∧ w.heap.size ≤ g ∧ g < wr.heap.size ∧ Below w.heap.size w wr := by
  have hlt := hown.lt
  obtain ⟨g, cap, rfl⟩ : ∃ g cap, v = .slice (some ⟨g, 0, none⟩) L.length cap := by
    rcases hown.2 with ⟨_, h⟩ | ⟨g, cap, _, h, _⟩
    · simp at h; exact absurd h hne
    · exact ⟨g, cap, h⟩
  have h2 := hlt g rfl
  refine ⟨g, cap, rfl, fun k hk => ?_, by omega, h2.2, ((Below.refl _ _).alloc (Nat.le_refl _) o).trans (hbel.mono (by omega))⟩
  rw [hown.cellAt k (by omega)]
  simp [hk]

set_option maxHeartbeats 1000000 in
theorem splitQuery_some (s : ByteArray) (w : World) (m : Int) (hm : w.cell? ⟨0, 0, none⟩ = some (.int .i64 m)) (hs : s.size ≤ 100000) (q : Nat) (hq : Lib.indexByte s.data.toList 63 = q) :
    Calls Tryd.prog 14 #[.string s] w fun e w' => ∃ g cap, e = .returned (.tuple #[.string (s.extract 0 (q + 1)), .slice (some ⟨g, 0, none⟩) (settingsB (s.extract (q + 1) s.size)).length cap]) ∧
      (∀ k, k < (settingsB (s.extract (q + 1) s.size)).length → w'.cell? ⟨g, k, none⟩ = some (.string ((settingsB (s.extract (q + 1) s.size)).getD k ByteArray.empty))) ∧ w.heap.size ≤ g ∧ g < w'.heap.size ∧ Below w.heap.size w w' := by
  have hq' : Lib.indexByte s.data.toList (63 : Int).toNat.toUInt8 = q := hq
  have hqs : q < s.size := by
    rcases ib_cases s.data.toList 63 with ⟨h, _⟩ | ⟨k, h, hlt, _⟩
    · omega
    · have : s.data.toList.length = s.size := rfl
      omega
  obtain ⟨i0, hi, hz0, hz1, hz2⟩ := info_parts Tryd.info9
  obtain ⟨r, hr⟩ : ∃ r, s.extract (q + 1) s.size = r := ⟨_, rfl⟩
  have hrs : r.size ≤ 100000 := by rw [← hr, ByteArray.size_extract]; omega
  have hPl := piecesB_le r
  have hPs := piecesB_small r
  have hset : settingsB r = upto (piecesB r) (piecesB r).length := by rw [upto_all _ _ (Nat.le_refl _)]; rfl
  rw [hr, hset]
  clear hset
  have hne : upto (piecesB r) (piecesB r).length ≠ [] := by
    have h := piecesB_length r
    rw [h]
    exact upto_pos _ _ (by omega)
  generalize hP : piecesB r = P at hPl hPs hne
  have HN : Hid (upto P P.length ≠ []) := hne
  clear hne
  have HP : Hid (piecesB r = P) := hP
  clear hP
  have HS : Hid (∀ x ∈ P, x.size ≤ r.size) := hPs
  clear hPs
  have hsp := split_amp r m w (by omega) hm
  rw [HP.out] at hsp
  go_enter Tryd.func14, Tryd.ntmps14
  go_wp2_with (first
    | (go_at_call 16; refine (Tryd.strings_IndexByte _ _ _).mono ?_; rintro e w' ⟨rfl, hw1⟩; replace hw1 := hw1.symm; subst hw1)
    | (go_at_call 17; refine hsp.mono ?_; rintro e w' ⟨rfl, rfl⟩))
  go_loopw [3, 19] (fun v i wr => ∃ k : Nat, k ≤ P.length ∧ i = .int .i64 k ∧ Hid (wr.ownsRow (w.heap.size + 1) 9 1 v (upto P k).length ((upto P k).map Value.string)) ∧ Hid (upto P k = [] → v = .slice none 0 0) ∧
      Below (w.heap.size + 1) (w.alloc (.cells (P.map Value.string).toArray 9)) wr) (fun _ i _ => P.length - (intOf i).toNat)
  case atStart => exact ⟨0, Nat.zero_le _, rfl, World.ownsRow_nil _ _ _ _, fun _ => rfl, Below.refl _ _⟩
  case round =>
    obtain ⟨k, hk, rfl, hown, hnil, hbel⟩ := hrel
    have hsz : w.heap.size + 1 ≤ wr.heap.size := by have := hbel.size; simpa using this
    by_cases hlt : k < P.length
    · have hpc : wr.cell? ⟨w.heap.size, k, none⟩ = some (.string P[k]) := by
        rw [hbel.cell (p := ⟨w.heap.size, k, none⟩) (by simp)]
        simp [World.cell?_alloc_at, hlt]
      have hp := HS.out P[k] (List.getElem_mem hlt)
      have hus := upto_succ P k hlt
      have hul := upto_len P k
      have hue := upto_small P r.size HS.out k
      generalize hLk : upto P k = L at *
      generalize hpk : P[k] = p at *
      rcases snoc_cases L with rfl | ⟨S, y, rfl⟩
      · obtain rfl := hnil.out rfl
        have HU : Hid (upto P (k + 1) = stepB [] p) := hus
        clear hus hue
        go_wp2_with (first
          | (at_builtin; refine wpList_append_own _ rfl _ _ 23 rfl (w.heap.size + 1) 9 i0 (.string ByteArray.empty) 1 16 Tryd.underlying23 hi hz0 hz1 hz2 rfl (by decide) _ _ _ rfl (hown.out.alloc _) ⟨wr.heap.size, 0, none⟩ 1 1 [.string p] rfl rfl (one_cell _ _) (one_one _) (by decide) (by decide) (by simp; omega) ?_)
          | go_in)
        intro v' w1 hown' hgrow _
        have R := rel_push (by simp) hown.out hbel hown' hgrow
        clear hown' hgrow
        go_wp2
        go_roundw
        case rel =>
          refine ⟨k + 1, by omega, by go_num, ?_, ?_, R.2⟩
          · rw [HU.out]; exact R.1
          · rw [HU.out]; intro h; simp [stepB] at h
        case measure => simp [intOf]; omega
      · have hy : y.size ≤ 100001 * 100001 := by
          have h1 := hue y (by simp)
          have h2 : k * (r.size + 1) ≤ 100001 * 100001 := Nat.mul_le_mul (by omega) (by omega)
          omega
        clear hue
        have hSl : S.length + 1 ≤ 100001 := by simp at hul; omega
        clear hul
        obtain ⟨g, cap, rfl⟩ : ∃ g cap, u3 = .slice (some ⟨g, 0, none⟩) (S.length + 1) cap := by
          rcases hown.out.2 with ⟨_, h⟩ | ⟨g, cap, _, h, _⟩
          · simp at h
          · exact ⟨g, cap, by simpa using h⟩
        have hown2 : wr.ownsRow (w.heap.size + 1) 9 1 (.slice (some ⟨g, 0, none⟩) (S.length + 1) cap) (S.length + 1) ((S.map Value.string) ++ [.string y]) := by
          have := hown.out
          simpa using this
        clear hown
        by_cases hc : 0 ≤ Lib.indexByte p.data.toList 61
        · have HU : Hid (upto P (k + 1) = (S ++ [y]) ++ [p]) := by rw [hus]; unfold stepB; rw [if_neg (by intro h; omega)]; trivial
          clear hus
          have hown : Hid (wr.ownsRow (w.heap.size + 1) 9 1 (.slice (some ⟨g, 0, none⟩) (S.length + 1) cap) (S.length + 1) ((S.map Value.string) ++ [.string y])) := hown2
          clear hown2
          go_wp2_with (first
            | (go_at_call 18; refine (Tryd.strings_Contains_one _ _ _).mono ?_; rintro e w1 ⟨rfl, hw1⟩; replace hw1 := hw1.symm; subst hw1)
            | (at_builtin; refine wpList_append_own _ rfl _ _ 23 rfl (w.heap.size + 1) 9 i0 (.string ByteArray.empty) 1 16 Tryd.underlying23 hi hz0 hz1 hz2 rfl (by decide) _ _ _ rfl (hown.out.alloc _) ⟨wr.heap.size, 0, none⟩ 1 1 [.string p] rfl rfl (one_cell _ _) (one_one _) (by unfold maxLen; omega) (by omega) (by simp; omega) ?_)
            | go_in)
          intro v' w1 hown' hgrow _
          have R := rel_push (by simp) hown.out hbel hown' hgrow
          clear hown' hgrow
          go_wp2
          go_roundw
          case rel =>
            refine ⟨k + 1, by omega, by go_num, ?_, ?_, R.2⟩
            · rw [HU.out]; show World.ownsRow _ _ _ _ _ _ _; have := R.1; simpa using this
            · rw [HU.out]; intro h; simp at h
          case measure => simp [intOf]; omega
        · have HU : Hid (upto P (k + 1) = S ++ [y ++ (⟨#[38]⟩ ++ p)]) := by rw [hus]; unfold stepB; rw [if_pos ⟨by simp, by omega⟩]; simp; trivial
          clear hus
          have hcl : wr.cell? ⟨g, S.length, none⟩ = some (.string y) := by
            rw [hown2.cellAt S.length (by omega)]; simp
          have hfr : wr.frozen? ⟨g, S.length, none⟩ = false := hown2.frozenAt S.length
          have hst := hown2.stored S.length (.string (y ++ (⟨#[38]⟩ ++ p)))
          have hlt2 := hown2.lt
          have HO : Hid ((wr.setCell ⟨g, S.length, none⟩ (.string (y ++ (⟨#[38]⟩ ++ p)))).ownsRow (w.heap.size + 1) 9 1 (.slice (some ⟨g, 0, none⟩) (S.length + 1) cap) (S.length + 1) ((S ++ [y ++ (⟨#[38]⟩ ++ p)]).map Value.string)) := by
            have := hst.1
            have e : ((S.map Value.string) ++ [Value.string y]).set S.length (Value.string (y ++ (⟨#[38]⟩ ++ p))) = (S ++ [y ++ (⟨#[38]⟩ ++ p)]).map Value.string := by
              rw [List.set_append_right _ _ (by simp)]; simp
            rw [e] at this
            exact this
          have HB : Hid (Below (w.heap.size + 1) (w.alloc (.cells (P.map Value.string).toArray 9)) (wr.setCell ⟨g, S.length, none⟩ (.string (y ++ (⟨#[38]⟩ ++ p))))) :=
            hbel.setCell (hlt2 g rfl).1 _
          clear hst hlt2 hown2 hbel
          have hd : decide (0 ≤ Lib.indexByte p.data.toList 61) = false := by simpa using hc
          go_wp2_with (first
            | (go_at_call 18; refine (Tryd.strings_Contains_one _ _ _).mono ?_; rintro e w1 ⟨rfl, hw1⟩; replace hw1 := hw1.symm; subst hw1)
            | go_in)
          go_roundw
          case rel =>
            refine ⟨k + 1, by omega, by go_num, ?_, ?_, HB.out⟩
            · rw [HU.out]; show World.ownsRow _ _ _ _ _ _ _; have := HO.out; simpa using this
            · rw [HU.out]; intro h; simp at h
          case measure => simp [intOf]; omega
    · have hkP : k = P.length := by omega
      subst hkP
      obtain ⟨g, cap, rfl, F⟩ := own_out hown.out (HN.out) hbel
      clear hown hnil hbel
      go_wp2
      go_ret2
      exact ⟨g, cap, rfl, F⟩

/-- what ZZsplitQuery leaves where a '?' stands at q -/
def SQ (s : ByteArray) (q : Nat) (w : World) (e : Ending) (w' : World) : Prop :=
  ∃ g cap, e = .returned (.tuple #[.string (s.extract 0 (q + 1)), .slice (some ⟨g, 0, none⟩) (settingsB (s.extract (q + 1) s.size)).length cap]) ∧
      (∀ k, k < (settingsB (s.extract (q + 1) s.size)).length → w'.cell? ⟨g, k, none⟩ = some (.string ((settingsB (s.extract (q + 1) s.size)).getD k ByteArray.empty))) ∧ w.heap.size ≤ g ∧ g < w'.heap.size ∧ Below w.heap.size w w'

set_option maxHeartbeats 400000 in
theorem zz_none (s : ByteArray) (w : World) (hq : Lib.indexByte s.data.toList 63 = -1) :
    Calls Tryd.prog 7 #[.string s] w fun e w' => e = .returned (.tuple #[.string s, .slice none 0 0]) ∧ w' = w := by
  go_enter Tryd.func7, Tryd.ntmps7
  go_wp2_with (go_at_call 14; refine (splitQuery_none _ _ hq).mono ?_; rintro e w' ⟨rfl, rfl⟩)
  go_ret2
  exact ⟨rfl, rfl⟩
set_option maxHeartbeats 400000 in
theorem zz_some (s : ByteArray) (w : World) (m : Int) (hm : w.cell? ⟨0, 0, none⟩ = some (.int .i64 m)) (hs : s.size ≤ 100000) (q : Nat) (hq : Lib.indexByte s.data.toList 63 = q) :
    Calls Tryd.prog 7 #[.string s] w (SQ s q w) := by
  go_enter Tryd.func7, Tryd.ntmps7
  go_wp2_with (go_at_call 14; refine (splitQuery_some _ _ m hm hs q hq).mono ?_; rintro e w' ⟨g, cap, rfl, F⟩)
  go_ret2
  exact ⟨g, cap, rfl, F⟩
end Go.Proofs.Qxb6605388aDoor
