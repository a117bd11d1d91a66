/-
  THE PLAIN LAWS: lists of bytes; no Go in sight.
-/
import Derived.Lib.SplitLaws
import Derived.Lib.IndexLaws
namespace Go.Proofs.Qxb6605388aDoor
open Go.Lib

/-! ### the first place of a byte -/
theorem ib_hit : ∀ (l : List UInt8) (c : UInt8) (k : Nat), l[k]? = some c → (∀ j, j < k → l[j]? ≠ some c) → indexByte l c = k
  | [], c, k, h, _ => by simp at h
  | b :: l, c, 0, h, _ => by
    have : b = c := by simpa using h
    subst this
    simp [indexByte]
  | b :: l, c, k + 1, h, hn => by
    have hb : ¬ b = c := by have := hn 0 (by omega); simpa using this
    have ih := ib_hit l c k (by simpa using h) (fun j hj => by have := hn (j + 1) (by omega); simpa using this)
    simp only [indexByte, ih]
    rw [if_neg (by simpa using hb), if_neg (by simp)]
    omega

theorem ib_miss : ∀ (l : List UInt8) (c : UInt8), (∀ j : Nat, l[j]? ≠ some c) → indexByte l c = -1
  | [], _, _ => rfl
  | b :: l, c, hn => by
    have hb : ¬ b = c := by have := hn 0; simpa using this
    have ih := ib_miss l c (fun j => by have := hn (j + 1); simpa using this)
    simp only [indexByte, ih]
    rw [if_neg (by simpa using hb)]
    rfl

theorem ib_cases (l : List UInt8) (c : UInt8) : (indexByte l c = -1 ∧ ∀ j : Nat, l[j]? ≠ some c) ∨ (∃ k : Nat, indexByte l c = k ∧ k < l.length ∧ l[k]? = some c ∧ ∀ j, j < k → l[j]? ≠ some c) := by
  have hge := indexByte_ge l c
  by_cases h : indexByte l c = -1
  · exact .inl ⟨h, indexByte_none h⟩
  · obtain ⟨k, hk⟩ : ∃ k : Nat, indexByte l c = k := ⟨(indexByte l c).toNat, by omega⟩
    obtain ⟨h1, h2⟩ := indexByte_some hk
    have hlt : k < l.length := by
      rcases Nat.lt_or_ge k l.length with h | h
      · exact h
      · rw [List.getElem?_eq_none h] at h1; cases h1
    exact .inr ⟨k, hk, hlt, h1, h2⟩

theorem ib_append_hit (l x : List UInt8) (c : UInt8) (k : Nat) (h : indexByte l c = k) : indexByte (l ++ x) c = k := by
  obtain ⟨h1, h2⟩ := indexByte_some h
  have hlt : k < l.length := by
    rcases Nat.lt_or_ge k l.length with h | h
    · exact h
    · rw [List.getElem?_eq_none h] at h1; cases h1
  refine ib_hit _ _ _ ?_ ?_
  · rw [List.getElem?_append_left hlt]; exact h1
  · intro j hj; rw [List.getElem?_append_left (by omega)]; exact h2 j hj

theorem ib_append_miss (l x : List UInt8) (c : UInt8) (h : indexByte l c = -1) (hx : indexByte x c = -1) : indexByte (l ++ x) c = -1 := by
  refine ib_miss _ _ fun j => ?_
  by_cases hj : j < l.length
  · rw [List.getElem?_append_left hj]; exact indexByte_none h j
  · rw [List.getElem?_append_right (by omega)]; exact indexByte_none hx _

theorem ib_take (l : List UInt8) (c : UInt8) (k : Nat) (h : indexByte l c = k) : indexByte (l.take k) c = -1 := by
  refine ib_miss _ _ fun j => ?_
  obtain ⟨_, h2⟩ := indexByte_some h
  by_cases hj : j < k
  · rw [List.getElem?_take_of_lt hj]; exact h2 j hj
  · rw [List.getElem?_eq_none (by simp; omega)]; simp

/-! ### the pieces between the bytes c -/
def pieces (c : UInt8) : List UInt8 → List (List UInt8)
  | [] => [[]]
  | b :: l => if b = c then [] :: pieces c l else match pieces c l with
    | p :: ps => (b :: p) :: ps
    | [] => [[b]]

theorem pieces_ne (c : UInt8) : ∀ l, pieces c l ≠ []
  | [] => by simp [pieces]
  | b :: l => by
    unfold pieces
    split
    · simp
    · split <;> simp

theorem pieces_cons (c : UInt8) (l : List UInt8) : ∃ p ps, pieces c l = p :: ps := by
  cases h : pieces c l with
  | nil => exact absurd h (pieces_ne c l)
  | cons p ps => exact ⟨p, ps, rfl⟩

theorem pieces_same (c : UInt8) (l : List UInt8) : pieces c (c :: l) = [] :: pieces c l := by simp [pieces]
theorem pieces_other (c b : UInt8) (l : List UInt8) (h : b ≠ c) {p ps} (e : pieces c l = p :: ps) : pieces c (b :: l) = (b :: p) :: ps := by
  rw [pieces, if_neg h, e]

theorem pieces_none (c : UInt8) : ∀ x : List UInt8, indexByte x c = -1 → pieces c x = [x]
  | [], _ => rfl
  | b :: l, h => by
    have hn := indexByte_none h
    have hb : b ≠ c := by have := hn 0; simpa using this
    have hl : indexByte l c = -1 := ib_miss _ _ fun j => by have := hn (j + 1); simpa using this
    exact pieces_other c b l hb (pieces_none c l hl)

theorem pieces_append (c : UInt8) (x : List UInt8) (hx : indexByte x c = -1) : ∀ l, pieces c (l ++ c :: x) = pieces c l ++ [x]
  | [] => by rw [List.nil_append, pieces_same, pieces_none c x hx]; rfl
  | b :: l => by
    have ih := pieces_append c x hx l
    by_cases hb : b = c
    · subst hb
      rw [List.cons_append, pieces_same, pieces_same, ih]; rfl
    · obtain ⟨p, ps, e⟩ := pieces_cons c l
      rw [List.cons_append, pieces_other c b l hb e, pieces_other c b (l ++ c :: x) hb (p := p) (ps := ps ++ [x]) (by rw [ih, e]; rfl)]
      rfl

theorem pieces_cut (c : UInt8) (y : List UInt8) : ∀ x : List UInt8, indexByte x c = -1 → pieces c (x ++ c :: y) = x :: pieces c y
  | [], _ => by rw [List.nil_append, pieces_same]
  | b :: x, hno => by
    have hn := indexByte_none hno
    have hb : b ≠ c := by have := hn 0; simpa using this
    have hl : indexByte x c = -1 := ib_miss _ _ fun j => by have := hn (j + 1); simpa using this
    rw [List.cons_append, pieces_other c b _ hb (pieces_cut c y x hl)]

theorem index_one (c : UInt8) : ∀ l : List UInt8, index l [c] = indexByte l c
  | [] => rfl
  | b :: l => by
    have ih := index_one c l
    by_cases h : b = c
    · subst h; simp [index, indexByte, List.isPrefixOf]
    · have hp : ([c] : List UInt8).isPrefixOf (b :: l) = false := by simp [List.isPrefixOf, Ne.symm h]
      rw [index, hp, ih, indexByte]
      simp [h]

theorem splitK_pieces (c : UInt8) : ∀ l : List UInt8, splitK [c] 0 (count l [c]) l = pieces c l := by
  intro l
  induction hk : count l [c] generalizing l with
  | zero =>
    have : indexByte l c = -1 := by
      rw [count_one] at hk
      refine ib_miss _ _ fun j hj => ?_
      have := List.count_eq_zero.1 hk
      exact this (List.mem_of_getElem? hj)
    rw [pieces_none c l this]; rfl
  | succ k ih =>
    rcases ib_cases l c with ⟨h, hn⟩ | ⟨i, h, hlt, hc, hn⟩
    · rw [count_one] at hk
      have : l.count c = 0 := List.count_eq_zero.2 (fun hm => by
        obtain ⟨j, hj⟩ := List.mem_iff_getElem?.1 hm
        exact hn j hj)
      omega
    · have hix : index l [c] = (i : Int) := by rw [index_one, h]
      have hm : ¬ (index l [c] == -1) = true := fun e => by have := beq_iff_eq.1 e; omega
      rw [splitK, if_neg hm, hix]
      simp only [Int.toNat_natCast, Nat.add_zero, List.length_singleton]
      have hcnt := count_hit (s := l) (sub := [c]) (by simp) hix
      have hd : count (l.drop (i + 1)) [c] = k := by
        rw [hk] at hcnt
        simp at hcnt
        omega
      rw [ih _ hd]
      have e : l = l.take i ++ c :: l.drop (i + 1) := by
        have h1 : l.drop i = c :: l.drop (i + 1) := by
          rw [List.drop_eq_getElem_cons hlt]
          congr 1
          rw [List.getElem?_eq_getElem hlt] at hc
          exact Option.some.inj hc
        rw [← h1, List.take_append_drop]
      have hno : indexByte (l.take i) c = -1 := ib_take l c i h
      generalize l.take i = x at e hno
      generalize l.drop (i + 1) = y at e
      subst e
      exact (pieces_cut c y x hno).symm

/-! ### the settings: pieces joined on where they bear no '=' -/
def stepL (acc : List (List UInt8)) (p : List UInt8) : List (List UInt8) :=
  if acc ≠ [] ∧ indexByte p 61 < 0 then acc.dropLast ++ [acc.getLastD [] ++ (38 :: p)] else acc ++ [p]
def settings (l : List UInt8) : List (List UInt8) := (pieces 38 l).foldl stepL []

theorem stepL_snoc (S : List (List UInt8)) (x p : List UInt8) : stepL (S ++ [x]) p = S ++ stepL [x] p := by
  unfold stepL
  by_cases h : indexByte p 61 < 0
  · simp [h]
  · simp [h]
theorem foldl_snoc (S : List (List UInt8)) : ∀ (ps : List (List UInt8)) (x : List UInt8), ps.foldl stepL (S ++ [x]) = S ++ ps.foldl stepL [x]
  | [], x => rfl
  | p :: ps, x => by
    rw [List.foldl_cons, List.foldl_cons, stepL_snoc]
    by_cases h : indexByte p 61 < 0
    · have : stepL [x] p = [x ++ 38 :: p] := by simp [stepL, h]
      rw [this, foldl_snoc S ps]
    · have : stepL [x] p = [x] ++ [p] := by simp [stepL, h]
      rw [this, ← List.append_assoc, foldl_snoc (S ++ [x]) ps, foldl_snoc [x] ps, List.append_assoc]

theorem stepL_ne (acc : List (List UInt8)) (p : List UInt8) : stepL acc p ≠ [] := by
  unfold stepL; split <;> simp
theorem foldl_ne : ∀ (ps acc : List (List UInt8)), (acc ≠ [] ∨ ps ≠ []) → ps.foldl stepL acc ≠ []
  | [], acc, h => by rcases h with h | h; exact h; exact absurd rfl h
  | p :: ps, acc, _ => foldl_ne ps _ (.inl (stepL_ne acc p))
theorem settings_ne (l : List UInt8) : settings l ≠ [] := foldl_ne _ _ (.inr (pieces_ne 38 l))

theorem settings_append (l x : List UInt8) (hx : indexByte x 38 = -1) : settings (l ++ 38 :: x) = stepL (settings l) x := by
  unfold settings
  rw [pieces_append 38 x hx l, List.foldl_append]; rfl
theorem settings_set (l x : List UInt8) (hx : indexByte x 38 = -1) (he : 0 ≤ indexByte x 61) : settings (l ++ 38 :: x) = settings l ++ [x] := by
  rw [settings_append l x hx, stepL, if_neg (by intro h; omega)]
theorem settings_piece (l x : List UInt8) (hx : indexByte x 38 = -1) (he : indexByte x 61 < 0) : settings (l ++ 38 :: x) = (settings l).dropLast ++ [(settings l).getLastD [] ++ 38 :: x] := by
  rw [settings_append l x hx, stepL, if_pos ⟨settings_ne l, he⟩]

/-! ### the look-ahead cut -/
def cut : List UInt8 → List UInt8 → List (List UInt8)
  | acc, [] => [acc]
  | acc, c :: l => if c = 38 ∧ 0 ≤ indexByte (l.takeWhile (· ≠ 38)) 61 then acc :: cut [] l else cut (acc ++ [c]) l

theorem pieces_head (c : UInt8) : ∀ (l : List UInt8) {p ps}, pieces c l = p :: ps → p = l.takeWhile (· ≠ c)
  | [], p, ps, h => by simp [pieces] at h; simp [h.1]
  | b :: l, p, ps, h => by
    by_cases hb : b = c
    · subst hb; rw [pieces_same] at h; simp at h; simp [h.1]
    · obtain ⟨p', ps', e⟩ := pieces_cons c l
      rw [pieces_other c b l hb e] at h
      obtain ⟨rfl, rfl⟩ := List.cons.inj h
      rw [pieces_head c l e]
      simp [hb]

theorem cut_fold : ∀ (l acc : List UInt8) {p ps}, pieces 38 l = p :: ps → cut acc l = ps.foldl stepL [acc ++ p]
  | [], acc, p, ps, h => by
    simp [pieces] at h; obtain ⟨rfl, rfl⟩ := h; simp [cut]
  | c :: l, acc, p, ps, h => by
    obtain ⟨p', ps', e⟩ := pieces_cons 38 l
    by_cases hc : c = 38
    · subst hc
      rw [pieces_same, e] at h
      obtain ⟨rfl, rfl⟩ := List.cons.inj h
      rw [List.foldl_cons, List.append_nil, cut, ← pieces_head 38 l e]
      by_cases he : 0 ≤ indexByte p' 61
      · rw [if_pos ⟨rfl, he⟩, cut_fold l [] e]
        have : stepL [acc] p' = [acc] ++ [p'] := by rw [stepL, if_neg (by intro h; omega)]
        rw [this, foldl_snoc [acc] ps' p']
        rfl
      · rw [if_neg (fun h => he h.2), cut_fold l _ e]
        have : stepL [acc] p' = [acc ++ 38 :: p'] := by rw [stepL, if_pos ⟨by simp, by omega⟩]; rfl
        rw [this]
        simp
    · rw [pieces_other 38 c l hc e] at h
      obtain ⟨rfl, rfl⟩ := List.cons.inj h
      rw [cut, if_neg (fun h => hc h.1), cut_fold l _ e]
      simp

theorem cut_settings (l : List UInt8) : cut [] l = settings l := by
  obtain ⟨p, ps, e⟩ := pieces_cons 38 l
  rw [cut_fold l [] e, settings, e, List.foldl_cons]
  rfl

/-! ### over ByteArray -/
def stepB (acc : List ByteArray) (p : ByteArray) : List ByteArray :=
  if acc ≠ [] ∧ indexByte p.data.toList 61 < 0 then acc.dropLast ++ [acc.getLastD ByteArray.empty ++ (⟨#[38]⟩ ++ p)] else acc ++ [p]
def piecesB (s : ByteArray) : List ByteArray := splitB ⟨#[38]⟩ 0 (countB s ⟨#[38]⟩) s
def settingsB (s : ByteArray) : List ByteArray := (piecesB s).foldl stepB []

theorem piecesB_data (s : ByteArray) : (piecesB s).map (·.data.toList) = pieces 38 s.data.toList := by
  unfold piecesB
  rw [splitB_data]
  exact splitK_pieces 38 s.data.toList

theorem stepB_data (acc : List ByteArray) (p : ByteArray) : (stepB acc p).map (·.data.toList) = stepL (acc.map (·.data.toList)) p.data.toList := by
  unfold stepB stepL
  by_cases h : acc ≠ [] ∧ indexByte p.data.toList 61 < 0
  · rw [if_pos h, if_pos ⟨by simpa using h.1, h.2⟩]
    obtain ⟨S, x, rfl⟩ : ∃ S x, acc = S ++ [x] := ⟨acc.dropLast, acc.getLast h.1, (List.dropLast_concat_getLast h.1).symm⟩
    simp [ByteArray.data_append]
  · rw [if_neg h, if_neg (fun h' => h ⟨by simpa using h'.1, h'.2⟩)]
    simp
theorem foldB_data : ∀ (ps acc : List ByteArray), (ps.foldl stepB acc).map (·.data.toList) = (ps.map (·.data.toList)).foldl stepL (acc.map (·.data.toList))
  | [], _ => rfl
  | p :: ps, acc => by rw [List.foldl_cons, foldB_data ps, List.map_cons, List.foldl_cons, stepB_data]
theorem settingsB_data (s : ByteArray) : (settingsB s).map (·.data.toList) = settings s.data.toList := by
  unfold settingsB settings
  rw [foldB_data, piecesB_data]; rfl

theorem ba_ext {a b : ByteArray} (h : a.data.toList = b.data.toList) : a = b := by
  obtain ⟨⟨a⟩⟩ := a
  obtain ⟨⟨b⟩⟩ := b
  simp at h
  rw [h]
theorem bas_ext : ∀ {a b : List ByteArray}, a.map (·.data.toList) = b.map (·.data.toList) → a = b
  | [], [], _ => rfl
  | [], _ :: _, h => by simp at h
  | _ :: _, [], h => by simp at h
  | x :: a, y :: b, h => by
    simp only [List.map_cons, List.cons.injEq] at h
    rw [ba_ext h.1, bas_ext h.2]

theorem settingsB_ne (r : ByteArray) : settingsB r ≠ [] := by
  intro h
  have := settingsB_data r
  rw [h] at this
  exact settings_ne _ this.symm
theorem settingsB_set (r : ByteArray) : settingsB (r ++ ⟨#[38, 122, 122, 61, 49]⟩) = settingsB r ++ [⟨#[122, 122, 61, 49]⟩] := by
  apply bas_ext
  rw [settingsB_data, List.map_append, settingsB_data, ByteArray.data_append, Array.toList_append]
  exact settings_set _ [122, 122, 61, 49] (by decide) (by decide)
theorem settingsB_piece (r : ByteArray) : settingsB (r ++ ⟨#[38, 122, 122]⟩) = (settingsB r).dropLast ++ [(settingsB r).getLastD ByteArray.empty ++ ⟨#[38, 122, 122]⟩] := by
  apply bas_ext
  obtain ⟨S, y, e⟩ : ∃ S y, settingsB r = S ++ [y] := ⟨_, (settingsB r).getLast (settingsB_ne r), (List.dropLast_concat_getLast (settingsB_ne r)).symm⟩
  have h := settings_piece r.data.toList [122, 122] (by decide) (by decide)
  rw [← settingsB_data r, e] at h
  rw [settingsB_data, ByteArray.data_append, Array.toList_append, e]
  refine h.trans ?_
  simp [ByteArray.data_append]

theorem extract_append_left (s x : ByteArray) (q : Nat) (h : q < s.size) : (s ++ x).extract 0 (q + 1) = s.extract 0 (q + 1) := by
  apply ba_ext
  have e : s.data.toList.length = s.size := rfl
  rw [extract_from_zero, extract_from_zero, ByteArray.data_append, Array.toList_append, List.take_append_of_le_length (by omega)]
theorem extract_append_right (s x : ByteArray) (q : Nat) (h : q < s.size) : (s ++ x).extract (q + 1) (s ++ x).size = s.extract (q + 1) s.size ++ x := by
  apply ba_ext
  have e : s.data.toList.length = s.size := rfl
  rw [extract_to_end, ByteArray.data_append, Array.toList_append, ByteArray.data_append, Array.toList_append, extract_to_end, List.drop_append_of_le_length (by omega)]

end Go.Proofs.Qxb6605388aDoor
