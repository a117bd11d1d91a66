/-
  FnHostAndPathEndsWhereSplitQueryHeadEnds: the row and its tied card.
-/
import Derived.Test.Qxb6605388aDoorFrame
import Derived.Test.Qxb6605388aDoorTie
import Derived.Test.Qxb6605388aDoorCards
import Derived.Test.Qxb6605388aDoorWalkG
namespace Go.Proofs.Qxb6605388aDoor
open Go.ChangeShapes Go.WideShapes Go.ChangeAt Go.RowKit
open Go.ChangeMaps (open_string shut_string)

theorem law5_walk (s : ByteArray) (w : World) (hs : s.size ≤ maxLen) (hsh : w.ShapedOpen Tryd.prog) :
    Calls Tryd.prog 5 #[.string s] w fun e w' => e = .returned (.bool true) ∧ Below w.heap.size w w' := by
  obtain ⟨m, hm⟩ := maxLen_cell hsh
  by_cases hb : s.size ≤ 16384
  · rcases ib_cases s.data.toList 63 with ⟨h, _⟩ | ⟨q, h, _⟩
    · exact (law5_none s w m hm hb h).mono fun e w' ⟨he, hw⟩ => ⟨he, by rw [hw]; exact Below.refl _ _⟩
    · exact law5_some s w m hm hb q h
  · exact (law5_big s w hs (by omega)).mono fun e w' ⟨he, hw⟩ => ⟨he, by rw [hw]; exact Below.refl _ _⟩

set_option maxRecDepth 100000 in
theorem law5_lifted (os : Os) (started : os.Started) (H : Type) (enc : TypeId × Value → H) :
    ReturnsInHanded {} Tryd.checked os 5 .any (fun w args => (Rows.fnHostAndPathEndsWhereSplitQueryHeadEndsSpec.pre enc Tryd.prog Tryd.f5 [] false w args ∧ laidMetH Tryd.prog Rows.fnHostAndPathEndsWhereSplitQueryHeadEndsRow.laid w) ∧ sizedMet enc Tryd.prog Tryd.f5 (OpenSpec.ofChange Rows.fnHostAndPathEndsWhereSplitQueryHeadEndsSpec) false w args)
      (Rows.fnHostAndPathEndsWhereSplitQueryHeadEndsSpec.post enc Tryd.prog Tryd.f5 false true false false) := by
  refine returnsInHanded_and_shaped (C := Tryd.checked) (X := fun w _ => laidMetH Tryd.prog Rows.fnHostAndPathEndsWhereSplitQueryHeadEndsRow.laid w) (fun _ _ _ hh h => h.of_heap hh) own started (by kernel_rfl) Tryd.func5
    (ChangeSpec.witness_shaped (enc := enc) (C := Tryd.checked) (os := os) (X := fun w _ => laidMetH Tryd.prog Rows.fnHostAndPathEndsWhereSplitQueryHeadEndsRow.laid w) false (World.laidAll Tryd.prog os Rows.fnHostAndPathEndsWhereSplitQueryHeadEndsRow.laid) #[.string ⟨#[]⟩] 8 (World.laidAll_os _ _ _)
      (World.shaped_of_ZipB (by kernel_rfl) (by kernel_rfl)) (by kernel_rfl) (by kernel_rfl) (by kernel_rfl)
      (by rw [MakeChecks.laidMetH_plain _ _ _ (by kernel_rfl)]; exact laidMet_laidAll _ (by kernel_rfl) (by kernel_rfl))) ?_
  intro W base args ds gs before hval0 hW hsh hL
  have hval : ∀ (j : Nat) t v, Tryd.f5.params[j]? = some t → args[j]? = some v → Value.okWide Tryd.prog W .any base t v := hval0
  have hW' := hW
  obtain ⟨p, q, hA0, hV, rfl, _, _⟩ := hW
  have hA : DataW.TrodAll enc Tryd.prog W 0 (fun _ => true) true Tryd.f5.params.toList args.toList ds p := hA0
  rw [Tryd.params5] at hA hval
  obtain ⟨v0, d0, rfl, rfl, h0⟩ := trodAll_one hA
  obtain ⟨rfl, rfl⟩ := trodVars_none hV
  obtain ⟨s, rfl, rfl, rfl, ws⟩ := open_string Tryd.underlying9 (hval 0 9 v0 rfl rfl) h0
  clear hA0 hval0
  simp only [List.append_nil] at hW'
  refine (law5_walk s W ws hsh).mono fun e W' ⟨he, hb⟩ => ?_
  subst he
  refine ⟨_, rfl, _, _, _, [], [], [], hW', ?_, ?_, ?_, hb.frame _, fun h => by cases h⟩
  · exact trodAll_mk1 (shut_bool Tryd.underlying4 true)
  · exact trodAll_mk1 (shut_string Tryd.underlying9 ws)
  · rfl

theorem law5_row : Rows.FnHostAndPathEndsWhereSplitQueryHeadEndsSaid :=
  OpenClaim.holds_of_wide 5 Tryd.f5 rfl rfl rfl rfl rfl rfl rfl ⟨rfl, rfl, rfl, rfl, rfl⟩ rfl rfl rfl rfl rfl (by kernel_rfl) Tryd.func5 (by kernel_rfl)
    (of_decide_eq_true (by kernel_rfl)) (by unfold Func.isWrapper; first | (rw [if_pos (by decide +kernel)]; kernel_rfl) | (rw [if_neg (by decide +kernel)]; exact ⟨rfl, rfl⟩))
    (fun os started H enc _ => law5_lifted os started H enc)

theorem fnHostAndPathEndsWhereSplitQueryHeadEnds_card : Rows.FnHostAndPathEndsWhereSplitQueryHeadEndsCardSaid :=
  Claim7.holds_tied_plain_at .later [] [.data, .pinned] true (true, "b944669c9cd3f4d154cc4b3c5cc51bcbedc222d3cda95e6131d0518e2be839bb") false law5_row (fun _ h => by cases h) (by kernel_rfl) (fun _ h => by cases h) fnHostAndPathEndsWhereSplitQueryHeadEnds_row_tie rfl ⟨rfl, rfl⟩ (by kernel_rfl) rfl
    (fun f fn hf hfn => by
      obtain rfl : f = 5 := Option.some.inj ((show Tryd.prog.funcNamed Rows.fnHostAndPathEndsWhereSplitQueryHeadEndsRow.func = some 5 by kernel_rfl).symm.trans hf) |>.symm
      obtain rfl : fn = Tryd.f5 := (Option.some.inj (Tryd.func5.symm.trans hfn)).symm
      exact ⟨by kernel_rfl, fun j t ht => by
        rw [Tryd.params5] at ht
        have hm : t ∈ [9] := by simpa using Array.mem_of_getElem? ht
        have hall : ([9].all fun u => !Tryd.prog.wantsStandIn u) = true := by kernel_rfl
        exact (show Tryd.prog.wantsStandIn t = false by simpa using List.all_eq_true.1 hall t hm)⟩)
    (by kernel_rfl)
end Go.Proofs.Qxb6605388aDoor
