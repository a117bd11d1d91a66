/-
  FnListOthersAppendRune: the row and its tied card.
-/
import Derived.Test.Qxb6608612aDoorTie
import Derived.Test.Qxb6608612aDoorCards
import Derived.Test.Qxb6608612aDoorWalkH
import Derived.PinnedBridge
import Derived.ProofKit
import Derived.OpenShut
import Derived.LaidMore
import Derived.Lay
import Derived.SevenTiedAt
import Derived.Stop.Joined
namespace Go.Proofs.Qxb6608612aDoor
open Go.ChangeShapes Go.WideShapes Go.ChangeAt Go.RowKit
open Go.ChangeMaps (open_string shut_string)

theorem own : ownKnob Tryd.prog.godebug = none := by kernel_rfl

theorem accept_eq : (Rows.laid_unicode_utf8_acceptRanges : DataW Unit) = Lib.acceptData := by kernel_rfl
theorem first_eq : Rows.laid_unicode_utf8_first = Lib.firstData := Pinned.utf8First_eq

theorem tabs_of_laid {w : World} (h : laidMetH Tryd.prog Rows.fnListOthersAppendRuneRow.laid w) : Lib.Utf8Tabs 1 2 w := by
  rw [MakeChecks.laidMetH_plain _ _ _ (by kernel_rfl)] at h
  refine utf8Tabs_of_reads (ρ := Tryd.lays260_ren) Tryd.lays260 ⟨by kernel_rfl, by kernel_rfl, by kernel_rfl, by kernel_rfl, by kernel_rfl, by kernel_rfl, by kernel_rfl⟩ ?_ ?_
  · have := Lib.laidMet.reads h (.tail _ (.head _))
    rw [first_eq] at this
    exact this
  · have := Lib.laidMet.reads h (.head _)
    rw [accept_eq] at this
    exact this

theorem big_of_tabs {w : World} (h : Lib.Utf8Tabs 1 2 w) : 2 < w.heap.size := by
  have h1 := (h.2 0 (by omega)).1
  rcases Nat.lt_or_ge 2 w.heap.size with h2 | h2
  · exact h2
  · unfold World.cell? at h1
    rw [Array.getElem?_eq_none h2] at h1
    cases h1

theorem law4_walk (m d : Int) (s : ByteArray) (w : World) (hL : laidMetH Tryd.prog Rows.fnListOthersAppendRuneRow.laid w) :
    Calls Tryd.prog 4 #[.int .i64 m, .string s, .int .i32 d] w fun e w' => e = .returned (.bool true) ∧ Below w.heap.size w w' :=
  law4_any m d s w (tabs_of_laid hL) (big_of_tabs (tabs_of_laid hL))

set_option maxRecDepth 100000 in
theorem law4_lifted (os : Os) (started : os.Started) (H : Type) (enc : TypeId × Value → H) :
    ReturnsInHanded {} Tryd.checked os 4 .any (fun w args => (Rows.fnListOthersAppendRuneSpec.pre enc Tryd.prog Tryd.f4 [] false w args ∧ laidMetH Tryd.prog Rows.fnListOthersAppendRuneRow.laid w) ∧ sizedMet enc Tryd.prog Tryd.f4 (OpenSpec.ofChange Rows.fnListOthersAppendRuneSpec) false w args)
      (Rows.fnListOthersAppendRuneSpec.post enc Tryd.prog Tryd.f4 false true false false) := by
  refine returnsInHanded_of_change_and (C := Tryd.checked) (X := fun w _ => laidMetH Tryd.prog Rows.fnListOthersAppendRuneRow.laid w) (fun _ _ _ hh h => h.of_heap hh) own started (by kernel_rfl) Tryd.func4
    (ChangeSpec.witness_shaped (enc := enc) (C := Tryd.checked) (os := os) (X := fun w _ => laidMetH Tryd.prog Rows.fnListOthersAppendRuneRow.laid w) false (World.laidAll Tryd.prog os Rows.fnListOthersAppendRuneRow.laid) #[.int .i64 0, .string ⟨#[]⟩, .int .i32 0] 8 (World.laidAll_os _ _ _)
      (World.shaped_of_ZipB (by kernel_rfl) (by kernel_rfl)) (by kernel_rfl) (by kernel_rfl) (by kernel_rfl)
      (by rw [MakeChecks.laidMetH_plain _ _ _ (by kernel_rfl)]; exact laidMet_laidAll _ (by kernel_rfl) (by kernel_rfl))) ?_
  intro W base args ds gs before hval0 hW _ _ hL _
  have hval : ∀ (j : Nat) t v, Tryd.f4.params[j]? = some t → args[j]? = some v → Value.okWide Tryd.prog W .any base t v := hval0
  have hW' := hW
  obtain ⟨p, q, hA0, hV, rfl, _, _⟩ := hW
  have hA : DataW.TrodAll enc Tryd.prog W 0 (fun _ => true) true Tryd.f4.params.toList args.toList ds p := hA0
  rw [Tryd.params4] at hA hval
  obtain ⟨v0, v1, v2, d0, d1, d2, p0, p1, p2, rfl, rfl, rfl, h0, h1, h2⟩ := trodAll_three hA
  obtain ⟨rfl, rfl⟩ := trodVars_none hV
  obtain ⟨x, rfl, rfl, rfl, wx⟩ := open_int Tryd.underlying3 (hval 0 3 v0 rfl rfl) h0
  obtain ⟨s, rfl, rfl, rfl, ws⟩ := open_string Tryd.underlying9 (hval 1 9 v1 rfl rfl) h1
  obtain ⟨y, rfl, rfl, rfl, wy⟩ := open_int Tryd.underlying21 (hval 2 21 v2 rfl rfl) h2
  clear hA0 hval0
  simp only [List.append_nil] at hW'
  refine (law4_walk x y s W hL).mono fun e W' ⟨he, hb⟩ => ?_
  subst he
  refine ⟨_, rfl, _, _, _, [], [], [], hW', ?_, ?_, ?_, hb.frame _, fun h => by cases h⟩
  · exact trodAll_mk1 (shut_bool Tryd.underlying4 true)
  · exact trodAll_mk3 (p := []) (p' := []) (p'' := []) (shut_int Tryd.underlying3 wx) (shut_string Tryd.underlying9 ws) (shut_int Tryd.underlying21 wy)
  · rfl

theorem law4_row : Rows.FnListOthersAppendRuneSaid :=
  OpenClaim.holds_of_wide 4 Tryd.f4 rfl rfl rfl rfl rfl rfl rfl ⟨rfl, rfl, rfl, rfl, rfl⟩ rfl rfl rfl rfl rfl (by kernel_rfl) Tryd.func4 (by kernel_rfl)
    (of_decide_eq_true (by kernel_rfl)) (by unfold Func.isWrapper; first | (rw [if_pos (by decide +kernel)]; kernel_rfl) | (rw [if_neg (by decide +kernel)]; exact ⟨rfl, rfl⟩))
    (fun os started H enc _ => law4_lifted os started H enc)

theorem fnListOthersAppendRune_card : Rows.FnListOthersAppendRuneCardSaid :=
  Claim7.holds_tied_plain_at .later [] [.data, .pinned] true Rows.fnListOthersAppendRuneCard.stood.harness false law4_row (fun _ h => by cases h) (by kernel_rfl) (fun _ h => by cases h) fnListOthersAppendRune_row_tie rfl ⟨rfl, rfl⟩ (by kernel_rfl) rfl
    (fun f fn hf hfn => by
      obtain rfl : f = 4 := Option.some.inj ((show Tryd.prog.funcNamed Rows.fnListOthersAppendRuneRow.func = some 4 by kernel_rfl).symm.trans hf) |>.symm
      obtain rfl : fn = Tryd.f4 := (Option.some.inj (Tryd.func4.symm.trans hfn)).symm
      exact ⟨by kernel_rfl, fun j t ht => by
        rw [Tryd.params4] at ht
        have hm : t ∈ [3, 9, 21] := by simpa using Array.mem_of_getElem? ht
        have hall : ([3, 9, 21].all fun u => !Tryd.prog.wantsStandIn u) = true := by kernel_rfl
        exact (show Tryd.prog.wantsStandIn t = false by simpa using List.all_eq_true.1 hall t hm)⟩)
    (by kernel_rfl)
end Go.Proofs.Qxb6608612aDoor
