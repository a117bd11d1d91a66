/-
  FnIsWordByteCoversAcceptedKeys: the told and tied card.
-/
import Derived.Test.Qxb6605882aFmtTie
import Derived.Test.Qxb6605882aFmtCards
import Derived.Test.Qxb6605882aFmtWalkG
import Derived.ProofKit
import Derived.OpenShut
import Derived.LaidMore
import Derived.Lay
import Derived.SevenTiedAt
import Derived.Stop.JoinedAt
import Derived.Stop.JoinedTold
import Derived.Deep.DeepWitnessRef
import Derived.Deep.DeepWitnessRowRef
namespace Go.Proofs.Qxb6605882aFmt
open Go.ChangeShapes Go.WideShapes Go.ChangeAt Go.RowKit Go.Extern.Stop Go.Stop Go.Extern
open Go.ChangeMaps (open_string shut_string)

theorem own : ownKnob Tryf.prog.godebug = none := by kernel_rfl
theorem laidOut : laidOutB Tryf.pinned.checked.prog = true := by kernel_rfl
theorem stops : Tryf.pinned.checked.prog.stops = ["fmt.errorf, its operands' methods called", "fmt.Sprintf"] := by kernel_rfl
theorem stopKnobs : Tryf.pinned.checked.prog.stopKnobs = [] := by kernel_rfl
theorem quiet (os : Os) : Stop.quiet Tryf.pinned.checked.prog os := by
  intro k hk
  rw [stopKnobs] at hk
  cases hk

set_option maxRecDepth 1000000 in
theorem witness_row (os : Os) {H : Type} (enc : TypeId × Value → H) :
    (OpenSpec.ofChange Rows.fnIsWordByteCoversAcceptedKeysSpec).preRow enc Tryf.prog Tryf.f3 Rows.fnIsWordByteCoversAcceptedKeysRow.domain false Rows.fnIsWordByteCoversAcceptedKeysRow.laid
      ((World.laidAll Tryf.prog os Rows.fnIsWordByteCoversAcceptedKeysRow.laid).forCall (fun _ _ => 0) ⟨#[], #[.string ⟨#[]⟩], []⟩).memory #[.string ⟨#[]⟩] := by
  have hw : (DataW.whole enc Tryf.prog ((World.laidAll Tryf.prog os Rows.fnIsWordByteCoversAcceptedKeysRow.laid).forCall (fun _ _ => 0) ⟨#[], #[.string ⟨#[]⟩], []⟩).memory Tryf.f3.params.toList (OpenSpec.ofChange Rows.fnIsWordByteCoversAcceptedKeysSpec).vars false #[Value.string ⟨#[]⟩].toList 8).map (fun x => (x.1, x.2.1)) =
      some ([.lit (.string [])], []) := by kernel_rfl
  obtain ⟨⟨x1, x2, x3⟩, hx, hx1⟩ := Option.map_eq_some_iff.1 hw
  simp only [Prod.mk.injEq] at hx1
  obtain ⟨rfl, rfl⟩ := hx1
  refine OpenSpec.preRow_of_cond 8 hx (by kernel_rfl) (fun k hk => by cases hk) (by kernel_rfl) ?_
  rw [MakeChecks.laidMetH_plain _ _ _ (by kernel_rfl)]
  exact laidMet_laidAll _ (by kernel_rfl) (by kernel_rfl)

set_option maxRecDepth 100000 in
theorem law3_lifted (os : Os) (started : os.Started) (H : Type) (enc : TypeId × Value → H) :
    ReturnsInTold none {} Tryf.checked os 3 .any Input.okWide ((OpenSpec.ofChange Rows.fnIsWordByteCoversAcceptedKeysSpec).preRow enc Tryf.prog Tryf.f3 Rows.fnIsWordByteCoversAcceptedKeysRow.domain false Rows.fnIsWordByteCoversAcceptedKeysRow.laid)
      (fun F => ((OpenSpec.ofChange Rows.fnIsWordByteCoversAcceptedKeysSpec).at F).post enc Tryf.prog Tryf.f3 false true false false) (aloneAtReturn Tryf.prog) nothingAlways := by
  refine returnsInTold_of_row (C := Tryf.checked) (s := OpenSpec.ofChange Rows.fnIsWordByteCoversAcceptedKeysSpec) (by kernel_rfl) own started (by kernel_rfl) Tryf.func3
    (OpenSpec.witness_stopped_atRef (enc := enc) (C := Tryf.checked) false (World.laidAll Tryf.prog os Rows.fnIsWordByteCoversAcceptedKeysRow.laid) #[.string ⟨#[]⟩] (World.laidAll_os _ _ _) (by kernel_rfl) (by kernel_rfl) (by kernel_rfl) (witness_row os enc)) ?_
  intro F W base args ds gs before _ hF hval0 hW _ _ _ _ _
  have hval : ∀ (j : Nat) t v, Tryf.f3.params[j]? = some t → args[j]? = some v → Value.okWide Tryf.prog W .any base t v := hval0
  have hW' := hW
  obtain ⟨p, q, hA0, hV, rfl, _, _⟩ := hW
  have hA : DataW.TrodAll enc Tryf.prog W 0 (fun _ => true) true Tryf.f3.params.toList args.toList ds p := hA0
  rw [Tryf.params3] at hA hval
  obtain ⟨v0, d0, rfl, rfl, h0⟩ := trodAll_one hA
  obtain ⟨rfl, rfl⟩ := trodVars_none hV
  obtain ⟨s, rfl, rfl, rfl, ws⟩ := open_string Tryf.underlying9 (hval 0 9 v0 rfl rfl) h0
  clear hA0 hval0
  refine (law3 F.told s W hF).mono fun e W' ⟨he, hb⟩ => ?_
  subst he
  refine ⟨_, rfl, _, _, _, [], [], [], hW', ?_, ?_, ?_, hb.frame _, fun h => by cases h⟩
  · exact trodAll_mk1 (shut_bool Tryf.underlying4 true)
  · exact trodAll_mk1 (shut_string Tryf.underlying9 ws)
  · rfl

theorem fnIsWordByteCoversAcceptedKeys_told : Rows.FnIsWordByteCoversAcceptedKeysToldSaid :=
  Claim7.holds_of_told_tied_any_at .later 3 Tryf.f3 "fmt.errorf, its operands' methods called" ["fmt.Sprintf"] [] Rows.fnIsWordByteCoversAcceptedKeysCard.stood.harness _ _ [.data, .pinned] true (by kernel_rfl) rfl rfl rfl laidOut (by kernel_rfl) rfl ⟨rfl, rfl, rfl, rfl, rfl, rfl, rfl⟩ rfl rfl (by kernel_rfl) (by kernel_rfl) Tryf.func3 (by kernel_rfl)
    (of_decide_eq_true (by kernel_rfl)) (of_decide_eq_true (by kernel_rfl)) stops.symm rfl stopKnobs.symm (by kernel_rfl)
    (by kernel_rfl) (by kernel_rfl) (by kernel_rfl) (by kernel_rfl) (by kernel_rfl) (by kernel_rfl) (by kernel_rfl) (by kernel_rfl) (by kernel_rfl) rfl (by kernel_rfl) rfl rfl
    rfl rfl
    rfl (by kernel_rfl) (by kernel_rfl) (by kernel_rfl) (by decide) (by kernel_rfl) fnIsWordByteCoversAcceptedKeys_row_tie
    (OpenClaim.moreEntering_of (by kernel_rfl) (by kernel_rfl) (by kernel_rfl) (by kernel_rfl) (by kernel_rfl) (by kernel_rfl) (by kernel_rfl) (by kernel_rfl) (by kernel_rfl) (by kernel_rfl))
    ⟨_, WideRow.started_initial, quiet _⟩
    (fun os started _ H enc _ => law3_lifted os started H enc)
end Go.Proofs.Qxb6605882aFmt
