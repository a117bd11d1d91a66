/-
  DERIVED. GIVEN WITH THE SEED: THE CARDS: each row of Qxb6605388aDoorRows.lean that lists a variable, with what it lists TIED to the program's text (the seventh form; the later family's looks); each row that meets fmt, with fmt's text TOLD by the authors' own Lean function (tested against real Go, not proved from fmt's source: count such statements apart). THE CARD IS WHAT COUNTS. Prove the row's statement (the work); the ties are given (Qxb6605388aDoorTie.lean); close each card by the builder's one call (the guide's Derived/Test/ToyasCard.lean, 'card_holds'). Laid BY PROGRAM, IN A SANDBOX (cutbox-door.mjs). By AI agents, Wed Nov 11 2026. No macro, syntax, notation, axiom, sorry.
-/
import Derived.Test.Qxb6605388aDoorRows
import GoSem.ClaimSeven
namespace Go.Proofs.Qxb6605388aDoor
namespace Rows

/-- THE TIED CARD OF 'zzlaws_internal_resource_b1.FnSplitQueryMatchesLookaheadCutModel'. -/
def fnSplitQueryMatchesLookaheadCutModelCard : Claim7 := { stood := { row := fnSplitQueryMatchesLookaheadCutModelRow, standIns := [], harness := (true, "b944669c9cd3f4d154cc4b3c5cc51bcbedc222d3cda95e6131d0518e2be839bb"), looks := false }, kinds := [], alts := [], laidByText := true, laidKinds := [.data, .pinned], laidTests := true, laidLooks := .later }
def FnSplitQueryMatchesLookaheadCutModelCardSaid : Prop := Claim7.holds Tryd.pinned (.plain (OpenSpec.ofChange fnSplitQueryMatchesLookaheadCutModelSpec)) fnSplitQueryMatchesLookaheadCutModelCard

/-- THE TIED CARD OF 'zzlaws_internal_resource_b1.FnSplitQueryAppendedSettingScript'. -/
def fnSplitQueryAppendedSettingScriptCard : Claim7 := { stood := { row := fnSplitQueryAppendedSettingScriptRow, standIns := [], harness := (true, "b944669c9cd3f4d154cc4b3c5cc51bcbedc222d3cda95e6131d0518e2be839bb"), looks := false }, kinds := [], alts := [], laidByText := true, laidKinds := [.data, .pinned], laidTests := true, laidLooks := .later }
def FnSplitQueryAppendedSettingScriptCardSaid : Prop := Claim7.holds Tryd.pinned (.plain (OpenSpec.ofChange fnSplitQueryAppendedSettingScriptSpec)) fnSplitQueryAppendedSettingScriptCard

/-- THE TIED CARD OF 'zzlaws_internal_resource_b1.FnHostAndPathEndsWhereSplitQueryHeadEnds'. -/
def fnHostAndPathEndsWhereSplitQueryHeadEndsCard : Claim7 := { stood := { row := fnHostAndPathEndsWhereSplitQueryHeadEndsRow, standIns := [], harness := (true, "b944669c9cd3f4d154cc4b3c5cc51bcbedc222d3cda95e6131d0518e2be839bb"), looks := false }, kinds := [], alts := [], laidByText := true, laidKinds := [.data, .pinned], laidTests := true, laidLooks := .later }
def FnHostAndPathEndsWhereSplitQueryHeadEndsCardSaid : Prop := Claim7.holds Tryd.pinned (.plain (OpenSpec.ofChange fnHostAndPathEndsWhereSplitQueryHeadEndsSpec)) fnHostAndPathEndsWhereSplitQueryHeadEndsCard
end Rows
end Go.Proofs.Qxb6605388aDoor
