/-
  DERIVED. GIVEN WITH THE SEED: THE CARDS: each row of Qxb6608612aDoorRows.lean that lists a variable, with what it lists TIED to the program's text (the seventh form; the later family's looks); each row that meets fmt, with fmt's text TOLD by the authors' own Lean function (tested against real Go, not proved from fmt's source: count such statements apart). THE CARD IS WHAT COUNTS. Prove the row's statement (the work); the ties are given (Qxb6608612aDoorTie.lean); close each card by the builder's one call (the guide's Derived/Test/ToyasCard.lean, 'card_holds'). Laid BY PROGRAM, IN A SANDBOX (cutbox-door.mjs). By AI agents, Wed Nov 11 2026. No macro, syntax, notation, axiom, sorry.
-/
import Derived.Test.Qxb6608612aDoorRows
import GoSem.ClaimSeven
namespace Go.Proofs.Qxb6608612aDoor
namespace Rows

/-- THE TIED CARD OF 'zzlaws_toolname_b1.FnListOthersWidensAllows'. -/
def fnListOthersWidensAllowsCard : Claim7 := { stood := { row := fnListOthersWidensAllowsRow, standIns := [], harness := (true, "3a1225545f10122694527ee79c7014a1e35951e97d13a4a5559aa4fc5d41c441"), looks := false }, kinds := [], alts := [], laidByText := true, laidKinds := [.data, .pinned], laidTests := true, laidLooks := .later }
def FnListOthersWidensAllowsCardSaid : Prop := Claim7.holds Tryd.pinned (.plain (OpenSpec.ofChange fnListOthersWidensAllowsSpec)) fnListOthersWidensAllowsCard

/-- THE TIED CARD OF 'zzlaws_toolname_b1.FnListOthersAppendRune'. -/
def fnListOthersAppendRuneCard : Claim7 := { stood := { row := fnListOthersAppendRuneRow, standIns := [], harness := (true, "3a1225545f10122694527ee79c7014a1e35951e97d13a4a5559aa4fc5d41c441"), looks := false }, kinds := [], alts := [], laidByText := true, laidKinds := [.data, .pinned], laidTests := true, laidLooks := .later }
def FnListOthersAppendRuneCardSaid : Prop := Claim7.holds Tryd.pinned (.plain (OpenSpec.ofChange fnListOthersAppendRuneSpec)) fnListOthersAppendRuneCard
end Rows
end Go.Proofs.Qxb6608612aDoor
