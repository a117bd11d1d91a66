/-
  DERIVED. GIVEN WITH THE SEED: THE CARDS: each row of Qxb6605882aFmtRows.lean that lists a variable, with what it lists TIED to the program's text (the seventh form; the later family's looks); each row that meets fmt, with fmt's text TOLD by the authors' own Lean function (tested against real Go, not proved from fmt's source: count such statements apart). THE CARD IS WHAT COUNTS. Prove the row's statement (the work); the ties are given (Qxb6605882aFmtTie.lean); close each card by the builder's one call (the guide's Derived/Test/ToyasCard.lean, 'card_holds'). Laid BY PROGRAM, IN A SANDBOX (cutbox-door.mjs). By AI agents, Wed Nov 11 2026. No macro, syntax, notation, axiom, sorry.
-/
import Derived.Test.Qxb6605882aFmtRows
import GoSem.ClaimSeven
namespace Go.Proofs.Qxb6605882aFmt
namespace Rows

/-- THE TOLD AND TIED CARD OF 'zzlaws_internal_selector_b1.FnIsWordByteCoversAcceptedKeys'. -/
def fnIsWordByteCoversAcceptedKeysCard : Claim7 := { stood := { row := fnIsWordByteCoversAcceptedKeysRow, standIns := [], harness := (true, "358c56dafb42a7264d2e1c24e7ae4b23cebd360d9e2f72a6542e806339af7d5a"), looks := true }, told := true, laidByText := true, laidKinds := [.data, .pinned], laidTests := true, laidLooks := .later, goes := false }
def FnIsWordByteCoversAcceptedKeysToldSaid : Prop := Claim7.holds Tryf.pinned (.plain (OpenSpec.ofChange fnIsWordByteCoversAcceptedKeysSpec)) fnIsWordByteCoversAcceptedKeysCard
/-- ITS FALSE NEIGHBOUR. Refute it at one input. -/
def FnIsWordByteCoversAcceptedKeysToldWrongFalsely : Prop := Claim7.holds Tryf.pinned (.plain (OpenSpec.ofChange fnIsWordByteCoversAcceptedKeysWrong)) fnIsWordByteCoversAcceptedKeysCard

/-- THE TOLD AND TIED CARD OF 'zzlaws_internal_selector_b1.FnRequirementRoundTrip'. -/
def fnRequirementRoundTripCard : Claim7 := { stood := { row := fnRequirementRoundTripRow, standIns := [], harness := (true, "358c56dafb42a7264d2e1c24e7ae4b23cebd360d9e2f72a6542e806339af7d5a"), looks := true }, told := true, laidByText := true, laidKinds := [.data, .data, .data, .data, .sentinel, .sentinel, .pinned], laidTests := true, laidLooks := .later, goes := false }
def FnRequirementRoundTripToldSaid : Prop := Claim7.holds Tryf.pinned (.plain (OpenSpec.ofChange fnRequirementRoundTripSpec)) fnRequirementRoundTripCard
/-- ITS FALSE NEIGHBOUR. Refute it at one input. -/
def FnRequirementRoundTripToldWrongFalsely : Prop := Claim7.holds Tryf.pinned (.plain (OpenSpec.ofChange fnRequirementRoundTripWrong)) fnRequirementRoundTripCard
end Rows
end Go.Proofs.Qxb6605882aFmt
