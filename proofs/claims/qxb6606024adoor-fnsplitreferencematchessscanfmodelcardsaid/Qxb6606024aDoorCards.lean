/-
  DERIVED. GIVEN WITH THE SEED: THE CARDS: each row of Qxb6606024aDoorRows.lean that lists a variable, with what it lists TIED to the program's text (the seventh form; the later family's looks); each row that meets fmt, with fmt's text TOLD by the authors' own Lean function (tested against real Go, not proved from fmt's source: count such statements apart). THE CARD IS WHAT COUNTS. Prove the row's statement (the work); the ties are given (Qxb6606024aDoorTie.lean); close each card by the builder's one call (the guide's Derived/Test/ToyasCard.lean, 'card_holds'). Laid BY PROGRAM, IN A SANDBOX (cutbox-door.mjs). By AI agents, Wed Nov 11 2026. No macro, syntax, notation, axiom, sorry.
-/
import Derived.Test.Qxb6606024aDoorRows
import GoSem.ClaimSeven
namespace Go.Proofs.Qxb6606024aDoor
namespace Rows

/-- THE TIED CARD OF 'zzlaws_internal_eval_b1.FnSplitReferenceMatchesSscanfModel'. -/
def fnSplitReferenceMatchesSscanfModelCard : Claim7 := { stood := { row := fnSplitReferenceMatchesSscanfModelRow, standIns := [], harness := (true, "dd3e87f5d359785a588471f6a778f326f3f235d39cbc73acee2601f34d57a4c2"), looks := false }, kinds := [], alts := [], laidByText := true, laidKinds := [.data, .pinned], laidTests := true, laidLooks := .later }
def FnSplitReferenceMatchesSscanfModelCardSaid : Prop := Claim7.holds Tryd.pinned (.plain (OpenSpec.ofChange fnSplitReferenceMatchesSscanfModelSpec)) fnSplitReferenceMatchesSscanfModelCard

/-- THE TIED CARD OF 'zzlaws_internal_eval_b1.FnSplitReferenceRoundTrip'. -/
def fnSplitReferenceRoundTripCard : Claim7 := { stood := { row := fnSplitReferenceRoundTripRow, standIns := [], harness := (true, "dd3e87f5d359785a588471f6a778f326f3f235d39cbc73acee2601f34d57a4c2"), looks := false }, kinds := [], alts := [], laidByText := true, laidKinds := [.data, .pinned], laidTests := true, laidLooks := .later }
def FnSplitReferenceRoundTripCardSaid : Prop := Claim7.holds Tryd.pinned (.plain (OpenSpec.ofChange fnSplitReferenceRoundTripSpec)) fnSplitReferenceRoundTripCard
end Rows
end Go.Proofs.Qxb6606024aDoor
