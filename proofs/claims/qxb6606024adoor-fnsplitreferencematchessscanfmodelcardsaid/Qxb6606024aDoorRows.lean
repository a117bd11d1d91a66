/-
  NARROWER THAN 'FOR EVERY INPUT', by the rows' own cells (each row's printed sentence says how): FnSplitReferenceMatchesSscanfModel: laid · FnSplitReferenceRoundTrip: laid.
  DERIVED. THE GIVEN ROWS OF THIS SEAT. 2 by the template 'for every input the law returns true; each argument reads behind the call as it read before'; 0 by the template 'total and deterministic' (their statements: Qxb6606024aDoorTotals.lean).
  GIVEN WITH THE SEED: the statements are not yours to turn. If you find one false, say at which input.
  Laid BY PROGRAM, IN A SANDBOX (cutbox-rows.mjs): the forced cells as the released guide's own fill.sh prints them over the translation 0b80dae3b2ece5a0… (all of the seat's roots in one cut). By AI agents, Wed Nov 11 2026. No macro, syntax, notation, axiom, sorry.
-/
import Derived.Test.Qxb6606024aDoorChecked
import GoSem.PinnedTables
import GoSem.Claim
import GoSem.ClaimJoined
import GoSem.ClaimMapViews
import Derived.JoinedTies
import Derived.KernelRfl
namespace Go.Proofs.Qxb6606024aDoor
/- THE CELL 'sum', in the pinned program and in every row, IS THE sha256 OF THE DUMP (.gsa) THAT Qxb6606024aDoorProg.lean LOADS. Nothing in Lean hashes anything: it is a label: what it is worth is what the hold of that sum in a sandbox is worth. -/
noncomputable def Tryd.pinned : Pinned := { name := "qxb6606024adoor", sum := "0b80dae3b2ece5a0e63c433832508dc62d469df0dc49c61f3d7bdde610a01446", checked := Tryd.checked }
namespace Rows
def none {H : Type} : Left H := { results := [], args := [] }

/- WHAT THE LISTED PACKAGE-LEVEL VARIABLES READ AS WHEN THE CALL BEGINS. Each datum BY PROGRAM (the guide's laid-datum.mjs) off the statement by which the dump's own 'gosem.cut.vars' lays the variable. In a bare row this is a premise. The card (Qxb6606024aDoorCards.lean) ties it to the program's text. -/
def laid_unicode_utf8_acceptRanges {H : Type} : DataW H := .agg [.agg [.lit (.int .u8 128), .lit (.int .u8 191)], .agg [.lit (.int .u8 160), .lit (.int .u8 191)], .agg [.lit (.int .u8 128), .lit (.int .u8 159)], .agg [.lit (.int .u8 144), .lit (.int .u8 191)], .agg [.lit (.int .u8 128), .lit (.int .u8 143)], .agg [.lit (.int .u8 0), .lit (.int .u8 0)], .agg [.lit (.int .u8 0), .lit (.int .u8 0)], .agg [.lit (.int .u8 0), .lit (.int .u8 0)], .agg [.lit (.int .u8 0), .lit (.int .u8 0)], .agg [.lit (.int .u8 0), .lit (.int .u8 0)], .agg [.lit (.int .u8 0), .lit (.int .u8 0)], .agg [.lit (.int .u8 0), .lit (.int .u8 0)], .agg [.lit (.int .u8 0), .lit (.int .u8 0)], .agg [.lit (.int .u8 0), .lit (.int .u8 0)], .agg [.lit (.int .u8 0), .lit (.int .u8 0)], .agg [.lit (.int .u8 0), .lit (.int .u8 0)]]
/-- One of Go's own tables, pinned by name: the form's constant. -/
def laid_unicode_utf8_first : DataW Unit := Go.Pinned.utf8First

/-- 'zzlaws_internal_eval_b1.FnSplitReferenceMatchesSscanfModel': WHATEVER THE INPUT: true; the input reads as it did. -/
def fnSplitReferenceMatchesSscanfModelSpec : ChangeSpec := { name := "fnSplitReferenceMatchesSscanfModel", fn := fun _ => fun
  | [d] => { results := [.lit (.bool true)], args := [d] }
  | _ => none }
def fnSplitReferenceMatchesSscanfModelRow : OpenClaim := { program := "qxb6606024adoor", sum := "0b80dae3b2ece5a0e63c433832508dc62d469df0dc49c61f3d7bdde610a01446", func := "example.com/fama/fama/zzlaws_internal_eval_b1.FnSplitReferenceMatchesSscanfModel", spec := "fnSplitReferenceMatchesSscanfModel", inPlace := ["internal/bytealg.IndexByteString", "internal/bytealg.CountString", "internal/bytealg.IndexString"], named := ["internal/bytealg.MaxLen", "unicode/utf8.first", "unicode/utf8.acceptRanges"], apart := false, laid := [("unicode/utf8.acceptRanges", laid_unicode_utf8_acceptRanges), ("unicode/utf8.first", laid_unicode_utf8_first)] }
def FnSplitReferenceMatchesSscanfModelSaid : Prop := fnSplitReferenceMatchesSscanfModelRow.holds Tryd.pinned (OpenSpec.ofChange fnSplitReferenceMatchesSscanfModelSpec)

/-- ITS FALSE NEIGHBOUR: 'it returns false'. Refute it at one input. -/
def fnSplitReferenceMatchesSscanfModelWrong : ChangeSpec := { name := "fnSplitReferenceMatchesSscanfModel", fn := fun _ => fun
  | [d] => { results := [.lit (.bool false)], args := [d] }
  | _ => none }
def FnSplitReferenceMatchesSscanfModelWrongFalsely : Prop := fnSplitReferenceMatchesSscanfModelRow.holds Tryd.pinned (OpenSpec.ofChange fnSplitReferenceMatchesSscanfModelWrong)

/-- 'zzlaws_internal_eval_b1.FnSplitReferenceRoundTrip': WHATEVER THE INPUT: true; the input reads as it did. -/
def fnSplitReferenceRoundTripSpec : ChangeSpec := { name := "fnSplitReferenceRoundTrip", fn := fun _ => fun
  | [d1, d2, d3] => { results := [.lit (.bool true)], args := [d1, d2, d3] }
  | _ => none }
def fnSplitReferenceRoundTripRow : OpenClaim := { program := "qxb6606024adoor", sum := "0b80dae3b2ece5a0e63c433832508dc62d469df0dc49c61f3d7bdde610a01446", func := "example.com/fama/fama/zzlaws_internal_eval_b1.FnSplitReferenceRoundTrip", spec := "fnSplitReferenceRoundTrip", inPlace := ["internal/bytealg.IndexByteString", "internal/bytealg.CountString", "internal/bytealg.IndexString"], named := ["internal/bytealg.MaxLen", "unicode/utf8.first", "unicode/utf8.acceptRanges"], apart := false, laid := [("unicode/utf8.acceptRanges", laid_unicode_utf8_acceptRanges), ("unicode/utf8.first", laid_unicode_utf8_first)] }
def FnSplitReferenceRoundTripSaid : Prop := fnSplitReferenceRoundTripRow.holds Tryd.pinned (OpenSpec.ofChange fnSplitReferenceRoundTripSpec)

/-- ITS FALSE NEIGHBOUR: 'it returns false'. Refute it at one input. -/
def fnSplitReferenceRoundTripWrong : ChangeSpec := { name := "fnSplitReferenceRoundTrip", fn := fun _ => fun
  | [d1, d2, d3] => { results := [.lit (.bool false)], args := [d1, d2, d3] }
  | _ => none }
def FnSplitReferenceRoundTripWrongFalsely : Prop := fnSplitReferenceRoundTripRow.holds Tryd.pinned (OpenSpec.ofChange fnSplitReferenceRoundTripWrong)

end Rows
end Go.Proofs.Qxb6606024aDoor
