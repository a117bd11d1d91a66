/-
  NARROWER THAN 'FOR EVERY INPUT', by the rows' own cells (each row's printed sentence says how): FnListOthersWidensAllows: laid · FnListOthersAppendRune: laid.
  DERIVED. THE GIVEN ROWS OF THIS SEAT. 2 by the template 'for every input the law returns true; each argument reads behind the call as it read before'; 0 by the template 'total and deterministic' (their statements: Qxb6608612aDoorTotals.lean).
  GIVEN WITH THE SEED: the statements are not yours to turn. If you find one false, say at which input.
  Laid BY PROGRAM, IN A SANDBOX (cutbox-rows.mjs): the forced cells as the released guide's own fill.sh prints them over the translation 4f8796a886ec6dee… (all of the seat's roots in one cut). By AI agents, Wed Nov 11 2026. No macro, syntax, notation, axiom, sorry.
-/
import Derived.Test.Qxb6608612aDoorChecked
import GoSem.PinnedTables
import GoSem.Claim
import GoSem.ClaimJoined
import GoSem.ClaimMapViews
import Derived.JoinedTies
import Derived.KernelRfl
namespace Go.Proofs.Qxb6608612aDoor
/- THE CELL 'sum', in the pinned program and in every row, IS THE sha256 OF THE DUMP (.gsa) THAT Qxb6608612aDoorProg.lean LOADS. Nothing in Lean hashes anything: it is a label: what it is worth is what the hold of that sum in a sandbox is worth. -/
noncomputable def Tryd.pinned : Pinned := { name := "qxb6608612adoor", sum := "4f8796a886ec6deee54401e4552f143bc1d0c28fa0c1f8f5105a75b16a046715", checked := Tryd.checked }
namespace Rows
def none {H : Type} : Left H := { results := [], args := [] }

/- WHAT THE LISTED PACKAGE-LEVEL VARIABLES READ AS WHEN THE CALL BEGINS. Each datum BY PROGRAM (the guide's laid-datum.mjs) off the statement by which the dump's own 'gosem.cut.vars' lays the variable. In a bare row this is a premise. The card (Qxb6608612aDoorCards.lean) ties it to the program's text. -/
def laid_unicode_utf8_acceptRanges {H : Type} : DataW H := .agg [.agg [.lit (.int .u8 128), .lit (.int .u8 191)], .agg [.lit (.int .u8 160), .lit (.int .u8 191)], .agg [.lit (.int .u8 128), .lit (.int .u8 159)], .agg [.lit (.int .u8 144), .lit (.int .u8 191)], .agg [.lit (.int .u8 128), .lit (.int .u8 143)], .agg [.lit (.int .u8 0), .lit (.int .u8 0)], .agg [.lit (.int .u8 0), .lit (.int .u8 0)], .agg [.lit (.int .u8 0), .lit (.int .u8 0)], .agg [.lit (.int .u8 0), .lit (.int .u8 0)], .agg [.lit (.int .u8 0), .lit (.int .u8 0)], .agg [.lit (.int .u8 0), .lit (.int .u8 0)], .agg [.lit (.int .u8 0), .lit (.int .u8 0)], .agg [.lit (.int .u8 0), .lit (.int .u8 0)], .agg [.lit (.int .u8 0), .lit (.int .u8 0)], .agg [.lit (.int .u8 0), .lit (.int .u8 0)], .agg [.lit (.int .u8 0), .lit (.int .u8 0)]]
/-- One of Go's own tables, pinned by name: the form's constant. -/
def laid_unicode_utf8_first : DataW Unit := Go.Pinned.utf8First

/-- 'zzlaws_toolname_b1.FnListOthersWidensAllows': WHATEVER THE INPUT: true; the input reads as it did. -/
def fnListOthersWidensAllowsSpec : ChangeSpec := { name := "fnListOthersWidensAllows", fn := fun _ => fun
  | [d1, d2, d3] => { results := [.lit (.bool true)], args := [d1, d2, d3] }
  | _ => none }
def fnListOthersWidensAllowsRow : OpenClaim := { program := "qxb6608612adoor", sum := "4f8796a886ec6deee54401e4552f143bc1d0c28fa0c1f8f5105a75b16a046715", func := "example.com/ferrule/ferrule/zzlaws_toolname_b1.FnListOthersWidensAllows", spec := "fnListOthersWidensAllows", inPlace := ["internal/bytealg.CountString", "internal/bytealg.IndexByteString", "internal/bytealg.IndexString", "internal/abi.NoEscape", "internal/bytealg.MakeNoZero"], named := ["unicode/utf8.first", "unicode/utf8.acceptRanges", "internal/bytealg.MaxLen"], apart := false, laid := [("unicode/utf8.acceptRanges", laid_unicode_utf8_acceptRanges), ("unicode/utf8.first", laid_unicode_utf8_first)] }
def FnListOthersWidensAllowsSaid : Prop := fnListOthersWidensAllowsRow.holds Tryd.pinned (OpenSpec.ofChange fnListOthersWidensAllowsSpec)

/-- ITS FALSE NEIGHBOUR: 'it returns false'. Refute it at one input. -/
def fnListOthersWidensAllowsWrong : ChangeSpec := { name := "fnListOthersWidensAllows", fn := fun _ => fun
  | [d1, d2, d3] => { results := [.lit (.bool false)], args := [d1, d2, d3] }
  | _ => none }
def FnListOthersWidensAllowsWrongFalsely : Prop := fnListOthersWidensAllowsRow.holds Tryd.pinned (OpenSpec.ofChange fnListOthersWidensAllowsWrong)

/-- 'zzlaws_toolname_b1.FnListOthersAppendRune': WHATEVER THE INPUT: true; the input reads as it did. -/
def fnListOthersAppendRuneSpec : ChangeSpec := { name := "fnListOthersAppendRune", fn := fun _ => fun
  | [d1, d2, d3] => { results := [.lit (.bool true)], args := [d1, d2, d3] }
  | _ => none }
def fnListOthersAppendRuneRow : OpenClaim := { program := "qxb6608612adoor", sum := "4f8796a886ec6deee54401e4552f143bc1d0c28fa0c1f8f5105a75b16a046715", func := "example.com/ferrule/ferrule/zzlaws_toolname_b1.FnListOthersAppendRune", spec := "fnListOthersAppendRune", inPlace := ["internal/bytealg.CountString", "internal/bytealg.IndexByteString", "internal/bytealg.IndexString", "internal/abi.NoEscape", "internal/bytealg.MakeNoZero"], named := ["unicode/utf8.first", "unicode/utf8.acceptRanges", "internal/bytealg.MaxLen"], apart := false, laid := [("unicode/utf8.acceptRanges", laid_unicode_utf8_acceptRanges), ("unicode/utf8.first", laid_unicode_utf8_first)] }
def FnListOthersAppendRuneSaid : Prop := fnListOthersAppendRuneRow.holds Tryd.pinned (OpenSpec.ofChange fnListOthersAppendRuneSpec)

/-- ITS FALSE NEIGHBOUR: 'it returns false'. Refute it at one input. -/
def fnListOthersAppendRuneWrong : ChangeSpec := { name := "fnListOthersAppendRune", fn := fun _ => fun
  | [d1, d2, d3] => { results := [.lit (.bool false)], args := [d1, d2, d3] }
  | _ => none }
def FnListOthersAppendRuneWrongFalsely : Prop := fnListOthersAppendRuneRow.holds Tryd.pinned (OpenSpec.ofChange fnListOthersAppendRuneWrong)

end Rows
end Go.Proofs.Qxb6608612aDoor
