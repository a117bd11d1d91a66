/-
  NARROWER THAN 'FOR EVERY INPUT', by the rows' own cells (each row's printed sentence says how): FnSplitQueryMatchesLookaheadCutModel: laid · FnSplitQueryAppendedSettingScript: laid · FnHostAndPathEndsWhereSplitQueryHeadEnds: laid.
  DERIVED. THE GIVEN ROWS OF THIS SEAT. 3 by the template 'for every input the law returns true; each argument reads behind the call as it read before'; 0 by the template 'total and deterministic' (their statements: Qxb6605388aDoorTotals.lean).
  GIVEN WITH THE SEED: the statements are not yours to turn. If you find one false, say at which input.
  Laid BY PROGRAM, IN A SANDBOX (cutbox-rows.mjs): the forced cells as the released guide's own fill.sh prints them over the translation 615d59cbcfeb07be… (all of the seat's roots in one cut). By AI agents, Wed Nov 11 2026. No macro, syntax, notation, axiom, sorry.
-/
import Derived.Test.Qxb6605388aDoorChecked
import GoSem.PinnedTables
import GoSem.Claim
import GoSem.ClaimJoined
import GoSem.ClaimMapViews
import Derived.JoinedTies
import Derived.KernelRfl
namespace Go.Proofs.Qxb6605388aDoor
/- THE CELL 'sum', in the pinned program and in every row, IS THE sha256 OF THE DUMP (.gsa) THAT Qxb6605388aDoorProg.lean LOADS. Nothing in Lean hashes anything: it is a label: what it is worth is what the hold of that sum in a sandbox is worth. -/
noncomputable def Tryd.pinned : Pinned := { name := "qxb6605388adoor", sum := "615d59cbcfeb07be5df31832dfdf67950a22da32f99094493040fd7cd8c3bf43", checked := Tryd.checked }
namespace Rows
def none {H : Type} : Left H := { results := [], args := [] }

/- WHAT THE LISTED PACKAGE-LEVEL VARIABLES READ AS WHEN THE CALL BEGINS. Each datum BY PROGRAM (the guide's laid-datum.mjs) off the statement by which the dump's own 'gosem.cut.vars' lays the variable. In a bare row this is a premise. The card (Qxb6605388aDoorCards.lean) ties it to the program's text. -/
def laid_unicode_utf8_acceptRanges {H : Type} : DataW H := .agg [.agg [.lit (.int .u8 128), .lit (.int .u8 191)], .agg [.lit (.int .u8 160), .lit (.int .u8 191)], .agg [.lit (.int .u8 128), .lit (.int .u8 159)], .agg [.lit (.int .u8 144), .lit (.int .u8 191)], .agg [.lit (.int .u8 128), .lit (.int .u8 143)], .agg [.lit (.int .u8 0), .lit (.int .u8 0)], .agg [.lit (.int .u8 0), .lit (.int .u8 0)], .agg [.lit (.int .u8 0), .lit (.int .u8 0)], .agg [.lit (.int .u8 0), .lit (.int .u8 0)], .agg [.lit (.int .u8 0), .lit (.int .u8 0)], .agg [.lit (.int .u8 0), .lit (.int .u8 0)], .agg [.lit (.int .u8 0), .lit (.int .u8 0)], .agg [.lit (.int .u8 0), .lit (.int .u8 0)], .agg [.lit (.int .u8 0), .lit (.int .u8 0)], .agg [.lit (.int .u8 0), .lit (.int .u8 0)], .agg [.lit (.int .u8 0), .lit (.int .u8 0)]]
/-- One of Go's own tables, pinned by name: the form's constant. -/
def laid_unicode_utf8_first : DataW Unit := Go.Pinned.utf8First

/-- 'zzlaws_internal_resource_b1.FnSplitQueryMatchesLookaheadCutModel': WHATEVER THE INPUT: true; the input reads as it did. -/
def fnSplitQueryMatchesLookaheadCutModelSpec : ChangeSpec := { name := "fnSplitQueryMatchesLookaheadCutModel", fn := fun _ => fun
  | [d] => { results := [.lit (.bool true)], args := [d] }
  | _ => none }
def fnSplitQueryMatchesLookaheadCutModelRow : OpenClaim := { program := "qxb6605388adoor", sum := "615d59cbcfeb07be5df31832dfdf67950a22da32f99094493040fd7cd8c3bf43", func := "example.com/unanimity/unanimity/zzlaws_internal_resource_b1.FnSplitQueryMatchesLookaheadCutModel", spec := "fnSplitQueryMatchesLookaheadCutModel", inPlace := ["internal/bytealg.IndexByteString", "internal/bytealg.CountString", "internal/bytealg.IndexString"], named := ["unicode/utf8.first", "unicode/utf8.acceptRanges", "internal/bytealg.MaxLen"], apart := false, laid := [("unicode/utf8.acceptRanges", laid_unicode_utf8_acceptRanges), ("unicode/utf8.first", laid_unicode_utf8_first)] }
def FnSplitQueryMatchesLookaheadCutModelSaid : Prop := fnSplitQueryMatchesLookaheadCutModelRow.holds Tryd.pinned (OpenSpec.ofChange fnSplitQueryMatchesLookaheadCutModelSpec)

/-- ITS FALSE NEIGHBOUR: 'it returns false'. Refute it at one input. -/
def fnSplitQueryMatchesLookaheadCutModelWrong : ChangeSpec := { name := "fnSplitQueryMatchesLookaheadCutModel", fn := fun _ => fun
  | [d] => { results := [.lit (.bool false)], args := [d] }
  | _ => none }
def FnSplitQueryMatchesLookaheadCutModelWrongFalsely : Prop := fnSplitQueryMatchesLookaheadCutModelRow.holds Tryd.pinned (OpenSpec.ofChange fnSplitQueryMatchesLookaheadCutModelWrong)

/-- 'zzlaws_internal_resource_b1.FnSplitQueryAppendedSettingScript': WHATEVER THE INPUT: true; the input reads as it did. -/
def fnSplitQueryAppendedSettingScriptSpec : ChangeSpec := { name := "fnSplitQueryAppendedSettingScript", fn := fun _ => fun
  | [d] => { results := [.lit (.bool true)], args := [d] }
  | _ => none }
def fnSplitQueryAppendedSettingScriptRow : OpenClaim := { program := "qxb6605388adoor", sum := "615d59cbcfeb07be5df31832dfdf67950a22da32f99094493040fd7cd8c3bf43", func := "example.com/unanimity/unanimity/zzlaws_internal_resource_b1.FnSplitQueryAppendedSettingScript", spec := "fnSplitQueryAppendedSettingScript", inPlace := ["internal/bytealg.IndexByteString", "internal/bytealg.CountString", "internal/bytealg.IndexString"], named := ["unicode/utf8.first", "unicode/utf8.acceptRanges", "internal/bytealg.MaxLen"], apart := false, laid := [("unicode/utf8.acceptRanges", laid_unicode_utf8_acceptRanges), ("unicode/utf8.first", laid_unicode_utf8_first)] }
def FnSplitQueryAppendedSettingScriptSaid : Prop := fnSplitQueryAppendedSettingScriptRow.holds Tryd.pinned (OpenSpec.ofChange fnSplitQueryAppendedSettingScriptSpec)

/-- ITS FALSE NEIGHBOUR: 'it returns false'. Refute it at one input. -/
def fnSplitQueryAppendedSettingScriptWrong : ChangeSpec := { name := "fnSplitQueryAppendedSettingScript", fn := fun _ => fun
  | [d] => { results := [.lit (.bool false)], args := [d] }
  | _ => none }
def FnSplitQueryAppendedSettingScriptWrongFalsely : Prop := fnSplitQueryAppendedSettingScriptRow.holds Tryd.pinned (OpenSpec.ofChange fnSplitQueryAppendedSettingScriptWrong)

/-- 'zzlaws_internal_resource_b1.FnHostAndPathEndsWhereSplitQueryHeadEnds': WHATEVER THE INPUT: true; the input reads as it did. -/
def fnHostAndPathEndsWhereSplitQueryHeadEndsSpec : ChangeSpec := { name := "fnHostAndPathEndsWhereSplitQueryHeadEnds", fn := fun _ => fun
  | [d] => { results := [.lit (.bool true)], args := [d] }
  | _ => none }
def fnHostAndPathEndsWhereSplitQueryHeadEndsRow : OpenClaim := { program := "qxb6605388adoor", sum := "615d59cbcfeb07be5df31832dfdf67950a22da32f99094493040fd7cd8c3bf43", func := "example.com/unanimity/unanimity/zzlaws_internal_resource_b1.FnHostAndPathEndsWhereSplitQueryHeadEnds", spec := "fnHostAndPathEndsWhereSplitQueryHeadEnds", inPlace := ["internal/bytealg.IndexByteString", "internal/bytealg.IndexString", "internal/bytealg.CountString"], named := ["internal/bytealg.MaxLen", "unicode/utf8.first", "unicode/utf8.acceptRanges"], apart := false, laid := [("unicode/utf8.acceptRanges", laid_unicode_utf8_acceptRanges), ("unicode/utf8.first", laid_unicode_utf8_first)] }
def FnHostAndPathEndsWhereSplitQueryHeadEndsSaid : Prop := fnHostAndPathEndsWhereSplitQueryHeadEndsRow.holds Tryd.pinned (OpenSpec.ofChange fnHostAndPathEndsWhereSplitQueryHeadEndsSpec)

/-- ITS FALSE NEIGHBOUR: 'it returns false'. Refute it at one input. -/
def fnHostAndPathEndsWhereSplitQueryHeadEndsWrong : ChangeSpec := { name := "fnHostAndPathEndsWhereSplitQueryHeadEnds", fn := fun _ => fun
  | [d] => { results := [.lit (.bool false)], args := [d] }
  | _ => none }
def FnHostAndPathEndsWhereSplitQueryHeadEndsWrongFalsely : Prop := fnHostAndPathEndsWhereSplitQueryHeadEndsRow.holds Tryd.pinned (OpenSpec.ofChange fnHostAndPathEndsWhereSplitQueryHeadEndsWrong)

end Rows
end Go.Proofs.Qxb6605388aDoor
