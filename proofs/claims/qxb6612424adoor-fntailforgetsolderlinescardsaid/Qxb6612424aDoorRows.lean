/-
  NARROWER THAN 'FOR EVERY INPUT', by the rows' own cells (each row's printed sentence says how): FnTailIsSuffixAfterFifthLastNewline: laid · FnTailForgetsOlderLines: laid.
  DERIVED. THE GIVEN ROWS OF THIS SEAT. 2 by the template 'for every input the law returns true; each argument reads behind the call as it read before'; 0 by the template 'total and deterministic' (their statements: Qxb6612424aDoorTotals.lean).
  GIVEN WITH THE SEED: the statements are not yours to turn. If you find one false, say at which input.
  Laid BY PROGRAM, IN A SANDBOX (cutbox-rows.mjs): the forced cells as the released guide's own fill.sh prints them over the translation 67d565bf56b6a43c… (all of the seat's roots in one cut). By AI agents, Wed Nov 11 2026. No macro, syntax, notation, axiom, sorry.
-/
import Derived.Test.Qxb6612424aDoorChecked
import GoSem.PinnedTables
import GoSem.Claim
import GoSem.ClaimJoined
import GoSem.ClaimMapViews
import Derived.JoinedTies
import Derived.KernelRfl
namespace Go.Proofs.Qxb6612424aDoor
/- THE CELL 'sum', in the pinned program and in every row, IS THE sha256 OF THE DUMP (.gsa) THAT Qxb6612424aDoorProg.lean LOADS. Nothing in Lean hashes anything: it is a label: what it is worth is what the hold of that sum in a sandbox is worth. -/
noncomputable def Tryd.pinned : Pinned := { name := "qxb6612424adoor", sum := "67d565bf56b6a43c5f6e68c636d3477306112b872f8bb5bf534c98b28ee612e2", checked := Tryd.checked }
namespace Rows
def none {H : Type} : Left H := { results := [], args := [] }

/- WHAT THE LISTED PACKAGE-LEVEL VARIABLES READ AS WHEN THE CALL BEGINS. Each datum BY PROGRAM (the guide's laid-datum.mjs) off the statement by which the dump's own 'gosem.cut.vars' lays the variable. In a bare row this is a premise. The card (Qxb6612424aDoorCards.lean) ties it to the program's text. -/
def laid_unicode_utf8_acceptRanges {H : Type} : DataW H := .agg [.agg [.lit (.int .u8 128), .lit (.int .u8 191)], .agg [.lit (.int .u8 160), .lit (.int .u8 191)], .agg [.lit (.int .u8 128), .lit (.int .u8 159)], .agg [.lit (.int .u8 144), .lit (.int .u8 191)], .agg [.lit (.int .u8 128), .lit (.int .u8 143)], .agg [.lit (.int .u8 0), .lit (.int .u8 0)], .agg [.lit (.int .u8 0), .lit (.int .u8 0)], .agg [.lit (.int .u8 0), .lit (.int .u8 0)], .agg [.lit (.int .u8 0), .lit (.int .u8 0)], .agg [.lit (.int .u8 0), .lit (.int .u8 0)], .agg [.lit (.int .u8 0), .lit (.int .u8 0)], .agg [.lit (.int .u8 0), .lit (.int .u8 0)], .agg [.lit (.int .u8 0), .lit (.int .u8 0)], .agg [.lit (.int .u8 0), .lit (.int .u8 0)], .agg [.lit (.int .u8 0), .lit (.int .u8 0)], .agg [.lit (.int .u8 0), .lit (.int .u8 0)]]
/-- One of Go's own tables, pinned by name: the form's constant. -/
def laid_unicode_utf8_first : DataW Unit := Go.Pinned.utf8First

/-- 'zzlaws_internal_benchserve_b1.FnTailIsSuffixAfterFifthLastNewline': WHATEVER THE INPUT: true; the input reads as it did. -/
def fnTailIsSuffixAfterFifthLastNewlineSpec : ChangeSpec := { name := "fnTailIsSuffixAfterFifthLastNewline", fn := fun _ => fun
  | [d] => { results := [.lit (.bool true)], args := [d] }
  | _ => none }
def fnTailIsSuffixAfterFifthLastNewlineRow : OpenClaim := { program := "qxb6612424adoor", sum := "67d565bf56b6a43c5f6e68c636d3477306112b872f8bb5bf534c98b28ee612e2", func := "example.com/tysons/tysons/zzlaws_internal_benchserve_b1.FnTailIsSuffixAfterFifthLastNewline", spec := "fnTailIsSuffixAfterFifthLastNewline", inPlace := ["internal/bytealg.CountString", "internal/bytealg.IndexByteString", "internal/bytealg.IndexString", "internal/abi.NoEscape", "internal/bytealg.MakeNoZero"], named := ["unicode/utf8.first", "unicode/utf8.acceptRanges", "internal/bytealg.MaxLen"], apart := false, laid := [("unicode/utf8.acceptRanges", laid_unicode_utf8_acceptRanges), ("unicode/utf8.first", laid_unicode_utf8_first)] }
def FnTailIsSuffixAfterFifthLastNewlineSaid : Prop := fnTailIsSuffixAfterFifthLastNewlineRow.holds Tryd.pinned (OpenSpec.ofChange fnTailIsSuffixAfterFifthLastNewlineSpec)

/-- ITS FALSE NEIGHBOUR: 'it returns false'. Refute it at one input. -/
def fnTailIsSuffixAfterFifthLastNewlineWrong : ChangeSpec := { name := "fnTailIsSuffixAfterFifthLastNewline", fn := fun _ => fun
  | [d] => { results := [.lit (.bool false)], args := [d] }
  | _ => none }
def FnTailIsSuffixAfterFifthLastNewlineWrongFalsely : Prop := fnTailIsSuffixAfterFifthLastNewlineRow.holds Tryd.pinned (OpenSpec.ofChange fnTailIsSuffixAfterFifthLastNewlineWrong)

/-- 'zzlaws_internal_benchserve_b1.FnTailForgetsOlderLines': WHATEVER THE INPUT: true; the input reads as it did. -/
def fnTailForgetsOlderLinesSpec : ChangeSpec := { name := "fnTailForgetsOlderLines", fn := fun _ => fun
  | [d1, d2] => { results := [.lit (.bool true)], args := [d1, d2] }
  | _ => none }
def fnTailForgetsOlderLinesRow : OpenClaim := { program := "qxb6612424adoor", sum := "67d565bf56b6a43c5f6e68c636d3477306112b872f8bb5bf534c98b28ee612e2", func := "example.com/tysons/tysons/zzlaws_internal_benchserve_b1.FnTailForgetsOlderLines", spec := "fnTailForgetsOlderLines", inPlace := ["internal/bytealg.CountString", "internal/bytealg.IndexByteString", "internal/bytealg.IndexString", "internal/abi.NoEscape", "internal/bytealg.MakeNoZero"], named := ["unicode/utf8.first", "unicode/utf8.acceptRanges", "internal/bytealg.MaxLen"], apart := false, laid := [("unicode/utf8.acceptRanges", laid_unicode_utf8_acceptRanges), ("unicode/utf8.first", laid_unicode_utf8_first)] }
def FnTailForgetsOlderLinesSaid : Prop := fnTailForgetsOlderLinesRow.holds Tryd.pinned (OpenSpec.ofChange fnTailForgetsOlderLinesSpec)

/-- ITS FALSE NEIGHBOUR: 'it returns false'. Refute it at one input. -/
def fnTailForgetsOlderLinesWrong : ChangeSpec := { name := "fnTailForgetsOlderLines", fn := fun _ => fun
  | [d1, d2] => { results := [.lit (.bool false)], args := [d1, d2] }
  | _ => none }
def FnTailForgetsOlderLinesWrongFalsely : Prop := fnTailForgetsOlderLinesRow.holds Tryd.pinned (OpenSpec.ofChange fnTailForgetsOlderLinesWrong)

end Rows
end Go.Proofs.Qxb6612424aDoor
