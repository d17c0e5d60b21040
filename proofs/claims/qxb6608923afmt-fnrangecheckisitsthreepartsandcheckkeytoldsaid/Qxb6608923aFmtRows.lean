/-
  NARROWER THAN 'FOR EVERY INPUT', by the rows' own cells (each row's printed sentence says how): FnRangeCheckIsItsThreePartsAndCheckKey: laid · FnRangeCheckAcceptsALimitOrItsComplementNeverBoth: laid.
  DERIVED. THE GIVEN ROWS OF THIS SEAT. 2 by the template 'for every input the law returns true; each argument reads behind the call as it read before'; 0 by the template 'total and deterministic' (their statements: Qxb6608923aFmtTotals.lean).
  GIVEN WITH THE SEED: the statements are not yours to turn. If you find one false, say at which input.
  Laid BY PROGRAM, IN A SANDBOX (cutbox-rows.mjs): the forced cells as the released guide's own fill.sh prints them over the translation d63ec99b848ecbd7… (all of the seat's roots in one cut). By AI agents, Wed Nov 11 2026. No macro, syntax, notation, axiom, sorry.
-/
import Derived.Test.Qxb6608923aFmtChecked
import GoSem.PinnedTables
import GoSem.Claim
import GoSem.ClaimJoined
import GoSem.ClaimMapViews
import Derived.JoinedTies
import Derived.KernelRfl
namespace Go.Proofs.Qxb6608923aFmt
/- THE CELL 'sum', in the pinned program and in every row, IS THE sha256 OF THE DUMP (.gsa) THAT Qxb6608923aFmtProg.lean LOADS. Nothing in Lean hashes anything: it is a label: what it is worth is what the hold of that sum in a sandbox is worth. -/
noncomputable def Tryf.pinned : Pinned := { name := "qxb6608923afmt", sum := "d63ec99b848ecbd7184d3a7f5675d0fd18eb93beceb1d5726cb274fa03fcfea0", checked := Tryf.checked }
namespace Rows
def none {H : Type} : Left H := { results := [], args := [] }

/- WHAT THE LISTED PACKAGE-LEVEL VARIABLES READ AS WHEN THE CALL BEGINS. Each datum BY PROGRAM (the guide's laid-datum.mjs) off the statement by which the dump's own 'gosem.cut.vars' lays the variable. In a bare row this is a premise. The card (Qxb6608923aFmtCards.lean) ties it to the program's text. -/
def laid_unicode_utf8_acceptRanges {H : Type} : DataW H := .agg [.agg [.lit (.int .u8 128), .lit (.int .u8 191)], .agg [.lit (.int .u8 160), .lit (.int .u8 191)], .agg [.lit (.int .u8 128), .lit (.int .u8 159)], .agg [.lit (.int .u8 144), .lit (.int .u8 191)], .agg [.lit (.int .u8 128), .lit (.int .u8 143)], .agg [.lit (.int .u8 0), .lit (.int .u8 0)], .agg [.lit (.int .u8 0), .lit (.int .u8 0)], .agg [.lit (.int .u8 0), .lit (.int .u8 0)], .agg [.lit (.int .u8 0), .lit (.int .u8 0)], .agg [.lit (.int .u8 0), .lit (.int .u8 0)], .agg [.lit (.int .u8 0), .lit (.int .u8 0)], .agg [.lit (.int .u8 0), .lit (.int .u8 0)], .agg [.lit (.int .u8 0), .lit (.int .u8 0)], .agg [.lit (.int .u8 0), .lit (.int .u8 0)], .agg [.lit (.int .u8 0), .lit (.int .u8 0)], .agg [.lit (.int .u8 0), .lit (.int .u8 0)]]
/-- One of Go's own tables, pinned by name: the form's constant. -/
def laid_unicode_utf8_first : DataW Unit := Go.Pinned.utf8First

/-- 'zzlaws_client_b1.FnRangeCheckIsItsThreePartsAndCheckKey': WHATEVER THE INPUT: true; the input reads as it did. -/
def fnRangeCheckIsItsThreePartsAndCheckKeySpec : ChangeSpec := { name := "fnRangeCheckIsItsThreePartsAndCheckKey", fn := fun _ => fun
  | [d1, d2, d3] => { results := [.lit (.bool true)], args := [d1, d2, d3] }
  | _ => none }
def fnRangeCheckIsItsThreePartsAndCheckKeyRow : OpenClaim := { program := "qxb6608923afmt", sum := "d63ec99b848ecbd7184d3a7f5675d0fd18eb93beceb1d5726cb274fa03fcfea0", func := "example.com/redoubt/redoubt/zzlaws_client_b1.FnRangeCheckIsItsThreePartsAndCheckKey", spec := "fnRangeCheckIsItsThreePartsAndCheckKey", stops := ["fmt.errorf"], inPlace := ["fmt.errorf", "internal/bytealg.IndexByteString"], named := ["unicode/utf8.first", "unicode/utf8.acceptRanges"], apart := false, laid := [("unicode/utf8.acceptRanges", laid_unicode_utf8_acceptRanges), ("unicode/utf8.first", laid_unicode_utf8_first)] }
/-- NO THEOREM (fmt's text is open here; it may be false): for the released tool's asking of the row's closed facts alone. THE STATEMENT IS 'FnRangeCheckIsItsThreePartsAndCheckKeyToldSaid' (Qxb6608923aFmtCards.lean). -/
def FnRangeCheckIsItsThreePartsAndCheckKeyFormAsk : Prop := fnRangeCheckIsItsThreePartsAndCheckKeyRow.holds Tryf.pinned (OpenSpec.ofChange fnRangeCheckIsItsThreePartsAndCheckKeySpec)

/-- ITS FALSE NEIGHBOUR: 'it returns false'. Refute it at one input. -/
def fnRangeCheckIsItsThreePartsAndCheckKeyWrong : ChangeSpec := { name := "fnRangeCheckIsItsThreePartsAndCheckKey", fn := fun _ => fun
  | [d1, d2, d3] => { results := [.lit (.bool false)], args := [d1, d2, d3] }
  | _ => none }
def FnRangeCheckIsItsThreePartsAndCheckKeyWrongFormAsk : Prop := fnRangeCheckIsItsThreePartsAndCheckKeyRow.holds Tryf.pinned (OpenSpec.ofChange fnRangeCheckIsItsThreePartsAndCheckKeyWrong)

/-- 'zzlaws_client_b1.FnRangeCheckAcceptsALimitOrItsComplementNeverBoth': WHATEVER THE INPUT: true; the input reads as it did. -/
def fnRangeCheckAcceptsALimitOrItsComplementNeverBothSpec : ChangeSpec := { name := "fnRangeCheckAcceptsALimitOrItsComplementNeverBoth", fn := fun _ => fun
  | [d1, d2, d3] => { results := [.lit (.bool true)], args := [d1, d2, d3] }
  | _ => none }
def fnRangeCheckAcceptsALimitOrItsComplementNeverBothRow : OpenClaim := { program := "qxb6608923afmt", sum := "d63ec99b848ecbd7184d3a7f5675d0fd18eb93beceb1d5726cb274fa03fcfea0", func := "example.com/redoubt/redoubt/zzlaws_client_b1.FnRangeCheckAcceptsALimitOrItsComplementNeverBoth", spec := "fnRangeCheckAcceptsALimitOrItsComplementNeverBoth", stops := ["fmt.errorf"], inPlace := ["fmt.errorf", "internal/bytealg.IndexByteString"], named := ["unicode/utf8.first", "unicode/utf8.acceptRanges"], apart := false, laid := [("unicode/utf8.acceptRanges", laid_unicode_utf8_acceptRanges), ("unicode/utf8.first", laid_unicode_utf8_first)] }
/-- NO THEOREM (fmt's text is open here; it may be false): for the released tool's asking of the row's closed facts alone. THE STATEMENT IS 'FnRangeCheckAcceptsALimitOrItsComplementNeverBothToldSaid' (Qxb6608923aFmtCards.lean). -/
def FnRangeCheckAcceptsALimitOrItsComplementNeverBothFormAsk : Prop := fnRangeCheckAcceptsALimitOrItsComplementNeverBothRow.holds Tryf.pinned (OpenSpec.ofChange fnRangeCheckAcceptsALimitOrItsComplementNeverBothSpec)

/-- ITS FALSE NEIGHBOUR: 'it returns false'. Refute it at one input. -/
def fnRangeCheckAcceptsALimitOrItsComplementNeverBothWrong : ChangeSpec := { name := "fnRangeCheckAcceptsALimitOrItsComplementNeverBoth", fn := fun _ => fun
  | [d1, d2, d3] => { results := [.lit (.bool false)], args := [d1, d2, d3] }
  | _ => none }
def FnRangeCheckAcceptsALimitOrItsComplementNeverBothWrongFormAsk : Prop := fnRangeCheckAcceptsALimitOrItsComplementNeverBothRow.holds Tryf.pinned (OpenSpec.ofChange fnRangeCheckAcceptsALimitOrItsComplementNeverBothWrong)

end Rows
end Go.Proofs.Qxb6608923aFmt
