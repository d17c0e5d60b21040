/-
  NARROWER THAN 'FOR EVERY INPUT', by the rows' own cells (each row's printed sentence says how): FnIsTokenByteInsideAnID: laid · FnParseAppendedResultAddsOne: laid.
  DERIVED. THE GIVEN ROWS OF THIS SEAT. 2 by the template 'for every input the law returns true; each argument reads behind the call as it read before'; 0 by the template 'total and deterministic' (their statements: Qxb6614847aFmtTotals.lean).
  GIVEN WITH THE SEED: the statements are not yours to turn. If you find one false, say at which input.
  Laid BY PROGRAM, IN A SANDBOX (cutbox-rows.mjs): the forced cells as the released guide's own fill.sh prints them over the translation df0a6e2c7f725432… (all of the seat's roots in one cut). By AI agents, Wed Nov 11 2026. No macro, syntax, notation, axiom, sorry.
-/
import Derived.Test.Qxb6614847aFmtChecked
import GoSem.PinnedTables
import GoSem.Claim
import GoSem.ClaimJoined
import GoSem.ClaimMapViews
import Derived.JoinedTies
import Derived.KernelRfl
namespace Go.Proofs.Qxb6614847aFmt
/- THE CELL 'sum', in the pinned program and in every row, IS THE sha256 OF THE DUMP (.gsa) THAT Qxb6614847aFmtProg.lean LOADS. Nothing in Lean hashes anything: it is a label: what it is worth is what the hold of that sum in a sandbox is worth. -/
noncomputable def Tryf.pinned : Pinned := { name := "qxb6614847afmt", sum := "df0a6e2c7f72543298f5d8aaeb78cf182bcdd44ee221d776b339ab1ccc1091f0", checked := Tryf.checked }
namespace Rows
def none {H : Type} : Left H := { results := [], args := [] }

/- WHAT THE LISTED PACKAGE-LEVEL VARIABLES READ AS WHEN THE CALL BEGINS. Each datum BY PROGRAM (the guide's laid-datum.mjs) off the statement by which the dump's own 'gosem.cut.vars' lays the variable. In a bare row this is a premise. The card (Qxb6614847aFmtCards.lean) ties it to the program's text. -/
def laid_unicode_utf8_acceptRanges {H : Type} : DataW H := .agg [.agg [.lit (.int .u8 128), .lit (.int .u8 191)], .agg [.lit (.int .u8 160), .lit (.int .u8 191)], .agg [.lit (.int .u8 128), .lit (.int .u8 159)], .agg [.lit (.int .u8 144), .lit (.int .u8 191)], .agg [.lit (.int .u8 128), .lit (.int .u8 143)], .agg [.lit (.int .u8 0), .lit (.int .u8 0)], .agg [.lit (.int .u8 0), .lit (.int .u8 0)], .agg [.lit (.int .u8 0), .lit (.int .u8 0)], .agg [.lit (.int .u8 0), .lit (.int .u8 0)], .agg [.lit (.int .u8 0), .lit (.int .u8 0)], .agg [.lit (.int .u8 0), .lit (.int .u8 0)], .agg [.lit (.int .u8 0), .lit (.int .u8 0)], .agg [.lit (.int .u8 0), .lit (.int .u8 0)], .agg [.lit (.int .u8 0), .lit (.int .u8 0)], .agg [.lit (.int .u8 0), .lit (.int .u8 0)], .agg [.lit (.int .u8 0), .lit (.int .u8 0)]]
/-- One of Go's own tables, pinned by name: the form's constant. -/
def laid_unicode_CaseRanges : DataW Unit := Go.Pinned.caseRanges
/-- One of Go's own tables, pinned by name: the form's constant. -/
def laid_unicode_utf8_first : DataW Unit := Go.Pinned.utf8First

/-- 'zzlaws_rfc8601_b1.FnIsTokenByteInsideAnID': WHATEVER THE INPUT: true; the input reads as it did. -/
def fnIsTokenByteInsideAnIDSpec : ChangeSpec := { name := "fnIsTokenByteInsideAnID", fn := fun _ => fun
  | [d] => { results := [.lit (.bool true)], args := [d] }
  | _ => none }
def fnIsTokenByteInsideAnIDRow : OpenClaim := { program := "qxb6614847afmt", sum := "df0a6e2c7f72543298f5d8aaeb78cf182bcdd44ee221d776b339ab1ccc1091f0", func := "example.com/cubby/cubby/zzlaws_rfc8601_b1.FnIsTokenByteInsideAnID", spec := "fnIsTokenByteInsideAnID", stops := ["fmt.errorf"], inPlace := ["internal/abi.NoEscape", "fmt.errorf", "internal/bytealg.IndexByteString", "internal/bytealg.IndexString", "internal/bytealg.MakeNoZero"], unfollowed := true, recurses := true, named := ["unicode/utf8.first", "unicode/utf8.acceptRanges", "unicode.CaseRanges", "internal/bytealg.MaxLen"], apart := false, laid := [("unicode/utf8.acceptRanges", laid_unicode_utf8_acceptRanges), ("unicode.CaseRanges", laid_unicode_CaseRanges), ("unicode/utf8.first", laid_unicode_utf8_first)] }
/-- NO THEOREM (fmt's text is open here; it may be false): for the released tool's asking of the row's closed facts alone. THE STATEMENT IS 'FnIsTokenByteInsideAnIDToldSaid' (Qxb6614847aFmtCards.lean). -/
def FnIsTokenByteInsideAnIDFormAsk : Prop := fnIsTokenByteInsideAnIDRow.holds Tryf.pinned (OpenSpec.ofChange fnIsTokenByteInsideAnIDSpec)

/-- ITS FALSE NEIGHBOUR: 'it returns false'. Refute it at one input. -/
def fnIsTokenByteInsideAnIDWrong : ChangeSpec := { name := "fnIsTokenByteInsideAnID", fn := fun _ => fun
  | [d] => { results := [.lit (.bool false)], args := [d] }
  | _ => none }
def FnIsTokenByteInsideAnIDWrongFormAsk : Prop := fnIsTokenByteInsideAnIDRow.holds Tryf.pinned (OpenSpec.ofChange fnIsTokenByteInsideAnIDWrong)

/-- 'zzlaws_rfc8601_b1.FnParseAppendedResultAddsOne': WHATEVER THE INPUT: true; the input reads as it did. -/
def fnParseAppendedResultAddsOneSpec : ChangeSpec := { name := "fnParseAppendedResultAddsOne", fn := fun _ => fun
  | [d] => { results := [.lit (.bool true)], args := [d] }
  | _ => none }
def fnParseAppendedResultAddsOneRow : OpenClaim := { program := "qxb6614847afmt", sum := "df0a6e2c7f72543298f5d8aaeb78cf182bcdd44ee221d776b339ab1ccc1091f0", func := "example.com/cubby/cubby/zzlaws_rfc8601_b1.FnParseAppendedResultAddsOne", spec := "fnParseAppendedResultAddsOne", stops := ["fmt.errorf"], inPlace := ["internal/abi.NoEscape", "fmt.errorf", "internal/bytealg.IndexByteString", "internal/bytealg.IndexString", "internal/bytealg.MakeNoZero"], unfollowed := true, recurses := true, named := ["unicode/utf8.first", "unicode/utf8.acceptRanges", "unicode.CaseRanges", "internal/bytealg.MaxLen"], apart := false, laid := [("unicode/utf8.acceptRanges", laid_unicode_utf8_acceptRanges), ("unicode.CaseRanges", laid_unicode_CaseRanges), ("unicode/utf8.first", laid_unicode_utf8_first)] }
/-- NO THEOREM (fmt's text is open here; it may be false): for the released tool's asking of the row's closed facts alone. THE STATEMENT IS 'FnParseAppendedResultAddsOneToldSaid' (Qxb6614847aFmtCards.lean). -/
def FnParseAppendedResultAddsOneFormAsk : Prop := fnParseAppendedResultAddsOneRow.holds Tryf.pinned (OpenSpec.ofChange fnParseAppendedResultAddsOneSpec)

/-- ITS FALSE NEIGHBOUR: 'it returns false'. Refute it at one input. -/
def fnParseAppendedResultAddsOneWrong : ChangeSpec := { name := "fnParseAppendedResultAddsOne", fn := fun _ => fun
  | [d] => { results := [.lit (.bool false)], args := [d] }
  | _ => none }
def FnParseAppendedResultAddsOneWrongFormAsk : Prop := fnParseAppendedResultAddsOneRow.holds Tryf.pinned (OpenSpec.ofChange fnParseAppendedResultAddsOneWrong)

end Rows
end Go.Proofs.Qxb6614847aFmt
