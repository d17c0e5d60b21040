/-
  DERIVED. GIVEN WITH THE SEED: THE CARDS: each row of Qxb6614847aFmtRows.lean that lists a variable, with what it lists TIED to the program's text (the seventh form; the later family's looks); each row that meets fmt, with fmt's text TOLD by the authors' own Lean function (tested against real Go, not proved from fmt's source: count such statements apart). THE CARD IS WHAT COUNTS. Prove the row's statement (the work); the ties are given (Qxb6614847aFmtTie.lean); close each card by the builder's one call (the guide's Derived/Test/ToyasCard.lean, 'card_holds'). Laid BY PROGRAM, IN A SANDBOX (cutbox-door.mjs). By AI agents, Wed Nov 11 2026. No macro, syntax, notation, axiom, sorry.
-/
import Derived.Test.Qxb6614847aFmtRows
import GoSem.ClaimSeven
namespace Go.Proofs.Qxb6614847aFmt
namespace Rows

/-- THE TOLD AND TIED CARD OF 'zzlaws_rfc8601_b1.FnIsTokenByteInsideAnID'. -/
def fnIsTokenByteInsideAnIDCard : Claim7 := { stood := { row := fnIsTokenByteInsideAnIDRow, standIns := [], harness := (true, "faf7bbaac780c4f20474f3e1f442f8e6cddb9365301c9c826d5701e8bf494c1a"), looks := false }, told := true, laidByText := true, laidKinds := [.data, .pinned, .pinned], laidTests := true, laidLooks := .later, goes := false }
def FnIsTokenByteInsideAnIDToldSaid : Prop := Claim7.holds Tryf.pinned (.plain (OpenSpec.ofChange fnIsTokenByteInsideAnIDSpec)) fnIsTokenByteInsideAnIDCard
/-- ITS FALSE NEIGHBOUR. Refute it at one input. -/
def FnIsTokenByteInsideAnIDToldWrongFalsely : Prop := Claim7.holds Tryf.pinned (.plain (OpenSpec.ofChange fnIsTokenByteInsideAnIDWrong)) fnIsTokenByteInsideAnIDCard

/-- THE TOLD AND TIED CARD OF 'zzlaws_rfc8601_b1.FnParseAppendedResultAddsOne'. -/
def fnParseAppendedResultAddsOneCard : Claim7 := { stood := { row := fnParseAppendedResultAddsOneRow, standIns := [], harness := (true, "faf7bbaac780c4f20474f3e1f442f8e6cddb9365301c9c826d5701e8bf494c1a"), looks := false }, told := true, laidByText := true, laidKinds := [.data, .pinned, .pinned], laidTests := true, laidLooks := .later, goes := false }
def FnParseAppendedResultAddsOneToldSaid : Prop := Claim7.holds Tryf.pinned (.plain (OpenSpec.ofChange fnParseAppendedResultAddsOneSpec)) fnParseAppendedResultAddsOneCard
/-- ITS FALSE NEIGHBOUR. Refute it at one input. -/
def FnParseAppendedResultAddsOneToldWrongFalsely : Prop := Claim7.holds Tryf.pinned (.plain (OpenSpec.ofChange fnParseAppendedResultAddsOneWrong)) fnParseAppendedResultAddsOneCard
end Rows
end Go.Proofs.Qxb6614847aFmt
