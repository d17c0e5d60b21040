/-
  DERIVED. GIVEN WITH THE SEED: THE CARDS: each row of Qxb6608923aFmtRows.lean that lists a variable, with what it lists TIED to the program's text (the seventh form; the later family's looks); each row that meets fmt, with fmt's text TOLD by the authors' own Lean function (tested against real Go, not proved from fmt's source: count such statements apart). THE CARD IS WHAT COUNTS. Prove the row's statement (the work); the ties are given (Qxb6608923aFmtTie.lean); close each card by the builder's one call (the guide's Derived/Test/ToyasCard.lean, 'card_holds'). Laid BY PROGRAM, IN A SANDBOX (cutbox-door.mjs). By AI agents, Wed Nov 11 2026. No macro, syntax, notation, axiom, sorry.
-/
import Derived.Test.Qxb6608923aFmtRows
import GoSem.ClaimSeven
namespace Go.Proofs.Qxb6608923aFmt
namespace Rows

/-- THE TOLD AND TIED CARD OF 'zzlaws_client_b1.FnRangeCheckIsItsThreePartsAndCheckKey'. -/
def fnRangeCheckIsItsThreePartsAndCheckKeyCard : Claim7 := { stood := { row := fnRangeCheckIsItsThreePartsAndCheckKeyRow, standIns := [], harness := (true, "aa67e3941984159f836b4659e45451e7e5300bc867ffed7aded6ea61a797820a"), looks := false }, told := true, laidByText := true, laidKinds := [.data, .pinned], laidTests := true, laidLooks := .later, goes := false }
def FnRangeCheckIsItsThreePartsAndCheckKeyToldSaid : Prop := Claim7.holds Tryf.pinned (.plain (OpenSpec.ofChange fnRangeCheckIsItsThreePartsAndCheckKeySpec)) fnRangeCheckIsItsThreePartsAndCheckKeyCard
/-- ITS FALSE NEIGHBOUR. Refute it at one input. -/
def FnRangeCheckIsItsThreePartsAndCheckKeyToldWrongFalsely : Prop := Claim7.holds Tryf.pinned (.plain (OpenSpec.ofChange fnRangeCheckIsItsThreePartsAndCheckKeyWrong)) fnRangeCheckIsItsThreePartsAndCheckKeyCard

/-- THE TOLD AND TIED CARD OF 'zzlaws_client_b1.FnRangeCheckAcceptsALimitOrItsComplementNeverBoth'. -/
def fnRangeCheckAcceptsALimitOrItsComplementNeverBothCard : Claim7 := { stood := { row := fnRangeCheckAcceptsALimitOrItsComplementNeverBothRow, standIns := [], harness := (true, "aa67e3941984159f836b4659e45451e7e5300bc867ffed7aded6ea61a797820a"), looks := false }, told := true, laidByText := true, laidKinds := [.data, .pinned], laidTests := true, laidLooks := .later, goes := false }
def FnRangeCheckAcceptsALimitOrItsComplementNeverBothToldSaid : Prop := Claim7.holds Tryf.pinned (.plain (OpenSpec.ofChange fnRangeCheckAcceptsALimitOrItsComplementNeverBothSpec)) fnRangeCheckAcceptsALimitOrItsComplementNeverBothCard
/-- ITS FALSE NEIGHBOUR. Refute it at one input. -/
def FnRangeCheckAcceptsALimitOrItsComplementNeverBothToldWrongFalsely : Prop := Claim7.holds Tryf.pinned (.plain (OpenSpec.ofChange fnRangeCheckAcceptsALimitOrItsComplementNeverBothWrong)) fnRangeCheckAcceptsALimitOrItsComplementNeverBothCard
end Rows
end Go.Proofs.Qxb6608923aFmt
