/-
  DERIVED. GIVEN WITH THE SEED: THE CARDS: each row of Qxb6612424aDoorRows.lean that lists a variable, with what it lists TIED to the program's text (the seventh form; the later family's looks); each row that meets fmt, with fmt's text TOLD by the authors' own Lean function (tested against real Go, not proved from fmt's source: count such statements apart). THE CARD IS WHAT COUNTS. Prove the row's statement (the work); the ties are given (Qxb6612424aDoorTie.lean); close each card by the builder's one call (the guide's Derived/Test/ToyasCard.lean, 'card_holds'). Laid BY PROGRAM, IN A SANDBOX (cutbox-door.mjs). By AI agents, Wed Nov 11 2026. No macro, syntax, notation, axiom, sorry.
-/
import Derived.Test.Qxb6612424aDoorRows
import GoSem.ClaimSeven
namespace Go.Proofs.Qxb6612424aDoor
namespace Rows

/-- THE TIED CARD OF 'zzlaws_internal_benchserve_b1.FnTailIsSuffixAfterFifthLastNewline'. -/
def fnTailIsSuffixAfterFifthLastNewlineCard : Claim7 := { stood := { row := fnTailIsSuffixAfterFifthLastNewlineRow, standIns := [], harness := (true, "4b3d2e4929b7784c0e4ecc3d55170c3ee0fb4b13e82b854126c274b3110c4729"), looks := false }, kinds := [], alts := [], laidByText := true, laidKinds := [.data, .pinned], laidTests := true, laidLooks := .later }
def FnTailIsSuffixAfterFifthLastNewlineCardSaid : Prop := Claim7.holds Tryd.pinned (.plain (OpenSpec.ofChange fnTailIsSuffixAfterFifthLastNewlineSpec)) fnTailIsSuffixAfterFifthLastNewlineCard

/-- THE TIED CARD OF 'zzlaws_internal_benchserve_b1.FnTailForgetsOlderLines'. -/
def fnTailForgetsOlderLinesCard : Claim7 := { stood := { row := fnTailForgetsOlderLinesRow, standIns := [], harness := (true, "4b3d2e4929b7784c0e4ecc3d55170c3ee0fb4b13e82b854126c274b3110c4729"), looks := false }, kinds := [], alts := [], laidByText := true, laidKinds := [.data, .pinned], laidTests := true, laidLooks := .later }
def FnTailForgetsOlderLinesCardSaid : Prop := Claim7.holds Tryd.pinned (.plain (OpenSpec.ofChange fnTailForgetsOlderLinesSpec)) fnTailForgetsOlderLinesCard
end Rows
end Go.Proofs.Qxb6612424aDoor
