/-
  DERIVED. GIVEN WITH THE SEED: THE CARDS: each row of Qxb6613685aGreatFmtRows.lean that lists a variable, with what it lists TIED to the program's text (the seventh form; the later family's looks); each row that meets fmt, with fmt's text TOLD by the authors' own Lean function (tested against real Go, not proved from fmt's source: count such statements apart). THE CARD IS WHAT COUNTS. Prove the row's statement (the work); the ties are given (Qxb6613685aGreatFmtTie.lean); close each card by the builder's one call (the guide's Derived/Test/ToyasCard.lean, 'card_holds'). Laid BY PROGRAM, IN A SANDBOX (cutbox-door.mjs). By AI agents, Wed Nov 11 2026. No macro, syntax, notation, axiom, sorry.
-/
import Derived.Test.Qxb6613685aGreatFmtRows
import GoSem.ClaimSeven
namespace Go.Proofs.Qxb6613685aGreatFmt
namespace Rows

/-- THE TOLD AND TIED CARD OF 'zzlaws_root_b1.FnEdnAtomSign'. -/
def fnEdnAtomSignCard : Claim7 := { stood := { row := fnEdnAtomSignRow, standIns := [], harness := (true, "d671ad11c5622f33b1af9ddb0d7f9088129fc128ffc78f4da08e4700f9a40be8"), looks := true }, told := true, laidByText := true, laidKinds := [.data, .data, .data, .data, .sentinel, .sentinel, .pinned], laidTests := true, laidLooks := .later, goes := false }
def FnEdnAtomSignToldSaid : Prop := Claim7.holds Tryz.pinned (.plain (OpenSpec.ofChange fnEdnAtomSignSpec)) fnEdnAtomSignCard
/-- ITS FALSE NEIGHBOUR. Refute it at one input. -/
def FnEdnAtomSignToldWrongFalsely : Prop := Claim7.holds Tryz.pinned (.plain (OpenSpec.ofChange fnEdnAtomSignWrong)) fnEdnAtomSignCard

/-- THE TOLD AND TIED CARD OF 'zzlaws_root_b1.FnEdnAtomRoundTrip'. -/
def fnEdnAtomRoundTripCard : Claim7 := { stood := { row := fnEdnAtomRoundTripRow, standIns := [], harness := (true, "d671ad11c5622f33b1af9ddb0d7f9088129fc128ffc78f4da08e4700f9a40be8"), looks := true }, told := true, laidByText := true, laidKinds := [.data, .data, .data, .data, .sentinel, .sentinel, .pinned, .pinned, .pinned, .pinned, .pinned, .pinned], laidTests := true, laidLooks := .later, goes := false }
def FnEdnAtomRoundTripToldSaid : Prop := Claim7.holds Tryz.pinned (.plain (OpenSpec.ofChange fnEdnAtomRoundTripSpec)) fnEdnAtomRoundTripCard
/-- ITS FALSE NEIGHBOUR. Refute it at one input. -/
def FnEdnAtomRoundTripToldWrongFalsely : Prop := Claim7.holds Tryz.pinned (.plain (OpenSpec.ofChange fnEdnAtomRoundTripWrong)) fnEdnAtomRoundTripCard
end Rows
end Go.Proofs.Qxb6613685aGreatFmt
