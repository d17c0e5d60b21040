/-
  The start that is shown to be there: the listed tables laid into their variables. What both rows' proofs share.
-/
import Derived.Test.Qxb6614847aFmtRows
import Derived.ProofKit
import Derived.OpenShut
import Derived.ChangeOld
import Derived.PinnedBridge
import Derived.Lay
import Derived.Stop.JoinedTold
import Derived.MakeChecks
namespace Go.Proofs.Qxb6614847aFmt
open Go.ChangeShapes Go.WideShapes Go.ChangeAt Go.RowKit Go.Extern.Stop Go.Stop Go.Extern

theorem own : ownKnob Tryf.prog.godebug = none := by kernel_rfl
theorem laidOut : laidOutB Tryf.pinned.checked.prog = true := by kernel_rfl
theorem stops : Tryf.pinned.checked.prog.stops = Rows.fnIsTokenByteInsideAnIDRow.stops := by kernel_rfl
theorem stopKnobs : Tryf.pinned.checked.prog.stopKnobs = [] := by kernel_rfl
theorem quiet (os : Os) : Stop.quiet Tryf.pinned.checked.prog os := by
  intro k hk
  rw [stopKnobs] at hk
  cases hk

def tables : List (String × DataW Unit) := Rows.fnIsTokenByteInsideAnIDRow.laid

theorem tables_met (os : Os) (args : Array Value) : laidMetH Tryf.prog tables ((World.laidAll Tryf.prog os tables).forCall (fun _ _ => 0) ⟨#[], args, []⟩).memory := by
  rw [MakeChecks.laidMetH_plain _ _ _ (by kernel_rfl)]
  exact laidMet_laidAll _ (by kernel_rfl) (by kernel_rfl)
set_option maxRecDepth 100000 in
/-- Some start fits. -/
theorem witness_at {os : Os} {f : FuncId} {fn : Func} {H : Type} {enc : TypeId × Value → H} {s : OpenSpec} {T : List (String × DataW Unit)} (w0 : World) (args : Array Value) (hos : w0.os = os)
    (hsh : (w0.forCall (fun _ _ => 0) ⟨#[], args, []⟩).Shaped Tryf.checked.prog)
    (hok : Input.okWideB Tryf.checked.prog (w0.forCall (fun _ _ => 0) ⟨#[], args, []⟩) f ⟨#[], args, []⟩ = true)
    (hrow : s.preRow enc Tryf.checked.prog fn [] false T (w0.forCall (fun _ _ => 0) ⟨#[], args, []⟩).memory args) (F : Interp) :
    ∃ (w : World) (tape : Tape) (i : Input), w.os = os ∧ (w.forCall tape i).Shaped Tryf.checked.prog ∧ i.vars = [] ∧ Input.okWide Tryf.checked.prog (w.forCall tape i) .any w.heap.size f i ∧
      s.preRow enc Tryf.checked.prog fn [] false T (w.forCall tape i).memory i.args ∧ ({} : Assume).holds Tryf.checked.prog (lone (Frame.enter Tryf.checked.prog f i.args .normal) [] (w.forCall tape i)) ∧ F.answers tape :=
  ⟨w0, F.over fun _ _ => 0, ⟨#[], args, []⟩, hos, hsh, (Input.okWide_of_okWideB (base := 0) hok).1, (Input.okWide_of_okWideB hok).2, hrow, by
    simp only [Assume.holds]
    exact ⟨by simp, by simp, by simp, by simp, by simp⟩, F.over_answers _⟩
end Go.Proofs.Qxb6614847aFmt
