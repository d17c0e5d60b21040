/-
  FnParseAppendedResultAddsOne: the told and tied card.
-/
import Derived.Test.Qxb6614847aFmtLawM
import Derived.Test.Qxb6614847aFmtWit
import Derived.Test.Qxb6614847aFmtTie
import Derived.Test.Qxb6614847aFmtCards
import Derived.SevenTiedAt
namespace Go.Proofs.Qxb6614847aFmt
open Go.ChangeShapes Go.WideShapes Go.ChangeAt Go.RowKit Go.Extern.Stop Go.Stop Go.Extern
open Go.ChangeMaps (open_string shut_string)

theorem more_all (F : Interp) (s : ByteArray) (w : World) (hF : F.answers w.tape) : Calls Tryf.prog 4 #[.string s] w fun e w' => e = .returned (.bool true) ∧ Below w.heap.size w w' := by
  by_cases h : s.size ≤ 1048576
  · exact more_yes F 2097152 2097152 (Nat.le_refl _) (Nat.le_refl _) s w hF h
  · exact more_no s w (by omega)

set_option maxRecDepth 100000 in
theorem lawM_lifted (os : Os) (started : os.Started) (H : Type) (enc : TypeId × Value → H) :
    ReturnsInTold none {} Tryf.checked os 4 .any Input.okWide ((OpenSpec.ofChange Rows.fnParseAppendedResultAddsOneSpec).preRow enc Tryf.prog Tryf.f4 [] false tables)
      (fun F => ((OpenSpec.ofChange Rows.fnParseAppendedResultAddsOneSpec).at F).post enc Tryf.prog Tryf.f4 false true false false) (aloneAtReturn Tryf.prog) nothingAlways := by
  refine returnsInTold_of_row (C := Tryf.checked) (s := OpenSpec.ofChange Rows.fnParseAppendedResultAddsOneSpec) (by kernel_rfl) own started (by kernel_rfl) Tryf.func4
    (witness_at (enc := enc) (World.laidAll Tryf.prog os tables) #[.string ⟨#[]⟩] (World.laidAll_os _ _ _)
      (World.shaped_of_ZipB (by kernel_rfl) (by kernel_rfl)) (by kernel_rfl) (OpenSpec.preRow_of_B rfl 8 (by kernel_rfl) (by kernel_rfl) (tables_met os _))) ?_
  intro F W base args ds gs before _ hF hval0 hW _ _ _ hL _
  have hval : ∀ (j : Nat) t v, Tryf.f4.params[j]? = some t → args[j]? = some v → Value.okWide Tryf.prog W .any base t v := hval0
  have hW' := hW
  obtain ⟨p, q, hA0, hV, rfl, _, _⟩ := hW
  have hA : DataW.TrodAll enc Tryf.prog W 0 (fun _ => true) true Tryf.f4.params.toList args.toList ds p := hA0
  rw [Tryf.params4] at hA hval
  obtain ⟨v0, d0, rfl, rfl, h0⟩ := trodAll_one hA
  obtain ⟨rfl, rfl⟩ := trodVars_none hV
  obtain ⟨a, rfl, rfl, rfl, wa⟩ := open_string Tryf.underlying9 (hval 0 9 v0 rfl rfl) h0
  clear hA0 hval0
  simp only [List.append_nil] at hW'
  refine (more_all F.told a W hF).mono fun e W' ⟨he, hb⟩ => ?_
  subst he
  exact ⟨_, rfl, _, _, _, [], [], [], hW', trodAll_mk1 (shut_bool Tryf.underlying4 _), trodAll_mk1 (shut_string Tryf.underlying9 wa), rfl, hb.frame _, fun h => by cases h⟩

theorem lawM_holds : Rows.FnParseAppendedResultAddsOneToldSaid :=
  Claim7.holds_of_told_tied_any_at .later 4 Tryf.f4 _ _ [] _ _ _ _ _ (by kernel_rfl) rfl rfl rfl laidOut (by kernel_rfl) rfl ⟨rfl, rfl, rfl, rfl, rfl, rfl, rfl⟩ rfl rfl (by kernel_rfl) (by kernel_rfl) Tryf.func4 (by kernel_rfl)
    (of_decide_eq_true (by kernel_rfl)) (of_decide_eq_true (by kernel_rfl)) stops.symm rfl stopKnobs.symm (by kernel_rfl)
    (by kernel_rfl) (by kernel_rfl) (by kernel_rfl) (by kernel_rfl) (by kernel_rfl) (by kernel_rfl) (by kernel_rfl) (by kernel_rfl) (by kernel_rfl) rfl (by kernel_rfl) rfl rfl
    rfl rfl
    rfl (by kernel_rfl) (by kernel_rfl) (by kernel_rfl) (by decide) (by kernel_rfl) fnParseAppendedResultAddsOne_row_tie
    (OpenClaim.moreEntering_of (by kernel_rfl) (by kernel_rfl) (by kernel_rfl) (by kernel_rfl) (by kernel_rfl) (by kernel_rfl) (by kernel_rfl) (by kernel_rfl) (by kernel_rfl) (by kernel_rfl))
    ⟨_, WideRow.started_initial, quiet _⟩
    (fun os started _ H enc _ => lawM_lifted os started H enc)
end Go.Proofs.Qxb6614847aFmt
