/-
  FnIsTokenByteInsideAnID: the told and tied card.
-/
import Derived.Test.Qxb6614847aFmtLawT
import Derived.Test.Qxb6614847aFmtWit
import Derived.Test.Qxb6614847aFmtTie
import Derived.Test.Qxb6614847aFmtCards
import Derived.SevenTiedAt
namespace Go.Proofs.Qxb6614847aFmt
open Go.ChangeShapes Go.WideShapes Go.ChangeAt Go.RowKit Go.Extern.Stop Go.Stop Go.Extern

theorem tokenID_at (F : Interp) (l : Int) (w : World) (hF : F.answers w.tape) (h0 : 0 ≤ l) (h1 : l ≤ 255) : Calls Tryf.prog 3 #[.int .u8 l] w fun e w' => e = .returned (.bool true) ∧ Below w.heap.size w w' := by
  have e : l = ((UInt8.ofNat l.toNat).toNat : Int) := by
    rw [UInt8.toNat_ofNat']
    omega
  rw [e]
  exact tokenID F _ w hF

set_option maxRecDepth 100000 in
theorem lawT_lifted (os : Os) (started : os.Started) (H : Type) (enc : TypeId × Value → H) :
    ReturnsInTold none {} Tryf.checked os 3 .any Input.okWide ((OpenSpec.ofChange Rows.fnIsTokenByteInsideAnIDSpec).preRow enc Tryf.prog Tryf.f3 [] false tables)
      (fun F => ((OpenSpec.ofChange Rows.fnIsTokenByteInsideAnIDSpec).at F).post enc Tryf.prog Tryf.f3 false true false false) (aloneAtReturn Tryf.prog) nothingAlways := by
  refine returnsInTold_of_row (C := Tryf.checked) (s := OpenSpec.ofChange Rows.fnIsTokenByteInsideAnIDSpec) (by kernel_rfl) own started (by kernel_rfl) Tryf.func3
    (witness_at (enc := enc) (World.laidAll Tryf.prog os tables) #[.int .u8 0] (World.laidAll_os _ _ _)
      (World.shaped_of_ZipB (by kernel_rfl) (by kernel_rfl)) (by kernel_rfl) (OpenSpec.preRow_of_B rfl 8 (by kernel_rfl) (by kernel_rfl) (tables_met os _))) ?_
  intro F W base args ds gs before _ hF hval0 hW _ _ _ hL _
  have hval : ∀ (j : Nat) t v, Tryf.f3.params[j]? = some t → args[j]? = some v → Value.okWide Tryf.prog W .any base t v := hval0
  have hW' := hW
  obtain ⟨p, q, hA0, hV, rfl, _, _⟩ := hW
  have hA : DataW.TrodAll enc Tryf.prog W 0 (fun _ => true) true Tryf.f3.params.toList args.toList ds p := hA0
  rw [Tryf.params3] at hA hval
  obtain ⟨v0, d0, rfl, rfl, h0⟩ := trodAll_one hA
  obtain ⟨rfl, rfl⟩ := trodVars_none hV
  obtain ⟨l, rfl, rfl, rfl, wl⟩ := open_int Tryf.underlying5 (hval 0 5 v0 rfl rfl) h0
  clear hA0 hval0
  simp only [List.append_nil] at hW'
  have hl : 0 ≤ l ∧ l ≤ 255 := by simpa [Lit.wf, IntKind.min, IntKind.max, IntKind.signed, IntKind.bits] using wl
  refine (tokenID_at F.told l W hF hl.1 hl.2).mono fun e W' ⟨he, hb⟩ => ?_
  subst he
  exact ⟨_, rfl, _, _, _, [], [], [], hW', trodAll_mk1 (shut_bool Tryf.underlying4 _), trodAll_mk1 (shut_int Tryf.underlying5 wl), rfl, hb.frame _, fun h => by cases h⟩

theorem lawT_holds : Rows.FnIsTokenByteInsideAnIDToldSaid :=
  Claim7.holds_of_told_tied_any_at .later 3 Tryf.f3 _ _ [] _ _ _ _ _ (by kernel_rfl) rfl rfl rfl laidOut (by kernel_rfl) rfl ⟨rfl, rfl, rfl, rfl, rfl, rfl, rfl⟩ rfl rfl (by kernel_rfl) (by kernel_rfl) Tryf.func3 (by kernel_rfl)
    (of_decide_eq_true (by kernel_rfl)) (of_decide_eq_true (by kernel_rfl)) stops.symm rfl stopKnobs.symm (by kernel_rfl)
    (by kernel_rfl) (by kernel_rfl) (by kernel_rfl) (by kernel_rfl) (by kernel_rfl) (by kernel_rfl) (by kernel_rfl) (by kernel_rfl) (by kernel_rfl) rfl (by kernel_rfl) rfl rfl
    rfl rfl
    rfl (by kernel_rfl) (by kernel_rfl) (by kernel_rfl) (by decide) (by kernel_rfl) fnIsTokenByteInsideAnID_row_tie
    (OpenClaim.moreEntering_of (by kernel_rfl) (by kernel_rfl) (by kernel_rfl) (by kernel_rfl) (by kernel_rfl) (by kernel_rfl) (by kernel_rfl) (by kernel_rfl) (by kernel_rfl) (by kernel_rfl))
    ⟨_, WideRow.started_initial, quiet _⟩
    (fun os started _ H enc _ => lawT_lifted os started H enc)
end Go.Proofs.Qxb6614847aFmt
