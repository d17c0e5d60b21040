/-
  FnRangeCheckIsItsThreePartsAndCheckKey: the told and tied card.
-/
import Derived.Test.Qxb6608923aFmtLawA
import Derived.Test.Qxb6608923aFmtUtf
import Derived.Test.Qxb6608923aFmtWit
import Derived.Test.Qxb6608923aFmtTie
import Derived.Test.Qxb6608923aFmtCards
import Derived.SevenTiedAt
namespace Go.Proofs.Qxb6608923aFmt
open Go.ChangeShapes Go.WideShapes Go.ChangeAt Go.RowKit Go.Extern.Stop Go.Stop Go.Extern Go.Lib Go.Shelf
open Go.ChangeMaps (open_string shut_string)

theorem isKey_key (s : ByteArray) (w : World) (hs : s.size ≤ maxLen) : Calls Tryf.prog 8 #[.string s] w fun e w' => e = .returned (.bool (keyB s)) ∧ w' = w :=
  isKey_any s w (validD s.data.toList) (zzValid_any s w hs _ (by unfold vFrom; rw [List.drop_zero]))

theorem lawA_all (F : Interp) (p f : ByteArray) (l : Int) (w : World) (E : Env F w) (hp : p.size ≤ maxLen) (hf : f.size ≤ maxLen) :
    Calls Tryf.prog 3 #[.string p, .string f, .int .i64 l] w fun e w' => e = .returned (.bool true) ∧ Below w.heap.size w w' := by
  by_cases h : 1048576 < p.size + f.size
  · exact lawA_out p f l w hp hf h
  have h0 : (⟨#[]⟩ : ByteArray).size ≤ maxLen := by decide
  have e0 : fromB ⟨#[]⟩ = true := by unfold fromB; rw [Lib.toList_data]; rfl
  have d0 : decide ((⟨#[]⟩ : ByteArray).size ≤ 1024) = true := by decide
  have d1 : decide ((0 : Int) ≤ 0) = true := by decide
  have dp : decide ((p.size : Int) ≤ 1024) = decide (p.size ≤ 1024) := by simp only [decide_eq_decide]; omega
  refine lawA_in p f l w (Env F) (fun _ _ a b => a.on b) E (by omega) f.toList.isEmpty (keyB f) (fromB f) (decide (p.size ≤ 1024)) (decide (0 ≤ l)) rfl rfl dp rfl
    (fun w E => check_verdict F p f l w E hf) (fun w E => ?_) (fun w E => ?_) (fun w E => ?_) (fun w E => key_verdict F f w E hf) (fun w => isKey_key f w hf)
  · have c := check_verdict F ⟨#[]⟩ f 0 w E hf
    rwa [d0, d1, Bool.and_true, Bool.and_true] at c
  · have c := check_verdict F p ⟨#[]⟩ 0 w E h0
    rwa [e0, d1, Bool.true_and, Bool.and_true] at c
  · have c := check_verdict F ⟨#[]⟩ ⟨#[]⟩ l w E h0
    rwa [e0, d0, Bool.true_and, Bool.true_and] at c

set_option maxRecDepth 100000 in
theorem lawA_lifted (os : Os) (started : os.Started) (H : Type) (enc : TypeId × Value → H) :
    ReturnsInTold none {} Tryf.checked os 3 .any Input.okWide ((OpenSpec.ofChange Rows.fnRangeCheckIsItsThreePartsAndCheckKeySpec).preRow enc Tryf.prog Tryf.f3 [] false tables)
      (fun F => ((OpenSpec.ofChange Rows.fnRangeCheckIsItsThreePartsAndCheckKeySpec).at F).post enc Tryf.prog Tryf.f3 false true false false) (aloneAtReturn Tryf.prog) nothingAlways := by
  refine returnsInTold_of_row (C := Tryf.checked) (s := OpenSpec.ofChange Rows.fnRangeCheckIsItsThreePartsAndCheckKeySpec) (by kernel_rfl) Tryf.own started (by kernel_rfl) Tryf.func3
    (witness_at (enc := enc) (World.laidAll Tryf.prog os tables) #[.string ⟨#[]⟩, .string ⟨#[]⟩, .int .i64 0] (World.laidAll_os _ _ _)
      (World.shaped_of_ZipB (by kernel_rfl) (by kernel_rfl)) (by kernel_rfl) (OpenSpec.preRow_of_B rfl 8 (by kernel_rfl) (by kernel_rfl) (tables_met os _))) ?_
  intro F W base args ds gs before _ hF hval0 hW _ _ _ hL _
  have hval : ∀ (j : Nat) t v, Tryf.f3.params[j]? = some t → args[j]? = some v → Value.okWide Tryf.prog W .any base t v := hval0
  have hW' := hW
  obtain ⟨p, q, hA0, hV, rfl, _, _⟩ := hW
  have hA : DataW.TrodAll enc Tryf.prog W 0 (fun _ => true) true Tryf.f3.params.toList args.toList ds p := hA0
  rw [Tryf.params3] at hA hval
  obtain ⟨v0, v1, v2, d0, d1, d2, p0, p1, p2, rfl, rfl, rfl, h0, h1, h2⟩ := trodAll_three hA
  obtain ⟨rfl, rfl⟩ := trodVars_none hV
  obtain ⟨a, rfl, rfl, rfl, wa⟩ := open_string Tryf.underlying9 (hval 0 9 v0 rfl rfl) h0
  obtain ⟨b, rfl, rfl, rfl, wb⟩ := open_string Tryf.underlying9 (hval 1 9 v1 rfl rfl) h1
  obtain ⟨l, rfl, rfl, rfl, wl⟩ := open_int Tryf.underlying3 (hval 2 3 v2 rfl rfl) h2
  clear hA0 hval0
  simp only [List.append_nil] at hW'
  refine (lawA_all F.told a b l W (env_of hF hL) wa wb).mono fun e W' ⟨he, hb⟩ => ?_
  subst he
  exact ⟨_, rfl, _, _, _, [], [], [], hW', trodAll_mk1 (shut_bool Tryf.underlying4 _), trodAll_mk3 (shut_string Tryf.underlying9 wa) (shut_string Tryf.underlying9 wb) (shut_int Tryf.underlying3 wl), rfl, hb.frame _, fun h => by cases h⟩

theorem lawA_holds : Rows.FnRangeCheckIsItsThreePartsAndCheckKeyToldSaid :=
  Claim7.holds_of_told_tied_any_at .later 3 Tryf.f3 "fmt.errorf" [] [] _ _ _ _ _ (by kernel_rfl) rfl rfl rfl Tryf.laidOut (by kernel_rfl) rfl ⟨rfl, rfl, rfl, rfl, rfl, rfl, rfl⟩ rfl rfl (by kernel_rfl) (by kernel_rfl) Tryf.func3 (by kernel_rfl)
    (of_decide_eq_true (by kernel_rfl)) (of_decide_eq_true (by kernel_rfl)) Tryf.stops.symm rfl Tryf.stopKnobs.symm (by kernel_rfl)
    (by kernel_rfl) (by kernel_rfl) (by kernel_rfl) (by kernel_rfl) (by kernel_rfl) (by kernel_rfl) (by kernel_rfl) (by kernel_rfl) (by kernel_rfl) rfl (by kernel_rfl) rfl rfl
    rfl rfl
    rfl (by kernel_rfl) (by kernel_rfl) (by kernel_rfl) (by decide) (by kernel_rfl) fnRangeCheckIsItsThreePartsAndCheckKey_row_tie
    (OpenClaim.moreEntering_of (by kernel_rfl) (by kernel_rfl) (by kernel_rfl) (by kernel_rfl) (by kernel_rfl) (by kernel_rfl) (by kernel_rfl) (by kernel_rfl) (by kernel_rfl) (by kernel_rfl))
    ⟨_, WideRow.started_initial, Tryf.quiet _⟩
    (fun os started _ H enc _ => lawA_lifted os started H enc)
end Go.Proofs.Qxb6608923aFmt
