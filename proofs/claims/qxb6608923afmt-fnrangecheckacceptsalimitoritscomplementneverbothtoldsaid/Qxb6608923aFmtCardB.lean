/-
  FnRangeCheckAcceptsALimitOrItsComplementNeverBoth: the told and tied card.
-/
import Derived.Test.Qxb6608923aFmtLawB
import Derived.Test.Qxb6608923aFmtWit
import Derived.Test.Qxb6608923aFmtTie
import Derived.Test.Qxb6608923aFmtCards
import Derived.SevenTiedAt
namespace Go.Proofs.Qxb6608923aFmt
open Go.ChangeShapes Go.WideShapes Go.ChangeAt Go.RowKit Go.Extern.Stop Go.Stop Go.Extern Go.Lib Go.Shelf
open Go.ChangeMaps (open_string shut_string)

theorem lawB_all (F : Interp) (p f : ByteArray) (l : Int) (w : World) (E : Env F w) (hp : p.size ≤ maxLen) (hf : f.size ≤ maxLen) (l1 : -9223372036854775808 ≤ l) (l2 : l ≤ 9223372036854775807) :
    Calls Tryf.prog 4 #[.string p, .string f, .int .i64 l] w fun e w' => e = .returned (.bool true) ∧ Below w.heap.size w w' := by
  by_cases h : 1048576 < p.size + f.size
  · exact lawB_out p f l w hp hf h
  have h' : p.size + f.size ≤ 1048576 := by omega
  by_cases hb : fromB f = true ∧ p.size ≤ 1024
  · have cP : ∀ w k, Env F w → 0 ≤ k → Calls Tryf.prog 6 #[.agg #[.string p, .string f, .int .i64 k]] w (Passed w) := fun w k E hk => check_passed F p f k w E hf hb.1 hb.2 hk
    have cF : ∀ w k, Env F w → k < 0 → Calls Tryf.prog 6 #[.agg #[.string p, .string f, .int .i64 k]] w (Failed w) := fun w k E hk => check_failed F p f k w E hf (.inr (.inr hk))
    by_cases hl : 0 ≤ l
    · exact lawB_yes p f l w (Env F) (fun _ _ a b => a.on b) E h' l1 l2 hl cP cF
    · exact lawB_no p f l w (Env F) (fun _ _ a b => a.on b) E h' l1 l2 (by omega) cP cF
  · refine lawB_never p f l w (Env F) (fun _ _ a b => a.on b) E h' l1 l2 fun w k E => check_failed F p f k w E hf ?_
    cases hv : fromB f with
    | false => exact .inl rfl
    | true => exact .inr (.inl (by rw [hv] at hb; simp at hb; exact hb))

set_option maxRecDepth 100000 in
theorem lawB_lifted (os : Os) (started : os.Started) (H : Type) (enc : TypeId × Value → H) :
    ReturnsInTold none {} Tryf.checked os 4 .any Input.okWide ((OpenSpec.ofChange Rows.fnRangeCheckAcceptsALimitOrItsComplementNeverBothSpec).preRow enc Tryf.prog Tryf.f4 [] false tables)
      (fun F => ((OpenSpec.ofChange Rows.fnRangeCheckAcceptsALimitOrItsComplementNeverBothSpec).at F).post enc Tryf.prog Tryf.f4 false true false false) (aloneAtReturn Tryf.prog) nothingAlways := by
  refine returnsInTold_of_row (C := Tryf.checked) (s := OpenSpec.ofChange Rows.fnRangeCheckAcceptsALimitOrItsComplementNeverBothSpec) (by kernel_rfl) Tryf.own started (by kernel_rfl) Tryf.func4
    (witness_at (enc := enc) (World.laidAll Tryf.prog os tables) #[.string ⟨#[]⟩, .string ⟨#[]⟩, .int .i64 0] (World.laidAll_os _ _ _)
      (World.shaped_of_ZipB (by kernel_rfl) (by kernel_rfl)) (by kernel_rfl) (OpenSpec.preRow_of_B rfl 8 (by kernel_rfl) (by kernel_rfl) (tables_met os _))) ?_
  intro F W base args ds gs before _ hF hval0 hW _ _ _ hL _
  have hval : ∀ (j : Nat) t v, Tryf.f4.params[j]? = some t → args[j]? = some v → Value.okWide Tryf.prog W .any base t v := hval0
  have hW' := hW
  obtain ⟨p, q, hA0, hV, rfl, _, _⟩ := hW
  have hA : DataW.TrodAll enc Tryf.prog W 0 (fun _ => true) true Tryf.f4.params.toList args.toList ds p := hA0
  rw [Tryf.params4] at hA hval
  obtain ⟨v0, v1, v2, d0, d1, d2, p0, p1, p2, rfl, rfl, rfl, h0, h1, h2⟩ := trodAll_three hA
  obtain ⟨rfl, rfl⟩ := trodVars_none hV
  obtain ⟨a, rfl, rfl, rfl, wa⟩ := open_string Tryf.underlying9 (hval 0 9 v0 rfl rfl) h0
  obtain ⟨b, rfl, rfl, rfl, wb⟩ := open_string Tryf.underlying9 (hval 1 9 v1 rfl rfl) h1
  obtain ⟨l, rfl, rfl, rfl, wl⟩ := open_int Tryf.underlying3 (hval 2 3 v2 rfl rfl) h2
  clear hA0 hval0
  simp only [List.append_nil] at hW'
  have hl : -9223372036854775808 ≤ l ∧ l ≤ 9223372036854775807 := by simpa [Lit.wf, IntKind.min, IntKind.max, IntKind.signed, IntKind.bits] using wl
  refine (lawB_all F.told a b l W (env_of hF hL) wa wb hl.1 hl.2).mono fun e W' ⟨he, hb⟩ => ?_
  subst he
  exact ⟨_, rfl, _, _, _, [], [], [], hW', trodAll_mk1 (shut_bool Tryf.underlying4 _), trodAll_mk3 (shut_string Tryf.underlying9 wa) (shut_string Tryf.underlying9 wb) (shut_int Tryf.underlying3 wl), rfl, hb.frame _, fun h => by cases h⟩

theorem lawB_holds : Rows.FnRangeCheckAcceptsALimitOrItsComplementNeverBothToldSaid :=
  Claim7.holds_of_told_tied_any_at .later 4 Tryf.f4 "fmt.errorf" [] [] _ _ _ _ _ (by kernel_rfl) rfl rfl rfl Tryf.laidOut (by kernel_rfl) rfl ⟨rfl, rfl, rfl, rfl, rfl, rfl, rfl⟩ rfl rfl (by kernel_rfl) (by kernel_rfl) Tryf.func4 (by kernel_rfl)
    (of_decide_eq_true (by kernel_rfl)) (of_decide_eq_true (by kernel_rfl)) Tryf.stops.symm rfl Tryf.stopKnobs.symm (by kernel_rfl)
    (by kernel_rfl) (by kernel_rfl) (by kernel_rfl) (by kernel_rfl) (by kernel_rfl) (by kernel_rfl) (by kernel_rfl) (by kernel_rfl) (by kernel_rfl) rfl (by kernel_rfl) rfl rfl
    rfl rfl
    rfl (by kernel_rfl) (by kernel_rfl) (by kernel_rfl) (by decide) (by kernel_rfl) fnRangeCheckAcceptsALimitOrItsComplementNeverBoth_row_tie
    (OpenClaim.moreEntering_of (by kernel_rfl) (by kernel_rfl) (by kernel_rfl) (by kernel_rfl) (by kernel_rfl) (by kernel_rfl) (by kernel_rfl) (by kernel_rfl) (by kernel_rfl) (by kernel_rfl))
    ⟨_, WideRow.started_initial, Tryf.quiet _⟩
    (fun os started _ H enc _ => lawB_lifted os started H enc)
end Go.Proofs.Qxb6608923aFmt
