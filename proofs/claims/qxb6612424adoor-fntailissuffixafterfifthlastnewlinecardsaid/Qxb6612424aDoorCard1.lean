/-
  FnTailIsSuffixAfterFifthLastNewline: the row and the tied card.
-/
import Derived.Test.Qxb6612424aDoorLaw1
import Derived.Test.Qxb6612424aDoorCame
import Derived.Test.Qxb6612424aDoorTie
import Derived.Test.Qxb6612424aDoorCards
import Derived.ProofKit
import Derived.OpenShut
import Derived.ChangeOld
import Derived.Lay
import Derived.LaidOnce
import Derived.MakeChecks
import Derived.SevenTiedAt
namespace Go.Proofs.Qxb6612424aDoor
open Go.ChangeShapes Go.WideShapes Go.ChangeAt Go.RowKit
open Go.Lib hiding intOf

theorem law1_all (a : Option Addr) (len cap : Nat) (s : ByteArray) (w : World) (h : Came w a len s) :
    Calls Tryd.prog 3 #[.slice a len cap] w fun e w' => e = .returned (.bool true) ∧ Below w.heap.size w w' := by
  obtain ⟨rfl, hm, h⟩ := h
  by_cases hbig : 131072 < s.size
  · exact law1_out a _ cap w hbig hm
  rcases h with ⟨rfl, h0⟩ | ⟨x, rfl, h⟩
  · rw [h0]; exact law1_nil cap w
  · exact law1_some s x cap w (by omega) h

set_option maxRecDepth 100000 in
theorem law1_lifted (os : Os) (started : os.Started) (H : Type) (enc : TypeId × Value → H) :
    ReturnsInHanded {} Tryd.checked os 3 .any (fun w args => (Rows.fnTailIsSuffixAfterFifthLastNewlineSpec.pre enc Tryd.prog Tryd.f3 [] false w args ∧ laidMetH Tryd.prog tables w) ∧ sizedMet enc Tryd.prog Tryd.f3 (OpenSpec.ofChange Rows.fnTailIsSuffixAfterFifthLastNewlineSpec) false w args)
      (Rows.fnTailIsSuffixAfterFifthLastNewlineSpec.post enc Tryd.prog Tryd.f3 false true false false) := by
  refine returnsInHanded_of_change_and (C := Tryd.checked) (X := fun w _ => laidMetH Tryd.prog tables w) (fun _ _ _ hh h => h.of_heap hh) Tryd.own started (by kernel_rfl) Tryd.func3
    (ChangeSpec.witness_shaped (enc := enc) (C := Tryd.checked) (os := os) (X := fun w _ => laidMetH Tryd.prog tables w) false (World.laidAll Tryd.prog os tables) #[.slice none 0 0] 8 (World.laidAll_os _ _ _)
      (World.shaped_of_ZipB (by kernel_rfl) (by kernel_rfl)) (by kernel_rfl) (by kernel_rfl) (by kernel_rfl)
      (by rw [MakeChecks.laidMetH_plain _ _ _ (by kernel_rfl)]; exact laidMet_laidAll _ (by kernel_rfl) (by kernel_rfl))) ?_
  intro W base args ds gs before hval0 hW _ _ hL _
  have hval : ∀ (j : Nat) t v, Tryd.f3.params[j]? = some t → args[j]? = some v → Value.okWide Tryd.prog W .any base t v := hval0
  have hW' := hW
  obtain ⟨p, q, hA0, hV, rfl, _, _⟩ := hW
  have hA : DataW.TrodAll enc Tryd.prog W 0 (fun _ => true) true Tryd.f3.params.toList args.toList ds p := hA0
  rw [Tryd.params3] at hA hval
  obtain ⟨v0, d0, rfl, rfl, h0⟩ := trodAll_one hA
  obtain ⟨rfl, rfl⟩ := trodVars_none hV
  obtain ⟨a0, len0, cap0, rfl⟩ := okWide_slice Tryd.underlying22 (hval 0 22 v0 rfl rfl)
  have lt0 : ∀ x ∈ p, x.block < W.heap.size := by obtain ⟨m, hm⟩ := h0; exact DataW.trod_lt m _ _ _ hm
  obtain ⟨s, w0⟩ := came_of h0
  clear hA0 hval0
  refine (law1_all a0 len0 cap0 s W w0).mono fun e W' ⟨he, bel⟩ => ?_
  subst he
  exact ⟨_, rfl, _, _, _, [], _, [], hW', trodAll_mk1 (shut_bool Tryd.underlying4 _), trodAll_mk1 (Below.trod Tryd.laidOut (by kernel_rfl) (of_decide_eq_true (by kernel_rfl)) h0 bel lt0), rfl, bel.frame _, fun h => by cases h⟩

theorem law1_row : Rows.FnTailIsSuffixAfterFifthLastNewlineSaid :=
  OpenClaim.holds_of_wide 3 Tryd.f3 rfl rfl rfl rfl rfl rfl rfl ⟨rfl, rfl, rfl, rfl, rfl⟩ rfl rfl rfl rfl rfl (by kernel_rfl) Tryd.func3 (by kernel_rfl)
    (of_decide_eq_true (by kernel_rfl)) (by unfold Func.isWrapper; first | (rw [if_pos (by decide +kernel)]; kernel_rfl) | (rw [if_neg (by decide +kernel)]; exact ⟨rfl, rfl⟩))
    (fun os started H enc _ => law1_lifted os started H enc)

theorem law1_holds : Rows.FnTailIsSuffixAfterFifthLastNewlineCardSaid :=
  Claim7.holds_tied_plain_at .later [] [.data, .pinned] true _ false law1_row (fun _ h => by cases h) (by kernel_rfl) (fun _ h => by cases h) fnTailIsSuffixAfterFifthLastNewline_row_tie rfl ⟨rfl, rfl⟩ (by kernel_rfl) rfl
    (fun f fn hf hfn => by
      obtain rfl : f = 3 := Option.some.inj ((show Tryd.prog.funcNamed Rows.fnTailIsSuffixAfterFifthLastNewlineRow.func = some 3 by kernel_rfl).symm.trans hf) |>.symm
      obtain rfl : fn = Tryd.f3 := (Option.some.inj (Tryd.func3.symm.trans hfn)).symm
      exact ⟨by kernel_rfl, fun j t ht => by
        rw [Tryd.params3] at ht
        have hm : t ∈ [22] := by simpa using Array.mem_of_getElem? ht
        have hall : ([22].all fun u => !Tryd.prog.wantsStandIn u) = true := by kernel_rfl
        exact (show Tryd.prog.wantsStandIn t = false by simpa using List.all_eq_true.1 hall t hm)⟩)
    (by kernel_rfl)
end Go.Proofs.Qxb6612424aDoor
