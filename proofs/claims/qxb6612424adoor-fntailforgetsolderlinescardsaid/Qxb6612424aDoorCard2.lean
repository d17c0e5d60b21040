/-
  FnTailForgetsOlderLines: the row and the tied card.
-/
import Derived.Test.Qxb6612424aDoorLaw2
import Derived.Test.Qxb6612424aDoorCame
import Derived.Test.Qxb6612424aDoorTie
import Derived.Test.Qxb6612424aDoorCards
import Derived.ProofKit
import Derived.OpenShut
import Derived.ChangeOld
import Derived.Lay
import Derived.LaidOnce
import Derived.MakeChecks
import Derived.SevenTiedAt
namespace Go.Proofs.Qxb6612424aDoor
open Go.ChangeShapes Go.WideShapes Go.ChangeAt Go.RowKit
open Go.Lib hiding intOf

theorem law2_all (a b : Option Addr) (n c m d : Nat) (s1 s2 : ByteArray) (w : World) (h1 : Came w a n s1) (h2 : Came w b m s2) :
    Calls Tryd.prog 4 #[.slice a n c, .slice b m d] w fun e w' => e = .returned (.bool true) ∧ Below w.heap.size w w' := by
  obtain ⟨rfl, hm1, h1⟩ := h1
  obtain ⟨rfl, hm2, h2⟩ := h2
  by_cases hbig : 131072 < s1.size + s2.size
  · exact law2_out a b _ c _ d w hm1 hm2 hbig
  by_cases h0 : s2.size = 0
  · exact law2_few a b _ c _ d w (by omega) 0 (by omega) (by rw [h0]; exact count_none b d w)
  rcases h2 with ⟨_, h2⟩ | ⟨x, rfl, h2⟩
  · exact absurd h2 h0
  rcases h2 with h2 | ⟨bk, o, rfl, hb, hc⟩
  · exact absurd h2 h0
  by_cases h5 : 5 ≤ nls s2
  · obtain ⟨T, hT⟩ := tail_facts s2 h5
    exact law2_many s1 s2 T a c bk o d w (by omega) hT h5 h1 hb hc
  · exact law2_few a _ _ c _ d w (by omega) (nls s2) (by omega) (count_some s2 bk o d w (by omega) hc)

set_option maxRecDepth 100000 in
theorem law2_lifted (os : Os) (started : os.Started) (H : Type) (enc : TypeId × Value → H) :
    ReturnsInHanded {} Tryd.checked os 4 .any (fun w args => (Rows.fnTailForgetsOlderLinesSpec.pre enc Tryd.prog Tryd.f4 [] false w args ∧ laidMetH Tryd.prog tables w) ∧ sizedMet enc Tryd.prog Tryd.f4 (OpenSpec.ofChange Rows.fnTailForgetsOlderLinesSpec) false w args)
      (Rows.fnTailForgetsOlderLinesSpec.post enc Tryd.prog Tryd.f4 false true false false) := by
  refine returnsInHanded_of_change_and (C := Tryd.checked) (X := fun w _ => laidMetH Tryd.prog tables w) (fun _ _ _ hh h => h.of_heap hh) Tryd.own started (by kernel_rfl) Tryd.func4
    (ChangeSpec.witness_shaped (enc := enc) (C := Tryd.checked) (os := os) (X := fun w _ => laidMetH Tryd.prog tables w) false (World.laidAll Tryd.prog os tables) #[.slice none 0 0, .slice none 0 0] 8 (World.laidAll_os _ _ _)
      (World.shaped_of_ZipB (by kernel_rfl) (by kernel_rfl)) (by kernel_rfl) (by kernel_rfl) (by kernel_rfl)
      (by rw [MakeChecks.laidMetH_plain _ _ _ (by kernel_rfl)]; exact laidMet_laidAll _ (by kernel_rfl) (by kernel_rfl))) ?_
  intro W base args ds gs before hval0 hW _ _ hL _
  have hval : ∀ (j : Nat) t v, Tryd.f4.params[j]? = some t → args[j]? = some v → Value.okWide Tryd.prog W .any base t v := hval0
  have hW' := hW
  obtain ⟨p, q, hA0, hV, rfl, _, _⟩ := hW
  have hA : DataW.TrodAll enc Tryd.prog W 0 (fun _ => true) true Tryd.f4.params.toList args.toList ds p := hA0
  rw [Tryd.params4] at hA hval
  obtain ⟨v0, v1, d0, d1, p0, p1, rfl, rfl, rfl, h0, h1⟩ := trodAll_two hA
  obtain ⟨rfl, rfl⟩ := trodVars_none hV
  obtain ⟨a0, len0, cap0, rfl⟩ := okWide_slice Tryd.underlying22 (hval 0 22 v0 rfl rfl)
  obtain ⟨a1, len1, cap1, rfl⟩ := okWide_slice Tryd.underlying22 (hval 1 22 v1 rfl rfl)
  have lt0 : ∀ x ∈ p0, x.block < W.heap.size := by obtain ⟨m, hm⟩ := h0; exact DataW.trod_lt m _ _ _ hm
  have lt1 : ∀ x ∈ p1, x.block < W.heap.size := by obtain ⟨m, hm⟩ := h1; exact DataW.trod_lt m _ _ _ hm
  obtain ⟨s, w0⟩ := came_of h0
  obtain ⟨s2, w1⟩ := came_of h1
  clear hA0 hval0
  refine (law2_all a0 a1 len0 cap0 len1 cap1 s s2 W w0 w1).mono fun e W' ⟨he, bel⟩ => ?_
  subst he
  exact ⟨_, rfl, _, _, _, [], _, [], hW', trodAll_mk1 (shut_bool Tryd.underlying4 _), trodAll_mk2 (Below.trod Tryd.laidOut (by kernel_rfl) (of_decide_eq_true (by kernel_rfl)) h0 bel lt0) (Below.trod Tryd.laidOut (by kernel_rfl) (of_decide_eq_true (by kernel_rfl)) h1 bel lt1), rfl, bel.frame _, fun h => by cases h⟩

theorem law2_row : Rows.FnTailForgetsOlderLinesSaid :=
  OpenClaim.holds_of_wide 4 Tryd.f4 rfl rfl rfl rfl rfl rfl rfl ⟨rfl, rfl, rfl, rfl, rfl⟩ rfl rfl rfl rfl rfl (by kernel_rfl) Tryd.func4 (by kernel_rfl)
    (of_decide_eq_true (by kernel_rfl)) (by unfold Func.isWrapper; first | (rw [if_pos (by decide +kernel)]; kernel_rfl) | (rw [if_neg (by decide +kernel)]; exact ⟨rfl, rfl⟩))
    (fun os started H enc _ => law2_lifted os started H enc)

theorem law2_holds : Rows.FnTailForgetsOlderLinesCardSaid :=
  Claim7.holds_tied_plain_at .later [] [.data, .pinned] true _ false law2_row (fun _ h => by cases h) (by kernel_rfl) (fun _ h => by cases h) fnTailForgetsOlderLines_row_tie rfl ⟨rfl, rfl⟩ (by kernel_rfl) rfl
    (fun f fn hf hfn => by
      obtain rfl : f = 4 := Option.some.inj ((show Tryd.prog.funcNamed Rows.fnTailForgetsOlderLinesRow.func = some 4 by kernel_rfl).symm.trans hf) |>.symm
      obtain rfl : fn = Tryd.f4 := (Option.some.inj (Tryd.func4.symm.trans hfn)).symm
      exact ⟨by kernel_rfl, fun j t ht => by
        rw [Tryd.params4] at ht
        have hm : t ∈ [22, 22] := by simpa using Array.mem_of_getElem? ht
        have hall : ([22, 22].all fun u => !Tryd.prog.wantsStandIn u) = true := by kernel_rfl
        exact (show Tryd.prog.wantsStandIn t = false by simpa using List.all_eq_true.1 hall t hm)⟩)
    (by kernel_rfl)
end Go.Proofs.Qxb6612424aDoor
