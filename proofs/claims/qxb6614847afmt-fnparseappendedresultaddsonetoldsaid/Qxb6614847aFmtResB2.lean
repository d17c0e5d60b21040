/-
  The walk of result: part 2.
-/
import Derived.Test.Qxb6614847aFmtResA
namespace Go.Proofs.Qxb6614847aFmt
open Go.RowKit Go.Extern.Stop Go.Stop Go.Extern Go.Maps

set_option maxHeartbeats 8000000 in
set_option maxRecDepth 20000 in
theorem result_p2 (F : Interp) (Fu R : Nat) (s : ByteArray) (i : Nat) (w : World) (hF : F.answers w.tape) (h : Rd w R s i) (hi : i ≤ s.size) (hs : s.size ≤ 2097152) (hFu : s.size < Fu) (hno : ¬ kw (rest s i) = [110, 111, 110, 101]) (hsl : ∀ j, space ((rest s i).dropWhile kwB) = some (rest s j) → ¬ (rest s j).head? = some 47) :
    Calls Tryf.prog 21 #[.pointer (some ⟨R, 0, none⟩)] w (RPost Fu w R s i) := by
  have hlt := h.lt
  have HM0 : Hid (Moved w (w.alloc (.cells #[.string ⟨#[]⟩, .string ⟨#[]⟩, .map none] 34)) R s i) := hideP ((Moved.refl h).below hlt (Nat.le_refl _) ((Below.refl _ _).alloc (Nat.le_refl _) _))
  have HO0 : Hid (Own34 (w.alloc (.cells #[.string ⟨#[]⟩, .string ⟨#[]⟩, .map none] 34)) w.heap.size (.string ⟨#[]⟩) (.string ⟨#[]⟩) (.map none)) := hideP (Own34.made _ _ _ _ _ rfl)
  have HF : Hid (F.answers w.tape) := hideP hF
  clear hF h
  go_enter Tryf.func21, Tryf.ntmps21
  go_wp2_with (go_at_call 25; refine (keyword_is R s i _ (by exact HM0.out.rd) hi hs).mono ?_)
  rintro e w1 ⟨j1, h01, hj1, hdw, rfl, hm⟩
  have HM1 : Hid (Moved w w1 R s j1) := hideP (HM0.out.trans hm)
  have HO1 : Hid (Own34 w1 w.heap.size (.string ⟨#[]⟩) (.string ⟨#[]⟩) (.map none)) := hideP (HO0.out.kept hm.grown (by simpa using (Nat.ne_of_lt hlt).symm))
  have HF1 : Hid (F.answers w1.tape) := hideP (answers_grown HF.out HM1.out.grown)
  have hK1 : (kw (rest s i)).length ≤ 2097152 := Nat.le_trans (kw_len _) (by rw [rest_length]; omega)
  clear hm
  by_cases hk : kw (rest s i) = []
  · have HP := hideP (result_none Fu hk)
    rw [hk]
    clear hk hno hsl
    go_wp2_with (go_at_call 16; refine (unexpected_any F R s _ j1 _ (by exact HF1.out) (by exact HM1.out.rd)).mono ?_; rintro e w2 ⟨v, rfl, hv⟩; have HO2 := hideP (HO1.out.kept hv.2 (by simpa using (Nat.ne_of_lt hlt).symm)); have o0 := HO2.out.c0; have o1 := HO2.out.c1; have o2 := HO2.out.c2; have o3 := HO2.out.f0; have o4 := HO2.out.f1; have o5 := HO2.out.f2; have Hv := hideP hv; clear hv)
    refine bodyPost_ret (res_ret rfl rfl rfl (sets_c0 HO2.out _ _ _) (sets_c1 HO2.out _ _ _) (sets_c2 HO2.out _ _ _)) rfl ?_
    exact Or.inr (Or.inr ⟨HP.out, v, rfl, sets_err Hv.out.1 w.heap.size ⟨#[]⟩ _ _, sets_grown (HM1.out.grown.trans Hv.out.2) (Nat.le_refl _) _ _ _⟩)
  · have HP : Hid (result Fu (rest s i) = (space (rest s j1)).bind (stepX Fu (kw (rest s i)))) := hideP (by rw [result_some Fu hk, hdw])
    have hsl1 : ∀ j, space (rest s j1) = some (rest s j) → ¬ (rest s j).head? = some 47 := fun j e => hsl j (by rw [hdw]; exact e)
    clear hdw hsl
    generalize kw (rest s i) = K1 at hk hK1 HP hno ⊢
    have hke : K1.isEmpty = false := by cases K1 with | nil => exact absurd rfl hk | cons a r => rfl
    clear hk
    go_wp2_with (go_at_call 8; refine (space_any F R s j1 _ (by exact HF1.out) (by exact HM1.out.rd) hj1 hs).mono ?_)
    rintro e w2 (⟨j2, h12, hj2, hq, rfl, hm⟩ | ⟨hq, v, rfl, hv, hg⟩)
    · have HM2 : Hid (Moved w w2 R s j2) := hideP (HM1.out.trans hm)
      have HO2 := hideP (HO1.out.kept hm.grown (by simpa using (Nat.ne_of_lt hlt).symm))
      have HF2 : Hid (F.answers w2.tape) := hideP (answers_grown HF.out HM2.out.grown)
      have HP2 : Hid (result Fu (rest s i) = stepX Fu K1 (rest s j2)) := hideP (by rw [HP.out, hq]; rfl)
      have hsl := hsl1 j2 hq
      clear hm hq HP hsl1
      have l0 := HM2.out.rd.text
      have l1 := HM2.out.rd.pos
      have tn : (K1 == [110, 111, 110, 101]) = false := by simpa using hno
      have HP3 : Hid (result Fu (rest s i) = (version (rest s j2)).bind (stepY Fu K1)) := hideP (by rw [HP2.out]; unfold stepX; rw [if_neg (fun e => hno e.1)])
      clear hno HP2
      go_wp2_with fail
      go_quiet (fail)
      generalize hW : w2.drewN _ = w3
      have HM3 : Hid (Moved w w3 R s j2) := by rw [← hW]; exact hideP (HM2.out.drewN _)
      have HO3 : Hid (Own34 w3 w.heap.size (.string ⟨#[]⟩) (.string ⟨#[]⟩) (.map none)) := by rw [← hW]; exact hideP (HO2.out.drewN _)
      have HF3 : Hid (F.answers w3.tape) := by rw [← hW]; exact hideP HF2.out
      clear hW l0 l1

      have t0 : (((nx (rest s j2)).toNat : Int) == 47) = false := ne_byte (n := 47) (fun e => hsl ((nx_is (by decide)).mp e))
      have HP4 : Hid (result Fu (rest s i) = stepY Fu K1 (rest s j2)) := hideP (by rw [HP3.out, version_no hsl]; rfl)
      clear hsl HP3
      go_wp2_with (first | (go_at_call 14; refine (next_is R s j2 _ (by exact HM3.out.rd)).mono ?_; rintro e wn ⟨rfl, m, hw⟩; have hw2 := hw.symm; subst hw2) | (go_at_call 26; refine (equals_any F R s _ j2 _ (by exact HF3.out) (by exact (HM3.out.drewN _).rd) hs (by rw [bytes_len]; omega)).mono ?_))
      rintro e w7 (⟨j7, h67, hj7, hq, rfl, hm⟩ | ⟨hq, v, rfl, hv, hg⟩)
      · have HM7 : Hid (Moved w w7 R s j7) := hideP ((HM3.out.drewN _).trans hm)
        have HO7 := hideP ((HO3.out.drewN _).kept hm.grown (by simpa using (Nat.ne_of_lt hlt).symm))
        have HF7 : Hid (F.answers w7.tape) := hideP (answers_grown HF.out HM7.out.grown)
        have HP8 : Hid (result Fu (rest s i) = stepZ Fu K1 (rest s j7)) := hideP (by rw [HP4.out]; unfold stepY; rw [hq]; rfl)
        clear hm hq HP4
        go_wp2_with (go_at_call 25; refine (keyword_is R s j7 _ (by exact HM7.out.rd) hj7 hs).mono ?_)
        rintro e w8 ⟨j8, h78, hj8, hdw, rfl, hm⟩
        have HM8 : Hid (Moved w w8 R s j8) := hideP (HM7.out.trans hm)
        have HO8 := hideP (HO7.out.kept hm.grown (by simpa using (Nat.ne_of_lt hlt).symm))
        have HF8 : Hid (F.answers w8.tape) := hideP (answers_grown HF.out HM8.out.grown)
        have hK2 : (kw (rest s j7)).length ≤ 2097152 := Nat.le_trans (kw_len _) (by rw [rest_length]; omega)
        clear hm
        by_cases hk2 : kw (rest s j7) = []
        · have HPe : Hid (result Fu (rest s i) = none) := hideP (by rw [HP8.out]; unfold stepZ; rw [if_pos hk2])
          have tk : ¬ 9223372036854775807 < 14 + K1.length := by omega
          rw [hk2]
          clear hk2 hdw hK2
          go_wp2_with (go_at_call 16; refine (unexpected_any F R s _ j8 _ (by exact HF8.out) (by exact HM8.out.rd)).mono ?_; rintro e wu ⟨v, rfl, hv⟩; have HOe := hideP (HO8.out.kept hv.2 (by simpa using (Nat.ne_of_lt hlt).symm)); have o0 := HOe.out.c0; have o1 := HOe.out.c1; have o2 := HOe.out.c2; have o3 := HOe.out.f0; have o4 := HOe.out.f1; have o5 := HOe.out.f2; have Hv := hideP hv; clear hv)
          refine bodyPost_ret (res_ret rfl rfl rfl (sets_c0 HOe.out _ _ _) (sets_c1 HOe.out _ _ _) (sets_c2 HOe.out _ _ _)) rfl ?_
          exact Or.inr (Or.inr ⟨HPe.out, v, rfl, sets_err Hv.out.1 w.heap.size ⟨#[]⟩ _ _, sets_grown (HM8.out.grown.trans Hv.out.2) (Nat.le_refl _) _ _ _⟩)

        · have HP9 : Hid (result Fu (rest s i) = (props Fu [] (rest s j8)).map fun x => (some (K1, kw (rest s j7), x.1), x.2)) := hideP (by rw [HP8.out]; unfold stepZ; rw [if_neg hk2, hdw])
          clear hdw HP8
          generalize kw (rest s j7) = K2 at hk2 hK2 HP9 ⊢
          have hke2 : K2.isEmpty = false := by cases K2 with | nil => exact absurd rfl hk2 | cons a r => rfl
          clear hk2
          have hmm := @run_makeMap Tryf.prog
          have hw8 : w.heap.size < w8.heap.size := HO8.out.lt
          have HM9 : Hid (Moved w ((w8.alloc (.map #[] 0)).alloc (.cells #[.string ⟨K1.toArray⟩, .string ⟨K2.toArray⟩, .map (some w8.heap.size)] 34)) R s j8) := hideP (HM8.out.below hlt (Nat.le_refl _) ((Below.refl _ _).alloc HM8.out.grown.size _ |>.alloc (by rw [World.size_alloc]; have := HM8.out.grown.size; omega) _))
          have HO9 : Hid (Own34 ((w8.alloc (.map #[] 0)).alloc (.cells #[.string ⟨K1.toArray⟩, .string ⟨K2.toArray⟩, .map (some w8.heap.size)] 34)) w.heap.size (.string ⟨#[]⟩) (.string ⟨#[]⟩) (.map none)) := hideP ((HO8.out.kept (World.grownBy_alloc _ _ none) (by simp)).kept (World.grownBy_alloc _ _ none) (by simp))
          have HD9 : Hid (Own34 ((w8.alloc (.map #[] 0)).alloc (.cells #[.string ⟨K1.toArray⟩, .string ⟨K2.toArray⟩, .map (some w8.heap.size)] 34)) (w8.heap.size + 1) (.string ⟨K1.toArray⟩) (.string ⟨K2.toArray⟩) (.map (some w8.heap.size))) := hideP (Own34.made _ _ _ _ _ (by rw [World.size_alloc]))
          have HMp9 : Hid (MapAt ((w8.alloc (.map #[] 0)).alloc (.cells #[.string ⟨K1.toArray⟩, .string ⟨K2.toArray⟩, .map (some w8.heap.size)] 34)) w8.heap.size []) := hideP ((MapAt.made w8).kept (World.grownBy_alloc _ _ none) (by simp))
          go_wp2_with fail
          go_loopw [] (fun wr => ∃ (k n' : Nat) (ps : Props), j8 ≤ k ∧ k ≤ s.size ∧ ps.length ≤ k ∧ s.size - k < n' ∧ Hid (props Fu [] (rest s j8) = props n' ps (rest s k)) ∧ Hid (MapAt wr w8.heap.size ps) ∧ Hid (Moved w wr R s k) ∧ Hid (Own34 wr w.heap.size (.string ⟨#[]⟩) (.string ⟨#[]⟩) (.map none)) ∧ Hid (Own34 wr (w8.heap.size + 1) (.string ⟨K1.toArray⟩) (.string ⟨K2.toArray⟩) (.map (some w8.heap.size)))) (fun wr => s.size - posAt R wr)
          case atStart => exact ⟨j8, Fu, [], Nat.le_refl _, hj8, Nat.zero_le _, by omega, hideP rfl, HMp9, HM9, HO9, HD9⟩
          case round =>
            obtain ⟨k, n', ps, hjk, hk, hpl, hn', HQ, HMp, HM, HO, HD⟩ := hrel
            have meas : ∀ k' w', k < k' → k' ≤ s.size → Hid (Moved w w' R s k') → s.size - posAt R w' < s.size - posAt R wr := fun k' w' hkk hks Hm => by
              rw [posAt_rd Hm.out.rd, posAt_rd HM.out.rd]; omega
            have HFr : Hid (F.answers wr.tape) := hideP (answers_grown HF.out HM.out.grown)
            obtain ⟨n', rfl⟩ : ∃ n2, n' = n2 + 1 := ⟨n' - 1, by omega⟩
            go_wp2_with (go_at_call 8; refine (space_any F R s k _ (by exact HFr.out) (by exact HM.out.rd) hk hs).mono ?_)
            rintro e wa (⟨ka, hka, hja, hq, rfl, hm⟩ | ⟨hq, v, rfl, hv, hg⟩)
            · have HMa : Hid (Moved w wa R s ka) := hideP (HM.out.trans hm)
              have HMpa : Hid (MapAt wa w8.heap.size ps) := hideP (HMp.out.kept hm.grown (by simp; omega))
              have HOa := hideP (HO.out.kept hm.grown (by simpa using (Nat.ne_of_lt hlt).symm))
              have HDa := hideP (HD.out.kept hm.grown (by simp; omega))
              have HFa : Hid (F.answers wa.tape) := hideP (answers_grown HF.out HMa.out.grown)
              have HQa : Hid (props Fu [] (rest s j8) = if stopL (rest s ka) = true then some (ps, rest s ka) else (prop ps (rest s ka)).bind fun x => props n' x.1 x.2) := hideP (by rw [HQ.out, props_step, hq]; rfl)
              have l0 := HMa.out.rd.text
              have l1 := HMa.out.rd.pos
              clear hm hq
              by_cases hje : ka = s.size
              · have te : ((ka : Int) == (s.size : Int)) = true := by rw [beq_iff_eq]; omega
                have HS : Hid (result Fu (rest s i) = some (some (K1, K2, ps), rest s ka)) := hideP (by rw [HP9.out, HQa.out, if_pos (stop_end (by omega))]; rfl)
                go_wp2_with fail
                go_quiet (fail)
                have HOe := hideP (HOa.out.drewN nq)
                have o0 := HOe.out.c0; have o1 := HOe.out.c1; have o2 := HOe.out.c2; have o3 := HOe.out.f0; have o4 := HOe.out.f1; have o5 := HOe.out.f2
                have d0 := HDa.out.c0
                have d1 := HDa.out.c1
                have d2 := HDa.out.c2
                go_wp2_with fail
                refine bodyPost_ret (res_ret rfl rfl rfl (sets_c0 HOe.out _ _ _) (sets_c1 HOe.out _ _ _) (sets_c2 HOe.out _ _ _)) rfl ?_
                exact Or.inl ⟨ka, (K1, K2, ps), w8.heap.size, by omega, hja, HS.out, rfl, (HMpa.out.kept (row := none) grown_weak (by simp)).kept (sets_row _ _ _ _ _) (by simp; omega), by omega, sets_moved (HMa.out.drewN _) (by omega) (Nat.le_refl _) _ _ _⟩

              have hjl : ka < s.size := by omega
              have te : ((ka : Int) == (s.size : Int)) = false := by simpa using fun e => hje (by omega)
              by_cases hj59 : (rest s ka).head? = some 59
              · have t1 : (((nx (rest s ka)).toNat : Int) == 59) = true := eq_byte (n := 59) (by decide) ((nx_is (by decide)).mpr hj59)
                have HS : Hid (result Fu (rest s i) = some (some (K1, K2, ps), rest s ka)) := hideP (by rw [HP9.out, HQa.out, if_pos (stop_sep hj59)]; rfl)
                clear hj59
                go_wp2_with fail
                go_quiet ((go_at_call 14; refine Calls.quiet_of (next_is R s ka _ ?_); exact ((Moved.refl HMa.out.rd).drewN _).rd))
                have HOe := hideP (HOa.out.drewN nq)
                have o0 := HOe.out.c0; have o1 := HOe.out.c1; have o2 := HOe.out.c2; have o3 := HOe.out.f0; have o4 := HOe.out.f1; have o5 := HOe.out.f2
                have d0 := HDa.out.c0
                have d1 := HDa.out.c1
                have d2 := HDa.out.c2
                go_wp2_with fail
                refine bodyPost_ret (res_ret rfl rfl rfl (sets_c0 HOe.out _ _ _) (sets_c1 HOe.out _ _ _) (sets_c2 HOe.out _ _ _)) rfl ?_
                exact Or.inl ⟨ka, (K1, K2, ps), w8.heap.size, by omega, hja, HS.out, rfl, (HMpa.out.kept (row := none) grown_weak (by simp)).kept (sets_row _ _ _ _ _) (by simp; omega), by omega, sets_moved (HMa.out.drewN _) (by omega) (Nat.le_refl _) _ _ _⟩

              have t1 : (((nx (rest s ka)).toNat : Int) == 59) = false := ne_byte (n := 59) (fun e => hj59 ((nx_is (by decide)).mp e))
              have HG : Hid (props Fu [] (rest s j8) = (prop ps (rest s ka)).bind fun x => props n' x.1 x.2) := hideP (by rw [HQa.out, if_neg (by rw [stop_no hjl hj59]; decide)])
              have d2 := HDa.out.c2
              clear hj59
              go_wp2_with fail
              go_quiet ((go_at_call 14; refine Calls.quiet_of (next_is R s ka _ ?_); exact ((Moved.refl HMa.out.rd).drewN _).rd))
              go_wp2_with (go_at_call 27; refine (property_any F R s ka w8.heap.size ps _ (by exact HFa.out) (by exact ((Moved.refl HMa.out.rd).drewN _).rd) hja hs (by exact HMpa.out.kept (row := none) grown_weak (by simp)) (by omega) (by omega)).mono ?_)
              rintro e wb (⟨kb, ps2, hkb, hjb, hpr, rfl, hmap, hrd, hg2⟩ | ⟨hpr, v, rfl, hv, hg2⟩)
              · have HMb : Hid (Moved w wb R s kb) := hideP ⟨hrd, grown_two (HMa.out.drewN _).grown hg2 (by omega)⟩
                have hklt : ka < kb := by have := prop_lt hpr; simp only [rest_length] at this; omega
                have hpl2 : ps2.length ≤ ps.length + 1 := prop_more1 hpr
                have HOb := hideP ((HOa.out.drewN _).kept2 hg2 (by omega) (by omega))
                have HDb := hideP ((HDa.out.drewN _).kept2 hg2 (by omega) (by omega))
                have HQb : Hid (props Fu [] (rest s j8) = props n' ps2 (rest s kb)) := hideP (by rw [HG.out, hpr]; rfl)
                have HMpb := hideP hmap
                clear hmap hrd hg2 hpr l0 l1 d2
                go_wp2_with fail
                go_roundw
                case rel => exact ⟨kb, n', ps2, by omega, hjb, by omega, by omega, HQb, HMpb, HMb, HOb, HDb⟩
                case measure => exact meas kb _ (by omega) hjb HMb
              · obtain ⟨b, t, rfl, hb, hcell⟩ := id hv
                have HX : Hid (result Fu (rest s i) = none) := hideP (by rw [HP9.out, HG.out, hpr]; rfl)
                have HOe := hideP ((HOa.out.drewN _).kept2 hg2 (by omega) (by omega))
                have HGe := hideP (grown_two (HMa.out.drewN _).grown hg2 (by omega))
                have o0 := HOe.out.c0; have o1 := HOe.out.c1; have o2 := HOe.out.c2; have o3 := HOe.out.f0; have o4 := HOe.out.f1; have o5 := HOe.out.f2
                have Hv := hideP hv
                clear hb hcell hv hpr hg2 l0 l1 d2
                go_wp2_with fail
                refine bodyPost_ret (res_ret rfl rfl rfl (sets_c0 HOe.out _ _ _) (sets_c1 HOe.out _ _ _) (sets_c2 HOe.out _ _ _)) rfl ?_
                exact Or.inr (Or.inr ⟨HX.out, _, rfl, sets_err Hv.out w.heap.size ⟨#[]⟩ _ _, sets_grown HGe.out (Nat.le_refl _) _ _ _⟩)

            · obtain ⟨b, t, rfl, hb, hcell⟩ := id hv
              have HX : Hid (result Fu (rest s i) = none) := hideP (by rw [HP9.out, HQ.out, props_step, hq]; rfl)
              have HOe := hideP (HO.out.kept hg (by simpa using (Nat.ne_of_lt hlt).symm))
              have HGe := hideP (HM.out.grown.trans hg)
              have o0 := HOe.out.c0; have o1 := HOe.out.c1; have o2 := HOe.out.c2; have o3 := HOe.out.f0; have o4 := HOe.out.f1; have o5 := HOe.out.f2
              have Hv := hideP hv
              clear hb hcell hv hq hg
              go_wp2_with fail
              refine bodyPost_ret (res_ret rfl rfl rfl (sets_c0 HOe.out _ _ _) (sets_c1 HOe.out _ _ _) (sets_c2 HOe.out _ _ _)) rfl ?_
              exact Or.inr (Or.inr ⟨HX.out, _, rfl, sets_err Hv.out w.heap.size ⟨#[]⟩ _ _, sets_grown HGe.out (Nat.le_refl _) _ _ _⟩)

      · obtain ⟨b, t, rfl, hb, hcell⟩ := id hv
        have HX : Hid (result Fu (rest s i) = none) := hideP (by rw [HP4.out]; unfold stepY; rw [hq]; rfl)
        have HOe := hideP ((HO3.out.drewN _).kept hg (by simpa using (Nat.ne_of_lt hlt).symm))
        have HGe := hideP ((HM3.out.drewN _).grown.trans hg)
        have o0 := HOe.out.c0; have o1 := HOe.out.c1; have o2 := HOe.out.c2; have o3 := HOe.out.f0; have o4 := HOe.out.f1; have o5 := HOe.out.f2
        have Hv := hideP hv
        clear hb hcell hv hq hg
        go_wp2_with fail
        refine bodyPost_ret (res_ret rfl rfl rfl (sets_c0 HOe.out _ _ _) (sets_c1 HOe.out _ _ _) (sets_c2 HOe.out _ _ _)) rfl ?_
        exact Or.inr (Or.inr ⟨HX.out, _, rfl, sets_err Hv.out w.heap.size ⟨#[]⟩ _ _, sets_grown HGe.out (Nat.le_refl _) _ _ _⟩)



    · obtain ⟨b, t, rfl, hb, hcell⟩ := id hv
      have HX : Hid (result Fu (rest s i) = none) := hideP (by rw [HP.out, hq]; rfl)
      have HOe := hideP (HO1.out.kept hg (by simpa using (Nat.ne_of_lt hlt).symm))
      have HGe := hideP (HM1.out.grown.trans hg)
      have o0 := HOe.out.c0; have o1 := HOe.out.c1; have o2 := HOe.out.c2; have o3 := HOe.out.f0; have o4 := HOe.out.f1; have o5 := HOe.out.f2
      have Hv := hideP hv
      clear hb hcell hv hq hg
      go_wp2_with fail
      refine bodyPost_ret (res_ret rfl rfl rfl (sets_c0 HOe.out _ _ _) (sets_c1 HOe.out _ _ _) (sets_c2 HOe.out _ _ _)) rfl ?_
      exact Or.inr (Or.inr ⟨HX.out, _, rfl, sets_err Hv.out w.heap.size ⟨#[]⟩ _ _, sets_grown HGe.out (Nat.le_refl _) _ _ _⟩)
end Go.Proofs.Qxb6614847aFmt
