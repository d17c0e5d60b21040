/-
  The walk of property.
-/
import Derived.Test.Qxb6614847aFmtMem
namespace Go.Proofs.Qxb6614847aFmt
open Go.RowKit Go.Extern.Stop Go.Stop Go.Extern Go.Maps

/-- Of what was there only the blocks R and M have turned. -/
structure Grown2 (w w' : World) (R M : Nat) : Prop where
  os : w'.os = w.os
  tape : w'.tape = w.tape
  output : w'.output = w.output
  size : w.heap.size ≤ w'.heap.size
  block : ∀ k, k < w.heap.size → k ≠ R → k ≠ M → w'.heap[k]? = w.heap[k]?
theorem Grown2.of {w w' : World} {R : Nat} (M : Nat) (h : w.grownBy w' (some R)) : Grown2 w w' R M := ⟨h.os, h.tape, h.output, h.size, fun k hk hR _ => h.block k hk (by simpa using hR)⟩
theorem Grown2.and {w w1 w2 : World} {R M : Nat} (h : w.grownBy w1 (some R)) (h2 : w1.grownBy w2 (some M)) : Grown2 w w2 R M :=
  ⟨h2.os.trans h.os, h2.tape.trans h.tape, h2.output.trans h.output, Nat.le_trans h.size h2.size, fun k hk hR hM => (h2.block k (Nat.lt_of_lt_of_le hk h.size) (by simpa using hM)).trans (h.block k hk (by simpa using hR))⟩
/-! ### the plain steps -/
def stepD (ps : Props) (key : List UInt8) (l3 : List UInt8) : Option (Props × List UInt8) :=
  (eqL l3).bind fun l4 => (pval l4).bind fun x => if (ps.map (·.1)).contains key = true then none else some (ps ++ [(key, x.1)], x.2)
def stepC (ps : Props) (k1 : List UInt8) (l2 : List UInt8) : Option (Props × List UInt8) :=
  if kw l2 = [] then none else (space (l2.dropWhile kwB)).bind (stepD ps (k1 ++ 46 :: kw l2))
def stepU (ps : Props) (l1 : List UInt8) : Option (Props × List UInt8) := (eqL l1).bind fun l4 => (pval l4).bind fun x => some (ps, x.2)
def stepB (ps : Props) (k1 : List UInt8) (l1 : List UInt8) : Option (Props × List UInt8) :=
  if l1.head? = some 46 then (space l1.tail).bind (stepC ps k1) else stepU ps l1
theorem prop_none (ps : Props) {l : List UInt8} (h : kw l = []) : prop ps l = none := by unfold prop; rw [if_pos h]
theorem prop_some (ps : Props) {l : List UInt8} (h : ¬ kw l = []) : prop ps l = (space (l.dropWhile kwB)).bind (stepB ps (kw l)) := by unfold prop; rw [if_neg h]; rfl
theorem kw_len (l : List UInt8) : (kw l).length ≤ l.length := by
  unfold kw
  rw [List.length_map]
  exact (List.takeWhile_sublist _).length_le
/-- property's end. -/
def PrPost (w : World) (R : Nat) (s : ByteArray) (i M : Nat) (ps : Props) (e : Ending) (w' : World) : Prop :=
  (∃ j ps', i ≤ j ∧ j ≤ s.size ∧ prop ps (rest s i) = some (ps', rest s j) ∧ e = .returned .nilIface ∧ MapAt w' M ps' ∧ Rd w' R s j ∧ Grown2 w w' R M) ∨
  (prop ps (rest s i) = none ∧ ∃ v, e = .returned v ∧ IsErr w' v ∧ Grown2 w w' R M)
theorem bytes_len (K : List UInt8) : (⟨K.toArray⟩ : ByteArray).size = K.length := by show K.toArray.size = _; simp
theorem bytes_app (K L : List UInt8) : ((⟨K.toArray⟩ : ByteArray) ++ (⟨L.toArray⟩ : ByteArray)) = ⟨(K ++ L).toArray⟩ := by
  apply ByteArray.ext
  rw [ByteArray.data_append]
  simp
theorem map_look {w : World} {M : Nat} {ps : Props} (h : MapAt w M ps) (kb : ByteArray) (hk : kb.size ≤ maxLen) : ∃ v, (Instr.lookup 32 (.map (some M)) (.string kb) true).run Tryf.prog w = .ok (.tuple #[.string v, .bool ((ps.map (·.1)).contains kb.data.toList)]) w := by
  obtain ⟨v, q, h1, h2⟩ := World.ownsMap.look_ok h keyLaw Tryf.underlying32 (zero9 w) (plainElem_string Tryf.underlying9 (by decide)) (WideMaps.keyOf_string_mk Tryf.underlying9 hk)
  obtain ⟨sv, rfl, _⟩ := plainElem_string_inv Tryf.underlying9 h2
  refine ⟨sv, ?_⟩
  rw [h1, dat_has]
theorem map_put {w : World} {M : Nat} {ps : Props} (h : MapAt w M ps) (hn : ps.length < maxLen) (kb vb : ByteArray) (hk : kb.size ≤ maxLen) (hv : vb.size ≤ maxLen) : ∃ w', (Instr.mapUpdate 32 (.map (some M)) (.string kb) (.string vb)).run Tryf.prog w = .ok () w' ∧ MapAt w' M (ps ++ [(kb.data.toList, vb.data.toList)]) ∧ w.grownBy w' (some M) := by
  obtain ⟨w', h1, h2, h3⟩ := World.ownsMap.update h keyLaw Tryf.underlying32 hn (WideMaps.keyOf_string_mk Tryf.underlying9 hk) (plainElem_string Tryf.underlying9 hv)
  refine ⟨w', h1, ?_, h3⟩
  unfold MapAt
  rw [dat_append, List.length_append]
  exact h2

theorem quo_size : ∀ (n : Nat) (l acc : List UInt8), l.length ≤ n → ∀ x, quo acc l = some x → x.1.length ≤ acc.length + l.length := by
  intro n
  induction n with
  | zero =>
    intro l acc h x e
    match l, h with
    | [], _ => cases e
  | succ n ih =>
    intro l acc h x e
    match l, h with
    | [], _ => cases e
    | c :: r, h =>
      rw [List.length_cons] at h ⊢
      rw [quo_cons] at e
      by_cases h1 : c = 92
      · rw [if_pos h1] at e
        match r, h, e with
        | [], _, e => cases e
        | d :: r', h, e =>
          rw [List.length_cons] at h ⊢
          have := ih r' _ (by omega) x e
          rw [List.length_append] at this
          simp at this
          omega
      rw [if_neg h1] at e
      by_cases h2 : c = 34
      · rw [if_pos h2] at e; rw [← Option.some.inj e]; exact Nat.le_add_right _ _
      · rw [if_neg h2] at e
        have := ih r _ (by omega) x e
        rw [List.length_append] at this
        simp at this
        omega
theorem quo_both : ∀ (n : Nat) (l acc : List UInt8), l.length ≤ n → ∀ x, quo acc l = some x → x.1.length + x.2.length ≤ acc.length + l.length := by
  intro n
  induction n with
  | zero =>
    intro l acc h x e
    match l, h with
    | [], _ => cases e
  | succ n ih =>
    intro l acc h x e
    match l, h with
    | [], _ => cases e
    | c :: r, h =>
      rw [List.length_cons] at h ⊢
      rw [quo_cons] at e
      by_cases h1 : c = 92
      · rw [if_pos h1] at e
        match r, h, e with
        | [], _, e => cases e
        | d :: r', h, e =>
          rw [List.length_cons] at h ⊢
          have := ih r' _ (by omega) x e
          rw [List.length_append] at this
          simp at this
          omega
      rw [if_neg h1] at e
      by_cases h2 : c = 34
      · rw [if_pos h2] at e; rw [← Option.some.inj e]; show acc.length + r.length ≤ _; omega
      · rw [if_neg h2] at e
        have := ih r _ (by omega) x e
        rw [List.length_append] at this
        simp at this
        omega
theorem pv_size : ∀ (n : Nat) (l : List UInt8) (st : Bool) (ct : List UInt8) (al : Bool), l.length ≤ n → ∀ x, pv st ct al none l = some x → x.2.1.length ≤ ct.length + l.length := by
  intro n
  induction n with
  | zero =>
    intro l st ct al h x e
    match l, h with
    | [], _ => rw [← Option.some.inj e]; exact Nat.le_add_right _ _
  | succ n ih =>
    intro l st ct al h x e
    match l, h with
    | [], _ => rw [← Option.some.inj e]; exact Nat.le_add_right _ _
    | c :: r, h =>
      rw [List.length_cons] at h ⊢
      rw [pv_none] at e
      by_cases h1 : pvStop c = true
      · rw [if_pos h1] at e; rw [← Option.some.inj e]; exact Nat.le_add_right _ _
      rw [if_neg h1] at e
      by_cases h2 : c = 34
      · rw [if_pos h2, pv_quo _ _ _ _ _ _ _ (Nat.le_refl _)] at e
        obtain ⟨y, hy, e⟩ := bind_some e
        have h3 := quo_size _ _ _ (Nat.le_refl _) y hy
        have h4 := quo_len _ _ _ (Nat.le_refl _) y hy
        have h5 := ih y.2 true y.1 _ (by omega) x e
        have h6 := quo_both _ _ _ (Nat.le_refl _) y hy
        simp at h6
        omega
      · rw [if_neg h2] at e
        have := ih r _ _ _ (by omega) x e
        omega
theorem pval_size {s : ByteArray} {i j : Nat} {x : List UInt8} (h : pval (rest s i) = some (x, rest s j)) (hs : s.size ≤ 2097152) : x.length ≤ 2097152 := by
  unfold pval at h
  obtain ⟨y, hy, h⟩ := bind_some h
  have h1 := pv_size _ _ _ _ _ (Nat.le_refl _) y hy
  rw [rest_length] at h1
  by_cases h2 : y.1 = true
  · rw [if_pos h2] at h
    have h3 := congrArg Prod.fst (Option.some.inj h)
    simp only at h3
    rw [← h3]
    by_cases h4 : y.2.2.1 = true
    · rw [if_pos h4]; simp at h1; omega
    · rw [if_neg h4]
      unfold cut
      rw [List.length_take, rest_length]
      omega
  · rw [if_neg h2] at h; cases h

set_option maxHeartbeats 8000000 in
set_option maxRecDepth 20000 in
theorem property_any (F : Interp) (R : Nat) (s : ByteArray) (i M : Nat) (ps : Props) (w : World) (hF : F.answers w.tape) (h : Rd w R s i) (hi : i ≤ s.size) (hs : s.size ≤ 2097152) (hM : MapAt w M ps) (hRM : R ≠ M) (hps : ps.length ≤ 2097152) :
    Calls Tryf.prog 27 #[.pointer (some ⟨R, 0, none⟩), .map (some M)] w (PrPost w R s i M ps) := by
  have HR : Hid (Rd w R s i) := hideP h
  have HF : Hid (F.answers w.tape) := hideP hF
  have HMap := hideP hM
  clear hF h hM
  go_enter Tryf.func27, Tryf.ntmps27
  go_wp2_with (go_at_call 25; refine (keyword_is R s i _ (by exact HR.out) hi hs).mono ?_)
  rintro e w1 ⟨j1, h01, hj1, hdw, rfl, hm⟩
  have HM1 := hideP hm
  have HF1 : Hid (F.answers w1.tape) := hideP (answers_grown HF.out hm.grown)
  have hK1 : (kw (rest s i)).length ≤ 2097152 := Nat.le_trans (kw_len _) (by rw [rest_length]; omega)
  clear hm
  by_cases hk : kw (rest s i) = []
  · have HP := hideP (prop_none ps hk)
    rw [hk]
    clear hk
    go_wp2_with (go_at_call 16; refine (unexpected_any F R s _ j1 _ (by exact HF1.out) (by exact HM1.out.rd)).mono ?_; rintro e w2 ⟨v, rfl, hv⟩)
    go_ret
    exact Or.inr ⟨HP.out, v, rfl, hv.1, Grown2.of _ (HM1.out.grown.trans hv.2)⟩
  · have HP : Hid (prop ps (rest s i) = (space (rest s j1)).bind (stepB ps (kw (rest s i)))) := hideP (by rw [prop_some ps hk, hdw])
    clear hdw
    generalize kw (rest s i) = K1 at hk hK1 HP ⊢
    have hke : K1.isEmpty = false := by cases K1 with | nil => exact absurd rfl hk | cons a r => rfl
    clear hk
    go_wp2_with (go_at_call 8; refine (space_any F R s j1 _ (by exact HF1.out) (by exact HM1.out.rd) hj1 hs).mono ?_)
    rintro e w2 (⟨j2, h12, hj2, hq, rfl, hm⟩ | ⟨hq, v, rfl, hv, hg⟩)
    · have HM2 : Hid (Moved w w2 R s j2) := hideP (HM1.out.trans hm)
      have HF2 : Hid (F.answers w2.tape) := hideP (answers_grown HF.out HM2.out.grown)
      have HP2 : Hid (prop ps (rest s i) = stepB ps K1 (rest s j2)) := hideP (by rw [HP.out, hq]; rfl)
      clear hm hq HP
      by_cases hdot : (rest s j2).head? = some 46
      · obtain ⟨hlt2, _⟩ := head_at hdot
        have t0 : (((nx (rest s j2)).toNat : Int) == 46) = true := eq_byte (n := 46) (by decide) ((nx_is (by decide)).mpr hdot)
        have HP3 : Hid (prop ps (rest s i) = (space (rest s (j2 + 1))).bind (stepC ps K1)) := hideP (by
          rw [HP2.out]
          unfold stepB
          rw [if_pos hdot, rest_cons s j2 hlt2]
          rfl)
        have g0 := HM2.out.rd.text
        have g1 := HM2.out.rd.pos
        have g2 := HM2.out.rd.free
        clear hdot HP2
        go_wp2_with (first | (go_at_call 14; refine (next_is R s j2 _ (by exact HM2.out.rd)).mono ?_; rintro e w3 ⟨rfl, m, hw⟩; have hw2 := hw.symm; subst hw2) | (go_at_call 8; refine (space_any F R s (j2 + 1) _ (by exact HF2.out) (by exact ((HM2.out.drewN _).step (j2 + 1)).rd) (by omega) hs).mono ?_))
        rintro e w4 (⟨j4, h24, hj4, hq, rfl, hm⟩ | ⟨hq, v, rfl, hv, hg⟩)
        · have HM4 : Hid (Moved w w4 R s j4) := hideP (((HM2.out.drewN _).step (j2 + 1)).trans hm)
          have HF4 : Hid (F.answers w4.tape) := hideP (answers_grown HF.out HM4.out.grown)
          have HP4 : Hid (prop ps (rest s i) = stepC ps K1 (rest s j4)) := hideP (by rw [HP3.out, hq]; rfl)
          clear hm hq HP3 g0 g1 g2
          go_wp2_with (go_at_call 25; refine (keyword_is R s j4 _ (by exact HM4.out.rd) hj4 hs).mono ?_)
          rintro e w5 ⟨j5, h45, hj5, hdw, rfl, hm⟩
          have HM5 : Hid (Moved w w5 R s j5) := hideP (HM4.out.trans hm)
          have HF5 : Hid (F.answers w5.tape) := hideP (answers_grown HF.out HM5.out.grown)
          have hK2 : (kw (rest s j4)).length ≤ 2097152 := Nat.le_trans (kw_len _) (by rw [rest_length]; omega)
          clear hm
          by_cases hk2 : kw (rest s j4) = []
          · have HP5 : Hid (prop ps (rest s i) = none) := hideP (by rw [HP4.out]; unfold stepC; rw [if_pos hk2])
            have tk : ¬ 9223372036854775807 < 31 + K1.length := by omega
            rw [hk2]
            clear hk2 hdw hK2
            go_wp2_with (go_at_call 16; refine (unexpected_any F R s _ j5 _ (by exact HF5.out) (by exact HM5.out.rd)).mono ?_; rintro e w6 ⟨v, rfl, hv⟩)
            go_ret
            exact Or.inr ⟨HP5.out, v, rfl, hv.1, Grown2.of _ (HM5.out.grown.trans hv.2)⟩
          · have HP5 : Hid (prop ps (rest s i) = (space (rest s j5)).bind (stepD ps (K1 ++ 46 :: kw (rest s j4)))) := hideP (by rw [HP4.out]; unfold stepC; rw [if_neg hk2, hdw])
            clear hdw HP4
            generalize kw (rest s j4) = K2 at hk2 hK2 HP5 ⊢
            have hke2 : K2.isEmpty = false := by cases K2 with | nil => exact absurd rfl hk2 | cons a r => rfl
            have tk1 : ¬ 9223372036854775807 < 1 + K2.length := by omega
            have tk2 : ¬ 9223372036854775807 < K1.length + (1 + K2.length) := by omega
            clear hk2
            go_wp2_with (go_at_call 8; refine (space_any F R s j5 _ (by exact HF5.out) (by exact HM5.out.rd) hj5 hs).mono ?_)
            generalize hkb : ((⟨K1.toArray⟩ : ByteArray) ++ ((⟨#[46]⟩ : ByteArray) ++ (⟨K2.toArray⟩ : ByteArray))) = kb
            have hkl : kb.data.toList = K1 ++ 46 :: K2 := by
              rw [← hkb, show (⟨#[46]⟩ : ByteArray) = ⟨([46] : List UInt8).toArray⟩ from rfl, bytes_app, bytes_app]; rfl
            have hks : kb.size ≤ 9000000 := by
              rw [show kb.size = kb.data.toList.length from by simp, hkl, List.length_append, List.length_cons]; omega
            have HP6 : Hid (prop ps (rest s i) = (space (rest s j5)).bind (stepD ps kb.data.toList)) := hideP (by rw [HP5.out, hkl])
            clear hkl hkb HP5 tk1 tk2 hke2 hK2
            rintro e w6 (⟨j6, h56, hj6, hq, rfl, hm⟩ | ⟨hq, v, rfl, hv, hg⟩)
            · have HM6 : Hid (Moved w w6 R s j6) := hideP (HM5.out.trans hm)
              have HF6 : Hid (F.answers w6.tape) := hideP (answers_grown HF.out HM6.out.grown)
              have HP7 : Hid (prop ps (rest s i) = stepD ps kb.data.toList (rest s j6)) := hideP (by rw [HP6.out, hq]; rfl)
              clear hm hq HP6
              go_wp2_with (go_at_call 26; refine (equals_any F R s kb j6 _ (by exact HF6.out) (by exact HM6.out.rd) hs hks).mono ?_)
              rintro e w7 (⟨j7, h67, hj7, hq, rfl, hm⟩ | ⟨hq, v, rfl, hv, hg⟩)
              · have HM7 : Hid (Moved w w7 R s j7) := hideP (HM6.out.trans hm)
                have HF7 : Hid (F.answers w7.tape) := hideP (answers_grown HF.out HM7.out.grown)
                have HP8 : Hid (prop ps (rest s i) = (pval (rest s j7)).bind fun x => if (ps.map (·.1)).contains kb.data.toList = true then none else some (ps ++ [(kb.data.toList, x.1)], x.2)) := hideP (by rw [HP7.out]; unfold stepD; rw [hq]; rfl)
                clear hm hq HP7
                go_wp2_with (go_at_call 32; refine (pvalue_any F R s j7 _ (by exact HF7.out) (by exact HM7.out.rd) hj7 hs).mono ?_)
                rintro e w8 (⟨j8, x, h78, hj8, hq, rfl, hm⟩ | ⟨hq, v, rfl, hv, hg⟩)
                · have HM8 : Hid (Moved w w8 R s j8) := hideP (HM7.out.trans hm)
                  have HF8 : Hid (F.answers w8.tape) := hideP (answers_grown HF.out HM8.out.grown)
                  have HP9 : Hid (prop ps (rest s i) = if (ps.map (·.1)).contains kb.data.toList = true then none else some (ps ++ [(kb.data.toList, x)], rest s j8)) := hideP (by rw [HP8.out, hq]; rfl)
                  have HMap8 : Hid (MapAt w8 M ps) := hideP (HMap.out.kept HM8.out.grown (by simpa using hRM.symm))
                  have hx : x.length ≤ 2097152 := pval_size hq hs
                  clear hm hq HP8
                  obtain ⟨vv, hlk⟩ := map_look HMap8.out kb (by unfold maxLen; omega)
                  cases hcon : (ps.map (·.1)).contains kb.data.toList with
                  | true =>
                    rw [hcon] at hlk
                    have HPe : Hid (prop ps (rest s i) = none) := hideP (by rw [HP9.out, hcon, if_pos rfl])
                    clear hcon HP9
                    go_wp2_with (go_at_call 10; refine (errorf_twice F kb _ _ (by exact HF8.out) (alloc_cell _ _ 0 _ _ rfl)).mono ?_; rintro e w9 ⟨v, rfl, hv, hb⟩)
                    go_ret
                    exact Or.inr ⟨HPe.out, v, rfl, hv, Grown2.of _ (grown_below (B := w8.heap.size) HM8.out.grown HM8.out.grown.size (((Below.refl _ _).alloc (Nat.le_refl _) _).trans (hb.mono (by simp))))⟩
                  | false =>
                    rw [hcon] at hlk
                    have HPe : Hid (prop ps (rest s i) = some (ps ++ [(kb.data.toList, x)], rest s j8)) := hideP (by rw [HP9.out, hcon, if_neg (by decide)])
                    obtain ⟨w9, hup, hmap9, hgr9⟩ := map_put HMap8.out (by unfold maxLen; omega) kb ⟨x.toArray⟩ (by unfold maxLen; omega) (by rw [bytes_len]; unfold maxLen; omega)
                    have Hmap9 := hideP hmap9
                    have Hgr9 := hideP hgr9
                    clear hcon HP9 hmap9 hgr9
                    go_wp2_with fail
                    go_ret
                    exact Or.inl ⟨j8, _, by omega, hj8, HPe.out, rfl, Hmap9.out, HM8.out.rd.grown (by simpa using hRM) Hgr9.out, Grown2.and HM8.out.grown Hgr9.out⟩
                · obtain ⟨b, t, rfl, hb, hcell⟩ := id hv
                  have HP9 : Hid (prop ps (rest s i) = none) := hideP (by rw [HP8.out, hq]; rfl)
                  clear hq
                  go_wp2_with fail
                  go_ret
                  exact Or.inr ⟨HP9.out, _, rfl, hv, Grown2.of _ (HM7.out.grown.trans hg)⟩
              · obtain ⟨b, t, rfl, hb, hcell⟩ := id hv
                have HP9 : Hid (prop ps (rest s i) = none) := hideP (by rw [HP7.out]; unfold stepD; rw [hq]; rfl)
                clear hq
                go_wp2_with fail
                go_ret
                exact Or.inr ⟨HP9.out, _, rfl, hv, Grown2.of _ (HM6.out.grown.trans hg)⟩
            · obtain ⟨b, t, rfl, hb, hcell⟩ := id hv
              have HP9 : Hid (prop ps (rest s i) = none) := hideP (by rw [HP6.out, hq]; rfl)
              clear hq
              go_wp2_with fail
              go_ret
              exact Or.inr ⟨HP9.out, _, rfl, hv, Grown2.of _ (HM5.out.grown.trans hg)⟩
        · obtain ⟨b, t, rfl, hb, hcell⟩ := id hv
          have HP9 : Hid (prop ps (rest s i) = none) := hideP (by rw [HP3.out, hq]; rfl)
          clear hq
          go_wp2_with fail
          go_ret
          exact Or.inr ⟨HP9.out, _, rfl, hv, Grown2.of _ (((HM2.out.drewN _).step (j2 + 1)).grown.trans hg)⟩
      · have t0 : (((nx (rest s j2)).toNat : Int) == 46) = false := ne_byte (n := 46) (fun e => hdot ((nx_is (by decide)).mp e))
        have HP3 : Hid (prop ps (rest s i) = stepU ps (rest s j2)) := hideP (by
          rw [HP2.out]
          unfold stepB
          rw [if_neg hdot])
        clear hdot HP2
        go_wp2_with (first | (go_at_call 14; refine (next_is R s j2 _ (by exact HM2.out.rd)).mono ?_; rintro e w3 ⟨rfl, m, hw⟩; have hw2 := hw.symm; subst hw2) | (go_at_call 26; refine (equals_any F R s _ j2 _ (by exact HF2.out) (by exact (HM2.out.drewN _).rd) hs (by rw [bytes_len]; omega)).mono ?_))
        rintro e w7 (⟨j7, h67, hj7, hq, rfl, hm⟩ | ⟨hq, v, rfl, hv, hg⟩)
        · have HM7 : Hid (Moved w w7 R s j7) := hideP ((HM2.out.drewN _).trans hm)
          have HF7 : Hid (F.answers w7.tape) := hideP (answers_grown HF.out HM7.out.grown)
          have HP8 : Hid (prop ps (rest s i) = (pval (rest s j7)).bind fun x => some (ps, x.2)) := hideP (by rw [HP3.out]; unfold stepU; rw [hq]; rfl)
          clear hm hq HP3
          go_wp2_with (go_at_call 32; refine (pvalue_any F R s j7 _ (by exact HF7.out) (by exact HM7.out.rd) hj7 hs).mono ?_)
          rintro e w8 (⟨j8, x, h78, hj8, hq, rfl, hm⟩ | ⟨hq, v, rfl, hv, hg⟩)
          · have HM8 : Hid (Moved w w8 R s j8) := hideP (HM7.out.trans hm)
            have HPe : Hid (prop ps (rest s i) = some (ps, rest s j8)) := hideP (by rw [HP8.out, hq]; rfl)
            clear hm hq
            go_wp2_with fail
            go_ret
            exact Or.inl ⟨j8, ps, by omega, hj8, HPe.out, rfl, HMap.out.kept HM8.out.grown (by simpa using hRM.symm), HM8.out.rd, Grown2.of _ HM8.out.grown⟩
          · obtain ⟨b, t, rfl, hb, hcell⟩ := id hv
            have HP9 : Hid (prop ps (rest s i) = none) := hideP (by rw [HP8.out, hq]; rfl)
            clear hq
            go_wp2_with fail
            go_ret
            exact Or.inr ⟨HP9.out, _, rfl, hv, Grown2.of _ (HM7.out.grown.trans hg)⟩
        · obtain ⟨b, t, rfl, hb, hcell⟩ := id hv
          have HP9 : Hid (prop ps (rest s i) = none) := hideP (by rw [HP3.out]; unfold stepU; rw [hq]; rfl)
          clear hq
          go_wp2_with fail
          go_ret
          exact Or.inr ⟨HP9.out, _, rfl, hv, Grown2.of _ ((HM2.out.drewN _).grown.trans hg)⟩
    · obtain ⟨b, t, rfl, hb, hcell⟩ := id hv
      have HP9 : Hid (prop ps (rest s i) = none) := hideP (by rw [HP.out, hq]; rfl)
      clear hq
      go_wp2_with fail
      go_ret
      exact Or.inr ⟨HP9.out, _, rfl, hv, Grown2.of _ (HM1.out.grown.trans hg)⟩
end Go.Proofs.Qxb6614847aFmt
