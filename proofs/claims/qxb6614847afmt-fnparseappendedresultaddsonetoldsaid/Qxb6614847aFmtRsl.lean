/-
  The walk of results, over whatever contract result keeps.
-/
import Derived.Test.Qxb6614847aFmtMem
namespace Go.Proofs.Qxb6614847aFmt
open Go.RowKit Go.Extern.Stop Go.Stop Go.Extern Go.Maps

/-- result's end: a result with its map; none; an error. -/
def RPost (Fu : Nat) (w : World) (R : Nat) (s : ByteArray) (i : Nat) (e : Ending) (w' : World) : Prop :=
  (∃ j r M, i ≤ j ∧ j ≤ s.size ∧ result Fu (rest s i) = some (some r, rest s j) ∧ e = .returned (.tuple #[.agg #[.string ⟨r.1.toArray⟩, .string ⟨r.2.1.toArray⟩, .map (some M)], .bool false, .nilIface]) ∧ MapAt w' M r.2.2 ∧ w.heap.size ≤ M ∧ Moved w w' R s j) ∨
  (∃ j, i ≤ j ∧ j ≤ s.size ∧ result Fu (rest s i) = some (none, rest s j) ∧ e = .returned (.tuple #[.agg #[.string ⟨#[]⟩, .string ⟨#[]⟩, .map none], .bool true, .nilIface]) ∧ Moved w w' R s j) ∨
  (result Fu (rest s i) = none ∧ ∃ v, e = .returned (.tuple #[.agg #[.string ⟨#[]⟩, .string ⟨#[]⟩, .map none], .bool false, v]) ∧ Bad w R v w')
/-- result keeps its contract wherever results calls it. -/
def Kept (F : Interp) (Fu R : Nat) (s : ByteArray) : Prop := ∀ j i w, (rest s j).head? = some 59 → space (rest s (j + 1)) = some (rest s i) → i ≤ s.size → Rd w R s i → F.answers w.tape → Calls Tryf.prog 21 #[.pointer (some ⟨R, 0, none⟩)] w (RPost Fu w R s i)
/-- results' end. -/
def RsPost (Fu n : Nat) (w : World) (R : Nat) (s : ByteArray) (i : Nat) (e : Ending) (w' : World) : Prop :=
  (∃ acc Ms sv, allRes Fu n (rest s i) = some acc ∧ e = .returned (.tuple #[sv, .nilIface]) ∧ RowsAt w.heap.size w' sv acc Ms ∧ w.grownBy w' (some R)) ∨
  (allRes Fu n (rest s i) = none ∧ ∃ v, e = .returned (.tuple #[.slice none 0 0, v]) ∧ Bad w R v w')
theorem results_nil (Fu n : Nat) (acc : List Res) : results Fu (n + 1) acc [] = some acc := rfl
theorem results_odd (Fu n : Nat) (acc : List Res) {s : ByteArray} {k : Nat} (h : k < s.size) (hc : ¬ s[k] = 59) : results Fu (n + 1) acc (rest s k) = none := by
  rw [rest_cons s k h]
  show (if s[k] :: rest s (k + 1) = [] then _ else if some s[k] = some 59 then _ else none) = none
  rw [if_neg (by simp), if_neg (by simpa using hc)]
theorem results_sep (Fu n : Nat) (acc : List Res) {s : ByteArray} {k : Nat} (h : k < s.size) (hc : s[k] = 59) : results Fu (n + 1) acc (rest s k) = (space (rest s (k + 1))).bind fun l1 => if stopL l1 = true then results Fu n acc l1 else (result Fu l1).bind fun x => results Fu n (acc ++ x.1.toList) x.2 := by
  rw [rest_cons s k h]
  show (if s[k] :: rest s (k + 1) = [] then _ else if some s[k] = some 59 then _ else none) = _
  rw [if_neg (by simp), if_pos (by rw [hc])]
  rfl
theorem stop_end {s : ByteArray} {j : Nat} (h : s.size ≤ j) : stopL (rest s j) = true := by rw [rest_end s j h]; rfl
theorem stop_sep {s : ByteArray} {j : Nat} (h : (rest s j).head? = some 59) : stopL (rest s j) = true := by unfold stopL; rw [h]; simp
theorem stop_no {s : ByteArray} {j : Nat} (h : j < s.size) (hc : ¬ (rest s j).head? = some 59) : stopL (rest s j) = false := by
  unfold stopL
  rw [rest_cons s j h] at hc ⊢
  simp at hc ⊢
  exact hc
theorem dig_head (l : List UInt8) : (l.head?.map digB).getD false = digB (nx l) := by
  unfold nx
  cases l.head? with
  | none => rfl
  | some c => rfl
theorem all_off {Fu n : Nat} {l : List UInt8} (h : space l = none) : allRes Fu n l = none := by unfold allRes; rw [h]; rfl
theorem all_plain {Fu n : Nat} {l l1 : List UInt8} (h : space l = some l1) (hd : digB (nx l1) = false) : allRes Fu n l = results Fu n [] l1 := by
  unfold allRes
  rw [h]
  show ((if (l1.head?.map digB).getD false = true then _ else some l1).bind _) = _
  rw [dig_head, hd, if_neg (by decide)]
  rfl
theorem all_digits {Fu n : Nat} {l l1 : List UInt8} (h : space l = some l1) (hd : digB (nx l1) = true) : allRes Fu n l = (space (l1.dropWhile digB)).bind fun l2 => results Fu n [] l2 := by
  unfold allRes
  rw [h]
  show ((if (l1.head?.map digB).getD false = true then _ else some l1).bind _) = _
  rw [dig_head, hd, if_pos rfl]
theorem fresh3 (w : World) (cs : List Value) (t : TypeId) {N : Nat} (hN : N = w.heap.size) : ∀ (j : Nat) (u : Value), cs[j]? = some u → (w.alloc (.cells cs.toArray t)).cell? ((⟨N, 0, none⟩ : Addr).add j) = some u := by
  intro j u h
  have hadd : (⟨N, 0, none⟩ : Addr).add j = ⟨N, j, none⟩ := by unfold Addr.add; split <;> simp_all
  rw [hadd, alloc_cell _ _ j _ _ hN]
  simpa using h
theorem cells3_one (r : Res) (M : Nat) : ∀ u ∈ cells3 r M, u.oneCell' = true := by
  intro u h
  unfold cells3 at h
  simp only [List.mem_cons, List.not_mem_nil, or_false] at h
  rcases h with rfl | rfl | rfl <;> rfl
theorem Moved.appended {w w2 w3 : World} {R : Nat} {s : ByteArray} {q : Nat} {o1 o2 : Obj} {row : Option Nat} (h : Moved w w2 R s q) (hR : R < w.heap.size) (hg : ((w2.alloc o1).alloc o2).grownBy w3 row) (hr : ∀ k, row = some k → w.heap.size ≤ k) : Moved w w3 R s q := by
  have h2 := (h.below hR (Nat.le_refl _) ((Below.refl _ _).alloc h.grown.size o1))
  have h3 := (h2.below hR (Nat.le_refl _) ((Below.refl _ _).alloc h2.grown.size o2))
  refine ⟨h3.rd.grown (fun e => ?_) hg, h3.grown.andThen hg (fun j e => Or.inl (hr j e))⟩
  have := hr R e.symm
  omega
theorem grown_weak {w : World} {n : Nat} : w.grownBy (w.drewN n) none := ⟨rfl, rfl, rfl, Nat.le_refl _, fun _ _ _ => rfl⟩

set_option maxHeartbeats 8000000 in
set_option maxRecDepth 20000 in
theorem results_any (F : Interp) (Fu n R : Nat) (s : ByteArray) (i : Nat) (w : World) (hF : F.answers w.tape) (h : Rd w R s i) (hi : i ≤ s.size) (hs : s.size ≤ 2097152) (hn : s.size < n) (hK : Kept F Fu R s) :
    Calls Tryf.prog 11 #[.pointer (some ⟨R, 0, none⟩)] w (RsPost Fu n w R s i) := by
  have HR : Hid (Rd w R s i) := hideP h
  have HF : Hid (F.answers w.tape) := hideP hF
  have HK : Hid (Kept F Fu R s) := hideP hK
  have hlt := h.lt
  clear hF hK h
  go_enter Tryf.func11, Tryf.ntmps11
  go_wp2_with (go_at_call 8; refine (space_any F R s i _ (by exact HF.out) (by exact HR.out) hi hs).mono ?_)
  rintro e w1 (⟨i1, hi1, hi2, hq, rfl, hm⟩ | ⟨hq, v, rfl, hv, hg⟩)
  · have HM1 := hideP hm
    have HF1 : Hid (F.answers w1.tape) := hideP (answers_grown HF.out hm.grown)
    have h0 := HM1.out.rd.text
    have h1 := HM1.out.rd.pos
    have h2 := HM1.out.rd.free
    cases hd : digB (nx (rest s i1)) with
    | false =>
      have Hd := hideP hd
      have HA := hideP (all_plain (Fu := Fu) (n := n) hq hd)
      clear hd hq hm
      go_wp2_with (first | (go_at_call 14; refine (next_is R s i1 _ (by exact HM1.out.rd)).mono ?_; rintro e w2 ⟨rfl, m, hw⟩; have hw2 := hw.symm; subst hw2) | (go_at_call 19; refine (isDigit_is _ false Hd.out _).mono ?_; rintro e w3 ⟨rfl, hw⟩; have hw2 := hw.symm; subst hw2))
      clear h0 h1 h2
      go_loopw [6] (fun sv wr => ∃ (k n' : Nat) (acc : List Res) (Ms : List Nat), k ≤ s.size ∧ acc.length ≤ k ∧ s.size - k < n' ∧ Hid (allRes Fu n (rest s i) = results Fu n' acc (rest s k)) ∧ Hid (RowsAt w.heap.size wr sv acc Ms) ∧ Hid (Moved w wr R s k)) (fun _ wr => s.size - posAt R wr)
      case atStart => exact ⟨i1, n, [], [], hi2, Nat.zero_le _, by omega, HA, hideP (RowsAt.nil _ _), hideP (HM1.out.drewN _)⟩
      case round =>
        obtain ⟨k, n', acc, Ms, hk, hacc, hn', HQ, HRw, HM⟩ := hrel
        have g0 := HM.out.rd.text
        have g1 := HM.out.rd.pos
        have g2 := HM.out.rd.free
        have meas : ∀ k' w', k < k' → k < s.size → Hid (Moved w w' R s k') → s.size - posAt R w' < s.size - posAt R wr := fun k' w' hkk hks Hm => by
          rw [posAt_rd Hm.out.rd, posAt_rd HM.out.rd]; omega
        have HFr : Hid (F.answers wr.tape) := hideP (answers_grown HF.out HM.out.grown)
        obtain ⟨n', rfl⟩ : ∃ n2, n' = n2 + 1 := ⟨n' - 1, by omega⟩
        by_cases hlt2 : k < s.size
        · have ht : (k : Int) < (s.size : Int) := by omega
          by_cases hc : s[k] = 59
          · have hhd : (rest s k).head? = some 59 := by rw [rest_cons s k hlt2, hc]; rfl
            have t0 : (((nx (rest s k)).toNat : Int) == 59) = true := eq_byte (n := 59) (by decide) ((nx_is (by decide)).mpr hhd)
            have HE := hideP (results_sep Fu n' acc hlt2 hc)
            have Hhd := hideP hhd
            clear hc hhd
            go_wp2_with fail
            go_quiet (fail)
            go_wp2_with (first | (go_at_call 14; refine (next_is R s k _ (by exact (HM.out.drewN _).rd)).mono ?_; rintro e w1 ⟨rfl, m, hw⟩; have hw2 := hw.symm; subst hw2) | (go_at_call 8; refine (space_any F R s (k + 1) _ (by exact HFr.out) (by exact ((HM.out.drewN _).step (k + 1)).rd) (by omega) hs).mono ?_))
            rintro e w1 (⟨j, hkj, hj, hq, rfl, hm⟩ | ⟨hq, v, rfl, hv, hg⟩)
            · have HM1 : Hid (Moved w w1 R s j) := hideP (((HM.out.drewN _).step (k + 1)).trans hm)
              have HR1 : Hid (RowsAt w.heap.size w1 _ acc Ms) := hideP (HRw.out.kept (row := some R) (((Moved.refl HM.out.rd).drewN _).step (k + 1) |>.trans hm).grown (fun x e => by cases e; exact hlt))
              have HQ1 := hideP hq
              have l0 := HM1.out.rd.text
              have l1 := HM1.out.rd.pos
              have l2 := HM1.out.rd.free
              have HF1 : Hid (F.answers w1.tape) := hideP (answers_grown HF.out HM1.out.grown)
              clear hm hq g0 g1 g2
              by_cases hje : j = s.size
              · have te : ((j : Int) == (s.size : Int)) = true := by rw [beq_iff_eq]; omega
                have HG : Hid (allRes Fu n (rest s i) = results Fu n' acc (rest s j)) := hideP (by rw [HQ.out, HE.out, HQ1.out]; show (if stopL _ = true then _ else _) = _; rw [if_pos (stop_end (by omega))])
                go_wp2_with fail
                go_quiet (fail)
                go_wp2_with fail
                go_roundw
                case rel => exact ⟨j, n', acc, Ms, hj, by omega, by omega, HG, hideP (HR1.out.kept (row := none) grown_weak (fun _ e => nomatch e)), hideP (HM1.out.drewN _)⟩
                case measure => exact meas j _ (by omega) hlt2 (hideP (HM1.out.drewN _))
              have hjl : j < s.size := by omega
              have te : ((j : Int) == (s.size : Int)) = false := by simpa using fun e => hje (by omega)
              by_cases hj59 : (rest s j).head? = some 59
              · have t1 : (((nx (rest s j)).toNat : Int) == 59) = true := eq_byte (n := 59) (by decide) ((nx_is (by decide)).mpr hj59)
                have HG : Hid (allRes Fu n (rest s i) = results Fu n' acc (rest s j)) := hideP (by rw [HQ.out, HE.out, HQ1.out]; show (if stopL _ = true then _ else _) = _; rw [if_pos (stop_sep hj59)])
                clear hj59
                go_wp2_with fail
                go_quiet ((go_at_call 14; refine Calls.quiet_of (next_is R s j _ ?_); exact ((Moved.refl HM1.out.rd).drewN _).rd))
                go_wp2_with fail
                go_roundw
                case rel => exact ⟨j, n', acc, Ms, hj, by omega, by omega, HG, hideP (HR1.out.kept (row := none) grown_weak (fun _ e => nomatch e)), hideP (HM1.out.drewN _)⟩
                case measure => exact meas j _ (by omega) hlt2 (hideP (HM1.out.drewN _))
              have t1 : (((nx (rest s j)).toNat : Int) == 59) = false := ne_byte (n := 59) (fun e => hj59 ((nx_is (by decide)).mp e))
              have HG : Hid (allRes Fu n (rest s i) = (result Fu (rest s j)).bind fun x => results Fu n' (acc ++ x.1.toList) x.2) := hideP (by rw [HQ.out, HE.out, HQ1.out]; show (if stopL _ = true then _ else _) = _; rw [if_neg (by rw [stop_no hjl hj59]; decide)])
              clear hj59
              go_wp2_with fail
              go_quiet ((go_at_call 14; refine Calls.quiet_of (next_is R s j _ ?_); exact ((Moved.refl HM1.out.rd).drewN _).rd))
              go_wp2_with (go_at_call 21; refine (HK.out k j _ Hhd.out HQ1.out hj (by exact ((Moved.refl HM1.out.rd).drewN _).rd) (by exact HF1.out)).mono ?_)
              rintro e w2 (⟨q, r, M, hjq, hq, hres, rfl, hMap, hMb, hm⟩ | ⟨q, hjq, hq, hres, rfl, hm⟩ | ⟨hres, v, rfl, hv, hg⟩)
              · have HM2 : Hid (Moved w w2 R s q) := hideP ((HM1.out.drewN _).trans hm)
                have HR2 : Hid (RowsAt w.heap.size w2 _ acc Ms) := hideP (HR1.out.kept (row := some R) (((Moved.refl HM1.out.rd).drewN _).grown.trans hm.grown) (fun x e => by cases e; exact hlt))
                have HMap := hideP hMap
                have hMb2 : w.heap.size ≤ M := Nat.le_trans HM1.out.grown.size hMb
                have HG2 : Hid (allRes Fu n (rest s i) = results Fu n' (acc ++ [r]) (rest s q)) := hideP (by rw [HG.out, hres]; rfl)
                obtain ⟨i0, hi0, hz0, hz1, hz2⟩ := info_parts Tryf.info34
                clear hm hMap hMb hres l0 l1 l2
                go_wp2_with (at_builtin; refine wpList_append_own _ rfl _ _ 23 rfl w.heap.size 34 i0 _ 3 40 Tryf.underlying23 hi0 hz0 hz1 hz2 rfl (by decide) _ acc.length (flat acc Ms) rfl ?r1 ⟨w2.heap.size + 1, 0, none⟩ 1 1 (cells3 r M) rfl rfl ?c1 ?c2 ?c3 ?c4 ?c5 ?_)
                case r1 => exact ((HR2.out.kept (World.grownBy_alloc _ _ none) (fun _ e => nomatch e)).kept (World.grownBy_alloc _ _ none) (fun _ e => nomatch e)).row
                case c1 => exact fresh3 _ (cells3 r M) 34 (by simp)
                case c2 => exact cells3_one r M
                case c3 => unfold maxLen; omega
                case c4 => omega
                case c5 => rw [World.size_alloc, World.size_alloc]; have := HM2.out.grown.size; omega
                intro v' w3 hown hgrow _
                have HM3 : Hid (Moved w w3 R s q) := hideP (HM2.out.appended hlt hgrow (fun x e => (HR2.out.row.lt x e).1))
                have HR3 : Hid (RowsAt w.heap.size w3 v' (acc ++ [r]) (Ms ++ [M])) := hideP (RowsAt.append ((HR2.out.kept (World.grownBy_alloc _ _ none) (fun _ e => nomatch e)).kept (World.grownBy_alloc _ _ none) (fun _ e => nomatch e)) ((HMap.out.kept (World.grownBy_alloc _ _ none) (by simp)).kept (World.grownBy_alloc _ _ none) (by simp)) hMb2 hgrow hown)
                clear hown hgrow
                go_wp2_with fail
                go_roundw
                case rel => exact ⟨q, n', acc ++ [r], Ms ++ [M], hq, by rw [List.length_append]; show acc.length + 1 ≤ q; omega, by omega, HG2, HR3, HM3⟩
                case measure => exact meas q _ (by omega) hlt2 HM3
              · have HM2 : Hid (Moved w w2 R s q) := hideP ((HM1.out.drewN _).trans hm)
                have HR2 : Hid (RowsAt w.heap.size w2 _ acc Ms) := hideP (HR1.out.kept (row := some R) (((Moved.refl HM1.out.rd).drewN _).grown.trans hm.grown) (fun x e => by cases e; exact hlt))
                have HG2 : Hid (allRes Fu n (rest s i) = results Fu n' acc (rest s q)) := hideP (by rw [HG.out, hres]; show results Fu n' (acc ++ []) _ = _; rw [List.append_nil])
                clear hm hres l0 l1 l2
                go_wp2_with fail
                go_roundw
                case rel => exact ⟨q, n', acc, Ms, hq, by omega, by omega, HG2, hideP (HR2.out.kept (World.grownBy_alloc _ _ none) (fun _ e => nomatch e)), hideP (HM2.out.below hlt (Nat.le_refl _) ((Below.refl _ _).alloc HM2.out.grown.size _))⟩
                case measure => exact meas q _ (by omega) hlt2 (hideP (HM2.out.below hlt (Nat.le_refl _) ((Below.refl _ _).alloc HM2.out.grown.size _)))
              · obtain ⟨b, t, rfl, hb, hcell⟩ := id hv
                have HB : Hid (w.grownBy w2 (some R)) := hideP ((HM1.out.drewN _).grown.trans hg)
                have HG2 : Hid (allRes Fu n (rest s i) = none) := hideP (by rw [HG.out, hres]; rfl)
                clear hres l0 l1 l2 hg
                go_wp2_with fail
                go_returns
                exact Or.inr ⟨HG2.out, _, rfl, ⟨b, t, rfl, by rw [World.size_alloc]; omega, ((Below.refl w2.heap.size w2).alloc (Nat.le_refl _) _).cell hb |>.trans hcell⟩, HB.out.trans (World.grownBy_alloc _ _ _)⟩
            · obtain ⟨b, t, rfl, hb, hcell⟩ := id hv
              go_wp2_with fail
              go_returns
              exact Or.inr ⟨by rw [HQ.out, HE.out, hq]; rfl, _, rfl, hv, ((HM.out.drewN _).step (k + 1)).grown.trans hg⟩
          · have t0 : (((nx (rest s k)).toNat : Int) == 59) = false := ne_byte (n := 59) (fun e => hc (by rw [rest_cons s k hlt2] at e; exact e))
            have HE := hideP (results_odd Fu n' acc hlt2 hc)
            clear hc
            go_wp2_with fail
            go_quiet (fail)
            go_wp2_with (first | (go_at_call 14; refine (next_is R s k _ (by exact (HM.out.drewN _).rd)).mono ?_; rintro e w1 ⟨rfl, m, hw⟩; have hw2 := hw.symm; subst hw2) | (go_at_call 16; refine (unexpected_any F R s _ k _ (by exact HFr.out) (by exact (HM.out.drewN _).rd)).mono ?_; rintro e w1 ⟨v, rfl, hv⟩))
            go_returns
            exact Or.inr ⟨HQ.out.trans HE.out, v, rfl, Bad.after (HM.out.drewN _).grown hv⟩
        · have ht : decide ((k : Int) < (s.size : Int)) = false := decide_eq_false (by omega)
          go_wp2_with fail
          go_quiet (fail)
          go_wp2_with fail
          go_returns
          exact Or.inl ⟨acc, Ms, _, HQ.out.trans (by rw [rest_end s k (by omega)]; rfl), rfl, HRw.out.kept (row := none) grown_weak (fun _ e => nomatch e), (HM.out.drewN _).grown⟩
    | true =>
      have Hd := hideP hd
      have HA := hideP (all_digits (Fu := Fu) (n := n) hq hd)
      clear hd hq hm
      go_wp2_with (first | (go_at_call 14; refine (next_is R s i1 _ (by exact HM1.out.rd)).mono ?_; rintro e w2 ⟨rfl, m, hw⟩; have hw2 := hw.symm; subst hw2) | (go_at_call 19; refine (isDigit_is _ true Hd.out _).mono ?_; rintro e w3 ⟨rfl, hw⟩; have hw2 := hw.symm; subst hw2) | (go_at_call 20; refine (digits_is R s i1 _ (by exact (HM1.out.drewN _).rd) hi2 hs).mono ?_))
      rintro e w4 ⟨i2, h12, hi3, hdw, rfl, hm2⟩
      have HM4 : Hid (Moved w w4 R s i2) := hideP ((HM1.out.drewN _).trans hm2)
      have HF4 : Hid (F.answers w4.tape) := hideP (answers_grown HF.out HM4.out.grown)
      clear hm2 h0 h1 h2
      go_wp2_with (go_at_call 8; refine (space_any F R s i2 _ (by exact HF4.out) (by exact HM4.out.rd) hi3 hs).mono ?_)
      rintro e w5 (⟨i3, h23, hi4, hq5, rfl, hm5⟩ | ⟨hq5, v, rfl, hv, hg⟩)
      · have HM5 : Hid (Moved w w5 R s i3) := hideP (HM4.out.trans hm5)
        have HA5 : Hid (allRes Fu n (rest s i) = results Fu n [] (rest s i3)) := hideP (by rw [HA.out, hdw, hq5]; rfl)
        have h0 := HM5.out.rd.text
        have h1 := HM5.out.rd.pos
        have h2 := HM5.out.rd.free
        clear hdw hq5 hm5
        go_wp2_with fail
        clear h0 h1 h2
        go_loopw [6] (fun sv wr => ∃ (k n' : Nat) (acc : List Res) (Ms : List Nat), k ≤ s.size ∧ acc.length ≤ k ∧ s.size - k < n' ∧ Hid (allRes Fu n (rest s i) = results Fu n' acc (rest s k)) ∧ Hid (RowsAt w.heap.size wr sv acc Ms) ∧ Hid (Moved w wr R s k)) (fun _ wr => s.size - posAt R wr)
        case atStart => exact ⟨i3, n, [], [], hi4, Nat.zero_le _, by omega, HA5, hideP (RowsAt.nil _ _), HM5⟩
        case round =>
          obtain ⟨k, n', acc, Ms, hk, hacc, hn', HQ, HRw, HM⟩ := hrel
          have g0 := HM.out.rd.text
          have g1 := HM.out.rd.pos
          have g2 := HM.out.rd.free
          have meas : ∀ k' w', k < k' → k < s.size → Hid (Moved w w' R s k') → s.size - posAt R w' < s.size - posAt R wr := fun k' w' hkk hks Hm => by
            rw [posAt_rd Hm.out.rd, posAt_rd HM.out.rd]; omega
          have HFr : Hid (F.answers wr.tape) := hideP (answers_grown HF.out HM.out.grown)
          obtain ⟨n', rfl⟩ : ∃ n2, n' = n2 + 1 := ⟨n' - 1, by omega⟩
          by_cases hlt2 : k < s.size
          · have ht : (k : Int) < (s.size : Int) := by omega
            by_cases hc : s[k] = 59
            · have hhd : (rest s k).head? = some 59 := by rw [rest_cons s k hlt2, hc]; rfl
              have t0 : (((nx (rest s k)).toNat : Int) == 59) = true := eq_byte (n := 59) (by decide) ((nx_is (by decide)).mpr hhd)
              have HE := hideP (results_sep Fu n' acc hlt2 hc)
              have Hhd := hideP hhd
              clear hc hhd
              go_wp2_with fail
              go_quiet (fail)
              go_wp2_with (first | (go_at_call 14; refine (next_is R s k _ (by exact (HM.out.drewN _).rd)).mono ?_; rintro e w1 ⟨rfl, m, hw⟩; have hw2 := hw.symm; subst hw2) | (go_at_call 8; refine (space_any F R s (k + 1) _ (by exact HFr.out) (by exact ((HM.out.drewN _).step (k + 1)).rd) (by omega) hs).mono ?_))
              rintro e w1 (⟨j, hkj, hj, hq, rfl, hm⟩ | ⟨hq, v, rfl, hv, hg⟩)
              · have HM1 : Hid (Moved w w1 R s j) := hideP (((HM.out.drewN _).step (k + 1)).trans hm)
                have HR1 : Hid (RowsAt w.heap.size w1 _ acc Ms) := hideP (HRw.out.kept (row := some R) (((Moved.refl HM.out.rd).drewN _).step (k + 1) |>.trans hm).grown (fun x e => by cases e; exact hlt))
                have HQ1 := hideP hq
                have l0 := HM1.out.rd.text
                have l1 := HM1.out.rd.pos
                have l2 := HM1.out.rd.free
                have HF1 : Hid (F.answers w1.tape) := hideP (answers_grown HF.out HM1.out.grown)
                clear hm hq g0 g1 g2
                by_cases hje : j = s.size
                · have te : ((j : Int) == (s.size : Int)) = true := by rw [beq_iff_eq]; omega
                  have HG : Hid (allRes Fu n (rest s i) = results Fu n' acc (rest s j)) := hideP (by rw [HQ.out, HE.out, HQ1.out]; show (if stopL _ = true then _ else _) = _; rw [if_pos (stop_end (by omega))])
                  go_wp2_with fail
                  go_quiet (fail)
                  go_wp2_with fail
                  go_roundw
                  case rel => exact ⟨j, n', acc, Ms, hj, by omega, by omega, HG, hideP (HR1.out.kept (row := none) grown_weak (fun _ e => nomatch e)), hideP (HM1.out.drewN _)⟩
                  case measure => exact meas j _ (by omega) hlt2 (hideP (HM1.out.drewN _))
                have hjl : j < s.size := by omega
                have te : ((j : Int) == (s.size : Int)) = false := by simpa using fun e => hje (by omega)
                by_cases hj59 : (rest s j).head? = some 59
                · have t1 : (((nx (rest s j)).toNat : Int) == 59) = true := eq_byte (n := 59) (by decide) ((nx_is (by decide)).mpr hj59)
                  have HG : Hid (allRes Fu n (rest s i) = results Fu n' acc (rest s j)) := hideP (by rw [HQ.out, HE.out, HQ1.out]; show (if stopL _ = true then _ else _) = _; rw [if_pos (stop_sep hj59)])
                  clear hj59
                  go_wp2_with fail
                  go_quiet ((go_at_call 14; refine Calls.quiet_of (next_is R s j _ ?_); exact ((Moved.refl HM1.out.rd).drewN _).rd))
                  go_wp2_with fail
                  go_roundw
                  case rel => exact ⟨j, n', acc, Ms, hj, by omega, by omega, HG, hideP (HR1.out.kept (row := none) grown_weak (fun _ e => nomatch e)), hideP (HM1.out.drewN _)⟩
                  case measure => exact meas j _ (by omega) hlt2 (hideP (HM1.out.drewN _))
                have t1 : (((nx (rest s j)).toNat : Int) == 59) = false := ne_byte (n := 59) (fun e => hj59 ((nx_is (by decide)).mp e))
                have HG : Hid (allRes Fu n (rest s i) = (result Fu (rest s j)).bind fun x => results Fu n' (acc ++ x.1.toList) x.2) := hideP (by rw [HQ.out, HE.out, HQ1.out]; show (if stopL _ = true then _ else _) = _; rw [if_neg (by rw [stop_no hjl hj59]; decide)])
                clear hj59
                go_wp2_with fail
                go_quiet ((go_at_call 14; refine Calls.quiet_of (next_is R s j _ ?_); exact ((Moved.refl HM1.out.rd).drewN _).rd))
                go_wp2_with (go_at_call 21; refine (HK.out k j _ Hhd.out HQ1.out hj (by exact ((Moved.refl HM1.out.rd).drewN _).rd) (by exact HF1.out)).mono ?_)
                rintro e w2 (⟨q, r, M, hjq, hq, hres, rfl, hMap, hMb, hm⟩ | ⟨q, hjq, hq, hres, rfl, hm⟩ | ⟨hres, v, rfl, hv, hg⟩)
                · have HM2 : Hid (Moved w w2 R s q) := hideP ((HM1.out.drewN _).trans hm)
                  have HR2 : Hid (RowsAt w.heap.size w2 _ acc Ms) := hideP (HR1.out.kept (row := some R) (((Moved.refl HM1.out.rd).drewN _).grown.trans hm.grown) (fun x e => by cases e; exact hlt))
                  have HMap := hideP hMap
                  have hMb2 : w.heap.size ≤ M := Nat.le_trans HM1.out.grown.size hMb
                  have HG2 : Hid (allRes Fu n (rest s i) = results Fu n' (acc ++ [r]) (rest s q)) := hideP (by rw [HG.out, hres]; rfl)
                  obtain ⟨i0, hi0, hz0, hz1, hz2⟩ := info_parts Tryf.info34
                  clear hm hMap hMb hres l0 l1 l2
                  go_wp2_with (at_builtin; refine wpList_append_own _ rfl _ _ 23 rfl w.heap.size 34 i0 _ 3 40 Tryf.underlying23 hi0 hz0 hz1 hz2 rfl (by decide) _ acc.length (flat acc Ms) rfl ?r1 ⟨w2.heap.size + 1, 0, none⟩ 1 1 (cells3 r M) rfl rfl ?c1 ?c2 ?c3 ?c4 ?c5 ?_)
                  case r1 => exact ((HR2.out.kept (World.grownBy_alloc _ _ none) (fun _ e => nomatch e)).kept (World.grownBy_alloc _ _ none) (fun _ e => nomatch e)).row
                  case c1 => exact fresh3 _ (cells3 r M) 34 (by simp)
                  case c2 => exact cells3_one r M
                  case c3 => unfold maxLen; omega
                  case c4 => omega
                  case c5 => rw [World.size_alloc, World.size_alloc]; have := HM2.out.grown.size; omega
                  intro v' w3 hown hgrow _
                  have HM3 : Hid (Moved w w3 R s q) := hideP (HM2.out.appended hlt hgrow (fun x e => (HR2.out.row.lt x e).1))
                  have HR3 : Hid (RowsAt w.heap.size w3 v' (acc ++ [r]) (Ms ++ [M])) := hideP (RowsAt.append ((HR2.out.kept (World.grownBy_alloc _ _ none) (fun _ e => nomatch e)).kept (World.grownBy_alloc _ _ none) (fun _ e => nomatch e)) ((HMap.out.kept (World.grownBy_alloc _ _ none) (by simp)).kept (World.grownBy_alloc _ _ none) (by simp)) hMb2 hgrow hown)
                  clear hown hgrow
                  go_wp2_with fail
                  go_roundw
                  case rel => exact ⟨q, n', acc ++ [r], Ms ++ [M], hq, by rw [List.length_append]; show acc.length + 1 ≤ q; omega, by omega, HG2, HR3, HM3⟩
                  case measure => exact meas q _ (by omega) hlt2 HM3
                · have HM2 : Hid (Moved w w2 R s q) := hideP ((HM1.out.drewN _).trans hm)
                  have HR2 : Hid (RowsAt w.heap.size w2 _ acc Ms) := hideP (HR1.out.kept (row := some R) (((Moved.refl HM1.out.rd).drewN _).grown.trans hm.grown) (fun x e => by cases e; exact hlt))
                  have HG2 : Hid (allRes Fu n (rest s i) = results Fu n' acc (rest s q)) := hideP (by rw [HG.out, hres]; show results Fu n' (acc ++ []) _ = _; rw [List.append_nil])
                  clear hm hres l0 l1 l2
                  go_wp2_with fail
                  go_roundw
                  case rel => exact ⟨q, n', acc, Ms, hq, by omega, by omega, HG2, hideP (HR2.out.kept (World.grownBy_alloc _ _ none) (fun _ e => nomatch e)), hideP (HM2.out.below hlt (Nat.le_refl _) ((Below.refl _ _).alloc HM2.out.grown.size _))⟩
                  case measure => exact meas q _ (by omega) hlt2 (hideP (HM2.out.below hlt (Nat.le_refl _) ((Below.refl _ _).alloc HM2.out.grown.size _)))
                · obtain ⟨b, t, rfl, hb, hcell⟩ := id hv
                  have HB : Hid (w.grownBy w2 (some R)) := hideP ((HM1.out.drewN _).grown.trans hg)
                  have HG2 : Hid (allRes Fu n (rest s i) = none) := hideP (by rw [HG.out, hres]; rfl)
                  clear hres l0 l1 l2 hg
                  go_wp2_with fail
                  go_returns
                  exact Or.inr ⟨HG2.out, _, rfl, ⟨b, t, rfl, by rw [World.size_alloc]; omega, ((Below.refl w2.heap.size w2).alloc (Nat.le_refl _) _).cell hb |>.trans hcell⟩, HB.out.trans (World.grownBy_alloc _ _ _)⟩
              · obtain ⟨b, t, rfl, hb, hcell⟩ := id hv
                go_wp2_with fail
                go_returns
                exact Or.inr ⟨by rw [HQ.out, HE.out, hq]; rfl, _, rfl, hv, ((HM.out.drewN _).step (k + 1)).grown.trans hg⟩
            · have t0 : (((nx (rest s k)).toNat : Int) == 59) = false := ne_byte (n := 59) (fun e => hc (by rw [rest_cons s k hlt2] at e; exact e))
              have HE := hideP (results_odd Fu n' acc hlt2 hc)
              clear hc
              go_wp2_with fail
              go_quiet (fail)
              go_wp2_with (first | (go_at_call 14; refine (next_is R s k _ (by exact (HM.out.drewN _).rd)).mono ?_; rintro e w1 ⟨rfl, m, hw⟩; have hw2 := hw.symm; subst hw2) | (go_at_call 16; refine (unexpected_any F R s _ k _ (by exact HFr.out) (by exact (HM.out.drewN _).rd)).mono ?_; rintro e w1 ⟨v, rfl, hv⟩))
              go_returns
              exact Or.inr ⟨HQ.out.trans HE.out, v, rfl, Bad.after (HM.out.drewN _).grown hv⟩
          · have ht : decide ((k : Int) < (s.size : Int)) = false := decide_eq_false (by omega)
            go_wp2_with fail
            go_quiet (fail)
            go_wp2_with fail
            go_returns
            exact Or.inl ⟨acc, Ms, _, HQ.out.trans (by rw [rest_end s k (by omega)]; rfl), rfl, HRw.out.kept (row := none) grown_weak (fun _ e => nomatch e), (HM.out.drewN _).grown⟩
      · obtain ⟨b, t, rfl, hb, hcell⟩ := id hv
        have HA5 : Hid (allRes Fu n (rest s i) = none) := hideP (by rw [HA.out, hdw, hq5]; rfl)
        clear hdw hq5
        go_wp2_with fail
        go_returns
        exact Or.inr ⟨HA5.out, _, rfl, hv, HM4.out.grown.trans hg⟩
  · obtain ⟨b, t, rfl, hb, hcell⟩ := id hv
    go_wp2_with fail
    go_returns
    exact Or.inr ⟨all_off hq, _, rfl, hv, hg⟩
end Go.Proofs.Qxb6614847aFmt
