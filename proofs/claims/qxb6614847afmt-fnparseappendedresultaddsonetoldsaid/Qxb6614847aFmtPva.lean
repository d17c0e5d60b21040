/-
  The walk of propertyValue.
-/
import Derived.Test.Qxb6614847aFmtEqs
namespace Go.Proofs.Qxb6614847aFmt
open Go.RowKit Go.Extern.Stop Go.Stop Go.Extern

theorem pv_quo : ∀ (n : Nat) (l acc : List UInt8) (st : Bool) (ct : List UInt8) (al a : Bool), l.length ≤ n → pv st ct al (some (a, acc)) l = (quo acc l).bind fun x => pv true x.1 a none x.2 := by
  intro n
  induction n with
  | zero =>
    intro l acc st ct al a h
    match l, h with
    | [], _ => rfl
  | succ n ih =>
    intro l acc st ct al a h
    match l, h with
    | [], _ => rfl
    | c :: r, h =>
      rw [List.length_cons] at h
      rw [pv_some, quo_cons]
      by_cases h1 : c = 92
      · rw [if_pos h1, if_pos h1]
        match r, h with
        | [], _ => rfl
        | e :: r', h => exact ih r' _ _ _ _ _ (by rw [List.length_cons] at h; omega)
      · rw [if_neg h1, if_neg h1]
        by_cases h2 : c = 34
        · rw [if_pos h2, if_pos h2]; rfl
        · rw [if_neg h2, if_neg h2]
          exact ih r _ _ _ _ _ (by omega)
/-- propertyValue's end. -/
def PPost (w : World) (R : Nat) (s : ByteArray) (i : Nat) (e : Ending) (w' : World) : Prop :=
  (∃ j x, i ≤ j ∧ j ≤ s.size ∧ pval (rest s i) = some (x, rest s j) ∧ e = .returned (.tuple #[.string ⟨x.toArray⟩, .nilIface]) ∧ Moved w w' R s j) ∨
  (pval (rest s i) = none ∧ ∃ v, e = .returned (.tuple #[.string ⟨#[]⟩, v]) ∧ Bad w R v w')
theorem pv_end (s : ByteArray) (k : Nat) (h : s.size ≤ k) (st : Bool) (ct : List UInt8) (al : Bool) : pv st ct al none (rest s k) = some (st, ct, al, rest s k) := by
  rw [rest_end s k h]; rfl
theorem pv_halt (s : ByteArray) (k : Nat) (h : k < s.size) (hc : pvStop s[k] = true) (st : Bool) (ct : List UInt8) (al : Bool) : pv st ct al none (rest s k) = some (st, ct, al, rest s k) := by
  rw [rest_cons s k h, pv_none, if_pos hc]
theorem pv_quote (s : ByteArray) (k : Nat) (h : k < s.size) (hc : s[k] = 34) (st : Bool) (ct : List UInt8) (al : Bool) : pv st ct al none (rest s k) = (quo [] (rest s (k + 1))).bind fun x => pv true x.1 (!st) none x.2 := by
  rw [rest_cons s k h, pv_none, if_neg (by rw [hc]; decide), if_pos hc]
  exact pv_quo _ _ _ _ _ _ _ (Nat.le_refl _)
theorem pv_take (s : ByteArray) (k : Nat) (h : k < s.size) (h1 : pvStop s[k] = false) (h2 : ¬ s[k] = 34) (st : Bool) (ct : List UInt8) (al : Bool) : pv st ct al none (rest s k) = pv true ct false none (rest s (k + 1)) := by
  rw [rest_cons s k h, pv_none, if_neg (by rw [h1]; decide), if_neg h2]
theorem pval_ok {s : ByteArray} {i k : Nat} {ct : List UInt8} {al : Bool} (hik : i < k) (hk : k ≤ s.size) (h : pv false [] false none (rest s i) = some (decide (i < k), ct, al, rest s k)) : pval (rest s i) = some (if al = true then ct else (s.extract i k).data.toList, rest s k) := by
  unfold pval
  rw [h]
  show (if decide (i < k) = true then _ else _) = _
  rw [if_pos (decide_eq_true hik)]
  show some (if al = true then ct else cut (rest s i) (rest s k), rest s k) = _
  rw [cut_at (Nat.le_of_lt hik) hk]
theorem pval_bad {s : ByteArray} {i : Nat} {ct : List UInt8} {al : Bool} (h : pv false [] false none (rest s i) = some (decide (i < i), ct, al, rest s i)) : pval (rest s i) = none := by
  unfold pval
  rw [h]
  show (if decide (i < i) = true then _ else _) = _
  rw [if_neg (by simp)]
theorem pval_off {s : ByteArray} {i : Nat} (h : pv false [] false none (rest s i) = none) : pval (rest s i) = none := by unfold pval; rw [h]; rfl

set_option maxHeartbeats 8000000 in
set_option maxRecDepth 20000 in
theorem pvalue_any (F : Interp) (R : Nat) (s : ByteArray) (i : Nat) (w : World) (hF : F.answers w.tape) (h : Rd w R s i) (hi : i ≤ s.size) (hs : s.size ≤ 2097152) :
    Calls Tryf.prog 32 #[.pointer (some ⟨R, 0, none⟩)] w (PPost w R s i) := by
  have HR : Hid (Rd w R s i) := hideP h
  have HF : Hid (F.answers w.tape) := hideP hF
  obtain ⟨hlt, h0, h1, h2⟩ := h
  clear hF
  go_enter Tryf.func32, Tryf.ntmps32
  go_wp2
  clear h0 h1 h2
  go_loopw [5, 6] (fun cv av wr => ∃ (k : Nat) (ct : List UInt8) (al : Bool), cv = .string ⟨ct.toArray⟩ ∧ av = .bool al ∧ i ≤ k ∧ k ≤ s.size ∧ Hid (pv false [] false none (rest s i) = pv (decide (i < k)) ct al none (rest s k)) ∧ Hid (Moved w wr R s k)) (fun _ _ wr => s.size - posAt R wr)
  case atStart => exact ⟨i, [], false, rfl, rfl, Nat.le_refl _, hi, hideP (by rw [decide_eq_false (Nat.lt_irrefl i)]), hideP (Moved.refl HR.out)⟩
  case round =>
    obtain ⟨k, ct, al, rfl, rfl, hik, hk, HQ, HM⟩ := hrel
    have g0 := HM.out.rd.text
    have g1 := HM.out.rd.pos
    have g2 := HM.out.rd.free
    have meas : ∀ k' w', k < k' → k < s.size → Hid (Moved w w' R s k') → s.size - posAt R w' < s.size - posAt R wr := fun k' w' hkk hks Hm => by
      rw [posAt_rd Hm.out.rd, posAt_rd HM.out.rd]; omega
    have HFr : Hid (F.answers wr.tape) := hideP (answers_grown HF.out HM.out.grown)
    by_cases hlt2 : k < s.size
    · have ht : (k : Int) < (s.size : Int) := by omega
      by_cases c0 : s[k] = 32
      · have t0 : ((s[k].toNat : Int) == 32) = true := eq_byte (n := 32) (by decide) c0
        have HE := hideP (pv_halt s k hlt2 (by rw [c0]; decide) (decide (i < k)) ct al)
        clear c0
        go_wp2_with fail
        go_quiet (fail)
        go_wp2_with fail
        go_quiet (fail)
        go_wp2_with (go_at_call 42; refine (written_any F R s i k ct al _ (by exact HFr.out) (by exact (HM.out.drewN _).rd) hik hk).mono ?_)
        rintro e w1 (⟨hlt3, x, hx, rfl, hm⟩ | ⟨rfl, v, rfl, hv⟩)
        · have Hx := hideP hx
          clear hx
          go_wp2_with fail
          go_returns
          exact Or.inl ⟨k, x, hik, hk, (by rw [Hx.out]; exact pval_ok hlt3 hk (HQ.out.trans HE.out)), rfl, (HM.out.drewN _).trans hm⟩
        · go_wp2_with fail
          go_returns
          exact Or.inr ⟨pval_bad (HQ.out.trans HE.out), v, rfl, Bad.after (HM.out.drewN _).grown hv⟩
      have t0 : ((s[k].toNat : Int) == 32) = false := ne_byte (n := 32) c0
      by_cases c1 : s[k] = 9
      · have t1 : ((s[k].toNat : Int) == 9) = true := eq_byte (n := 9) (by decide) c1
        have HE := hideP (pv_halt s k hlt2 (by rw [c1]; decide) (decide (i < k)) ct al)
        clear c0 c1
        go_wp2_with fail
        go_quiet (fail)
        go_wp2_with fail
        go_quiet (fail)
        go_wp2_with (go_at_call 42; refine (written_any F R s i k ct al _ (by exact HFr.out) (by exact (HM.out.drewN _).rd) hik hk).mono ?_)
        rintro e w1 (⟨hlt3, x, hx, rfl, hm⟩ | ⟨rfl, v, rfl, hv⟩)
        · have Hx := hideP hx
          clear hx
          go_wp2_with fail
          go_returns
          exact Or.inl ⟨k, x, hik, hk, (by rw [Hx.out]; exact pval_ok hlt3 hk (HQ.out.trans HE.out)), rfl, (HM.out.drewN _).trans hm⟩
        · go_wp2_with fail
          go_returns
          exact Or.inr ⟨pval_bad (HQ.out.trans HE.out), v, rfl, Bad.after (HM.out.drewN _).grown hv⟩
      have t1 : ((s[k].toNat : Int) == 9) = false := ne_byte (n := 9) c1
      by_cases c2 : s[k] = 13
      · have t2 : ((s[k].toNat : Int) == 13) = true := eq_byte (n := 13) (by decide) c2
        have HE := hideP (pv_halt s k hlt2 (by rw [c2]; decide) (decide (i < k)) ct al)
        clear c0 c1 c2
        go_wp2_with fail
        go_quiet (fail)
        go_wp2_with fail
        go_quiet (fail)
        go_wp2_with (go_at_call 42; refine (written_any F R s i k ct al _ (by exact HFr.out) (by exact (HM.out.drewN _).rd) hik hk).mono ?_)
        rintro e w1 (⟨hlt3, x, hx, rfl, hm⟩ | ⟨rfl, v, rfl, hv⟩)
        · have Hx := hideP hx
          clear hx
          go_wp2_with fail
          go_returns
          exact Or.inl ⟨k, x, hik, hk, (by rw [Hx.out]; exact pval_ok hlt3 hk (HQ.out.trans HE.out)), rfl, (HM.out.drewN _).trans hm⟩
        · go_wp2_with fail
          go_returns
          exact Or.inr ⟨pval_bad (HQ.out.trans HE.out), v, rfl, Bad.after (HM.out.drewN _).grown hv⟩
      have t2 : ((s[k].toNat : Int) == 13) = false := ne_byte (n := 13) c2
      by_cases c3 : s[k] = 10
      · have t3 : ((s[k].toNat : Int) == 10) = true := eq_byte (n := 10) (by decide) c3
        have HE := hideP (pv_halt s k hlt2 (by rw [c3]; decide) (decide (i < k)) ct al)
        clear c0 c1 c2 c3
        go_wp2_with fail
        go_quiet (fail)
        go_wp2_with fail
        go_quiet (fail)
        go_wp2_with (go_at_call 42; refine (written_any F R s i k ct al _ (by exact HFr.out) (by exact (HM.out.drewN _).rd) hik hk).mono ?_)
        rintro e w1 (⟨hlt3, x, hx, rfl, hm⟩ | ⟨rfl, v, rfl, hv⟩)
        · have Hx := hideP hx
          clear hx
          go_wp2_with fail
          go_returns
          exact Or.inl ⟨k, x, hik, hk, (by rw [Hx.out]; exact pval_ok hlt3 hk (HQ.out.trans HE.out)), rfl, (HM.out.drewN _).trans hm⟩
        · go_wp2_with fail
          go_returns
          exact Or.inr ⟨pval_bad (HQ.out.trans HE.out), v, rfl, Bad.after (HM.out.drewN _).grown hv⟩
      have t3 : ((s[k].toNat : Int) == 10) = false := ne_byte (n := 10) c3
      by_cases c4 : s[k] = 40
      · have t4 : ((s[k].toNat : Int) == 40) = true := eq_byte (n := 40) (by decide) c4
        have HE := hideP (pv_halt s k hlt2 (by rw [c4]; decide) (decide (i < k)) ct al)
        clear c0 c1 c2 c3 c4
        go_wp2_with fail
        go_quiet (fail)
        go_wp2_with fail
        go_quiet (fail)
        go_wp2_with (go_at_call 42; refine (written_any F R s i k ct al _ (by exact HFr.out) (by exact (HM.out.drewN _).rd) hik hk).mono ?_)
        rintro e w1 (⟨hlt3, x, hx, rfl, hm⟩ | ⟨rfl, v, rfl, hv⟩)
        · have Hx := hideP hx
          clear hx
          go_wp2_with fail
          go_returns
          exact Or.inl ⟨k, x, hik, hk, (by rw [Hx.out]; exact pval_ok hlt3 hk (HQ.out.trans HE.out)), rfl, (HM.out.drewN _).trans hm⟩
        · go_wp2_with fail
          go_returns
          exact Or.inr ⟨pval_bad (HQ.out.trans HE.out), v, rfl, Bad.after (HM.out.drewN _).grown hv⟩
      have t4 : ((s[k].toNat : Int) == 40) = false := ne_byte (n := 40) c4
      by_cases c5 : s[k] = 41
      · have t5 : ((s[k].toNat : Int) == 41) = true := eq_byte (n := 41) (by decide) c5
        have HE := hideP (pv_halt s k hlt2 (by rw [c5]; decide) (decide (i < k)) ct al)
        clear c0 c1 c2 c3 c4 c5
        go_wp2_with fail
        go_quiet (fail)
        go_wp2_with fail
        go_quiet (fail)
        go_wp2_with (go_at_call 42; refine (written_any F R s i k ct al _ (by exact HFr.out) (by exact (HM.out.drewN _).rd) hik hk).mono ?_)
        rintro e w1 (⟨hlt3, x, hx, rfl, hm⟩ | ⟨rfl, v, rfl, hv⟩)
        · have Hx := hideP hx
          clear hx
          go_wp2_with fail
          go_returns
          exact Or.inl ⟨k, x, hik, hk, (by rw [Hx.out]; exact pval_ok hlt3 hk (HQ.out.trans HE.out)), rfl, (HM.out.drewN _).trans hm⟩
        · go_wp2_with fail
          go_returns
          exact Or.inr ⟨pval_bad (HQ.out.trans HE.out), v, rfl, Bad.after (HM.out.drewN _).grown hv⟩
      have t5 : ((s[k].toNat : Int) == 41) = false := ne_byte (n := 41) c5
      by_cases c6 : s[k] = 59
      · have t6 : ((s[k].toNat : Int) == 59) = true := eq_byte (n := 59) (by decide) c6
        have HE := hideP (pv_halt s k hlt2 (by rw [c6]; decide) (decide (i < k)) ct al)
        clear c0 c1 c2 c3 c4 c5 c6
        go_wp2_with fail
        go_quiet (fail)
        go_wp2_with fail
        go_quiet (fail)
        go_wp2_with (go_at_call 42; refine (written_any F R s i k ct al _ (by exact HFr.out) (by exact (HM.out.drewN _).rd) hik hk).mono ?_)
        rintro e w1 (⟨hlt3, x, hx, rfl, hm⟩ | ⟨rfl, v, rfl, hv⟩)
        · have Hx := hideP hx
          clear hx
          go_wp2_with fail
          go_returns
          exact Or.inl ⟨k, x, hik, hk, (by rw [Hx.out]; exact pval_ok hlt3 hk (HQ.out.trans HE.out)), rfl, (HM.out.drewN _).trans hm⟩
        · go_wp2_with fail
          go_returns
          exact Or.inr ⟨pval_bad (HQ.out.trans HE.out), v, rfl, Bad.after (HM.out.drewN _).grown hv⟩
      have t6 : ((s[k].toNat : Int) == 59) = false := ne_byte (n := 59) c6
      have hst : pvStop s[k] = false := by unfold pvStop isSp; simp [c0, c1, c2, c3, c4, c5, c6]
      by_cases c7 : s[k] = 34
      · have t7 : ((s[k].toNat : Int) == 34) = true := eq_byte (n := 34) (by decide) c7
        have HE := hideP (pv_quote s k hlt2 c7 (decide (i < k)) ct al)
        clear c0 c1 c2 c3 c4 c5 c6 c7 hst
        go_wp2_with fail
        go_quiet (fail)
        go_wp2_with fail
        go_quiet (fail)
        have tq : (((k : Int)) == (i : Int)) = !decide (i < k) := by
          by_cases e : i < k
          · rw [decide_eq_true e]; simpa using fun e2 => absurd e2 (by omega)
          · rw [decide_eq_false e]; show _ = true; rw [beq_iff_eq]; omega
        go_wp2_with (go_at_call 15; refine (quoted_any F R s k _ (by exact HFr.out) (by exact (HM.out.drewN _).rd) hlt2 hs).mono ?_)
        rintro e w1 (⟨j, c9, hkj, hj, hq, rfl, hm⟩ | ⟨hq, v, rfl, hv, hg⟩)
        · go_wp2_with fail
          go_roundw
          case rel => exact ⟨j, c9, !decide (i < k), rfl, by rw [← tq], by omega, by omega, hideP (HQ.out.trans (HE.out.trans (by rw [hq, decide_eq_true (show i < j by omega)]; rfl))), hideP ((HM.out.drewN _).trans hm)⟩
          case measure => exact meas j _ (by omega) hlt2 (hideP ((HM.out.drewN _).trans hm))
        · obtain ⟨b, t, rfl, hb, hcell⟩ := id hv
          go_wp2_with fail
          go_returns
          exact Or.inr ⟨pval_off (HQ.out.trans (HE.out.trans (by rw [hq]; rfl))), _, rfl, hv, (HM.out.drewN _).grown.trans hg⟩
      have t7 : ((s[k].toNat : Int) == 34) = false := ne_byte (n := 34) c7
      have HE := hideP (pv_take s k hlt2 hst c7 (decide (i < k)) ct al)
      clear c0 c1 c2 c3 c4 c5 c6 c7 hst
      go_wp2_with fail
      go_quiet (fail)
      go_wp2_with fail
      go_quiet (fail)
      go_wp2_with fail
      go_roundw
      case rel => exact ⟨k + 1, ct, false, rfl, rfl, by omega, by omega, hideP (HQ.out.trans (HE.out.trans (by rw [decide_eq_true (show i < k + 1 by omega)]))), hideP ((HM.out.drewN _).step (k + 1))⟩
      case measure => exact meas (k + 1) _ (by omega) hlt2 (hideP ((HM.out.drewN _).step (k + 1)))
    · have ht : decide ((k : Int) < (s.size : Int)) = false := decide_eq_false (by omega)
      have HE := hideP (pv_end s k (by omega) (decide (i < k)) ct al)
      go_wp2_with fail
      go_quiet (fail)
      go_wp2_with (go_at_call 42; refine (written_any F R s i k ct al _ (by exact HFr.out) (by exact (HM.out.drewN _).rd) hik hk).mono ?_)
      rintro e w1 (⟨hlt3, x, hx, rfl, hm⟩ | ⟨rfl, v, rfl, hv⟩)
      · have Hx := hideP hx
        clear hx
        go_wp2_with fail
        go_returns
        exact Or.inl ⟨k, x, hik, hk, (by rw [Hx.out]; exact pval_ok hlt3 hk (HQ.out.trans HE.out)), rfl, (HM.out.drewN _).trans hm⟩
      · go_wp2_with fail
        go_returns
        exact Or.inr ⟨pval_bad (HQ.out.trans HE.out), v, rfl, Bad.after (HM.out.drewN _).grown hv⟩
end Go.Proofs.Qxb6614847aFmt
