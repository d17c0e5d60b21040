/-
  The walk of skipComment.
-/
import Derived.Test.Qxb6614847aFmtQuoB
namespace Go.Proofs.Qxb6614847aFmt
open Go.RowKit Go.Extern.Stop Go.Stop Go.Extern

/-- skipComment's end. -/
def CPost (w : World) (R : Nat) (s : ByteArray) (i : Nat) (e : Ending) (w' : World) : Prop :=
  (∃ j, i < j ∧ j ≤ s.size ∧ com 0 false (rest s i) = some (rest s j) ∧ e = .returned .nilIface ∧ Moved w w' R s j) ∨
  (com 0 false (rest s i) = none ∧ ∃ v, e = .returned v ∧ Bad w R v w')
theorem com_back (s : ByteArray) (k d : Nat) (h : k < s.size) (hc : s[k] = 92) : com d false (rest s k) = com d false (rest s (k + 2)) := by
  rw [rest_cons s k h, com_cons, if_pos hc]
  by_cases h1 : k + 1 < s.size
  · rw [rest_cons s (k + 1) h1]
  · rw [rest_end s (k + 1) (by omega), rest_end s (k + 2) (by omega)]; rfl
theorem com_quote (s : ByteArray) (k d : Nat) (h : k < s.size) (hc : s[k] = 34) : com d false (rest s k) = (quo [] (rest s (k + 1))).bind fun x => com d false x.2 := by
  rw [rest_cons s k h, com_cons, if_neg (by rw [hc]; decide), if_pos hc]
  exact com_quo _ _ _ _ (Nat.le_refl _)
theorem com_open (s : ByteArray) (k d : Nat) (h : k < s.size) (hc : s[k] = 40) : com d false (rest s k) = com (d + 1) false (rest s (k + 1)) := by
  rw [rest_cons s k h, com_cons, if_neg (by rw [hc]; decide), if_neg (by rw [hc]; decide), if_neg (by decide), if_pos hc]
theorem com_shut (s : ByteArray) (k d : Nat) (h : k < s.size) (hc : s[k] = 41) : com d false (rest s k) = if d ≤ 1 then some (rest s (k + 1)) else com (d - 1) false (rest s (k + 1)) := by
  rw [rest_cons s k h, com_cons, if_neg (by rw [hc]; decide), if_neg (by rw [hc]; decide), if_neg (by decide), if_neg (by rw [hc]; decide), if_pos hc]
theorem com_other (s : ByteArray) (k d : Nat) (h : k < s.size) (h1 : ¬ s[k] = 92) (h2 : ¬ s[k] = 34) (h3 : ¬ s[k] = 40) (h4 : ¬ s[k] = 41) : com d false (rest s k) = com d false (rest s (k + 1)) := by
  rw [rest_cons s k h, com_cons, if_neg h1, if_neg h2, if_neg (by decide), if_neg h3, if_neg h4]

set_option maxHeartbeats 4000000 in
theorem comment_any (F : Interp) (R : Nat) (s : ByteArray) (i : Nat) (w : World) (hF : F.answers w.tape) (h : Rd w R s i) (hi : i < s.size) (hc : s[i] = 40) (hs : s.size ≤ 2097152) :
    Calls Tryf.prog 13 #[.pointer (some ⟨R, 0, none⟩)] w (CPost w R s i) := by
  have HR : Hid (Rd w R s i) := hideP h
  have HF : Hid (F.answers w.tape) := hideP hF
  have HC : Hid (s[i] = 40) := hideP hc
  obtain ⟨hlt, h0, h1, h2⟩ := h
  clear hF hc
  go_enter Tryf.func13, Tryf.ntmps13
  go_wp2
  clear h0 h1 h2
  go_loopw [4] (fun dv wr => ∃ (k d : Nat), dv = .int .i64 (d : Int) ∧ i ≤ k ∧ k ≤ s.size + 1 ∧ d ≤ k ∧ Hid ((k = i ∧ d = 0) ∨ 1 ≤ d) ∧ Hid (com 0 false (rest s i) = com d false (rest s k)) ∧ Hid (Moved w wr R s k)) (fun _ wr => s.size + 1 - posAt R wr)
  case atStart => exact ⟨i, 0, rfl, Nat.le_refl _, by omega, Nat.zero_le _, hideP (Or.inl ⟨rfl, rfl⟩), hideP rfl, hideP (Moved.refl HR.out)⟩
  case round =>
    obtain ⟨k, d, rfl, hik, hk, hd, HD, HQ, HM⟩ := hrel
    have g0 := HM.out.rd.text
    have g1 := HM.out.rd.pos
    have g2 := HM.out.rd.free
    have meas : ∀ k' w', k < k' → k ≤ s.size → Hid (Moved w w' R s k') → s.size + 1 - posAt R w' < s.size + 1 - posAt R wr := fun k' w' hkk hks Hm => by
      rw [posAt_rd Hm.out.rd, posAt_rd HM.out.rd]; omega
    have HFr : Hid (F.answers wr.tape) := hideP (answers_grown HF.out HM.out.grown)
    by_cases hlt2 : k < s.size
    · have ht : (k : Int) < (s.size : Int) := by omega
      by_cases c1 : s[k] = 92
      · have t1 : ((s[k].toNat : Int) == 92) = true := eq_byte (n := 92) (by decide) c1
        have Hc1 : Hid (s[k] = 92) := hideP c1
        clear c1
        go_wp2_with fail
        go_quiet (fail)
        go_wp2_with fail
        go_quiet (fail)
        go_wp2_with fail
        go_roundw
        case rel =>
          refine ⟨k + 2, d, rfl, by omega, by omega, by omega, ?_, hideP (HQ.out.trans (com_back s k d hlt2 Hc1.out)), ?_⟩
          · rcases HD.out with ⟨e1, _⟩ | e
            · subst e1; exact absurd (HC.out.symm.trans Hc1.out) (by decide)
            · exact hideP (Or.inr e)
          · exact hideP (((HM.out.drewN _).step (k + 1)).step (k + 2))
        case measure => exact meas (k + 2) _ (by omega) (by omega) (hideP (((HM.out.drewN _).step (k + 1)).step (k + 2)))
      have t1 : ((s[k].toNat : Int) == 92) = false := ne_byte (n := 92) c1
      by_cases c2 : s[k] = 34
      · have t2 : ((s[k].toNat : Int) == 34) = true := eq_byte (n := 34) (by decide) c2
        have Hc2 : Hid (s[k] = 34) := hideP c2
        clear c1 c2
        go_wp2_with fail
        go_quiet (fail)
        go_wp2_with fail
        go_quiet (fail)
        go_wp2_with (go_at_call 15; refine (quoted_any F R s k _ (by exact HFr.out) (by exact (HM.out.drewN _).rd) hlt2 hs).mono ?_)
        rintro e w1 (⟨j, ct, hkj, hj, hq, rfl, hm⟩ | ⟨hq, v, rfl, hv, hg⟩)
        · go_wp2_with fail
          go_roundw
          case rel =>
            refine ⟨j, d, rfl, by omega, by omega, by omega, ?_, hideP (HQ.out.trans ((com_quote s k d hlt2 Hc2.out).trans (by rw [hq]; rfl))), ?_⟩
            · rcases HD.out with ⟨e1, _⟩ | e
              · subst e1; exact absurd (HC.out.symm.trans Hc2.out) (by decide)
              · exact hideP (Or.inr e)
            · exact hideP ((HM.out.drewN _).trans hm)
          case measure => exact meas j _ (by omega) (by omega) (hideP ((HM.out.drewN _).trans hm))
        · obtain ⟨b, t, rfl, hb, hcell⟩ := id hv
          go_wp2_with fail
          go_ret
          exact Or.inr ⟨HQ.out.trans ((com_quote s k d hlt2 Hc2.out).trans (by rw [hq]; rfl)), _, rfl, hv, (HM.out.drewN _).grown.trans hg⟩
      have t2 : ((s[k].toNat : Int) == 34) = false := ne_byte (n := 34) c2
      by_cases c3 : s[k] = 40
      · have t3 : ((s[k].toNat : Int) == 40) = true := eq_byte (n := 40) (by decide) c3
        have Hc3 : Hid (s[k] = 40) := hideP c3
        clear c1 c2 c3
        go_wp2_with fail
        go_quiet (fail)
        go_wp2_with fail
        go_quiet (fail)
        go_wp2_with fail
        go_roundw
        case rel => exact ⟨k + 1, d + 1, rfl, by omega, by omega, by omega, hideP (Or.inr (by omega)), hideP (HQ.out.trans (com_open s k d hlt2 Hc3.out)), hideP ((HM.out.drewN _).step (k + 1))⟩
        case measure => exact meas (k + 1) _ (by omega) (by omega) (hideP ((HM.out.drewN _).step (k + 1)))
      have t3 : ((s[k].toNat : Int) == 40) = false := ne_byte (n := 40) c3
      by_cases c4 : s[k] = 41
      · have t4 : ((s[k].toNat : Int) == 41) = true := eq_byte (n := 41) (by decide) c4
        have Hc4 : Hid (s[k] = 41) := hideP c4
        have hd1 : 1 ≤ d := by
          rcases HD.out with ⟨e1, _⟩ | e
          · subst e1; exact absurd HC.out c3
          · exact e
        clear c1 c2 c3 c4
        by_cases hd2 : d = 1
        · subst hd2
          go_wp2_with fail
          go_quiet (fail)
          go_wp2_with fail
          go_quiet (fail)
          go_wp2_with fail
          go_ret
          refine Or.inl ⟨k + 1, by omega, by omega, HQ.out.trans ((com_shut s k 1 hlt2 Hc4.out).trans (by rw [if_pos (by omega)])), rfl, (HM.out.drewN _).step (k + 1)⟩
        · have t5 : (((d : Int) - 1) == 0) = false := by simpa using fun e => hd2 (by omega)
          obtain ⟨d', rfl⟩ : ∃ d', d = d' + 1 := ⟨d - 1, by omega⟩
          go_wp2_with fail
          go_quiet (fail)
          go_wp2_with fail
          go_quiet (fail)
          go_wp2_with fail
          go_roundw
          case rel => exact ⟨k + 1, d', by simp, by omega, by omega, by omega, hideP (Or.inr (by omega)), hideP (HQ.out.trans ((com_shut s k (d' + 1) hlt2 Hc4.out).trans (by rw [if_neg (by omega)]; rfl))), hideP ((HM.out.drewN _).step (k + 1))⟩
          case measure => exact meas (k + 1) _ (by omega) (by omega) (hideP ((HM.out.drewN _).step (k + 1)))
      have t4 : ((s[k].toNat : Int) == 41) = false := ne_byte (n := 41) c4
      have Hco : Hid (com d false (rest s k) = com d false (rest s (k + 1))) := hideP (com_other s k d hlt2 c1 c2 c3 c4)
      have Hn : Hid (¬ k = i) := hideP (fun e => c3 (by subst e; exact HC.out))
      clear c1 c2 c3 c4
      go_wp2_with fail
      go_quiet (fail)
      go_wp2_with fail
      go_quiet (fail)
      go_wp2_with fail
      go_roundw
      case rel => exact ⟨k + 1, d, rfl, by omega, by omega, by omega, hideP (HD.out.elim (fun e => absurd e.1 Hn.out) Or.inr), hideP (HQ.out.trans Hco.out), hideP ((HM.out.drewN _).step (k + 1))⟩
      case measure => exact meas (k + 1) _ (by omega) (by omega) (hideP ((HM.out.drewN _).step (k + 1)))
    · have ht : decide ((k : Int) < (s.size : Int)) = false := decide_eq_false (by omega)
      go_wp2_with fail
      go_quiet (fail)
      go_wp2_with (go_at_call 10; refine (errorf_comment F _ _ _ (by exact HFr.out) (alloc_cell _ _ 0 _ _ rfl)).mono ?_; rintro e w1 ⟨v, rfl, hv, hb⟩)
      go_ret
      right
      refine ⟨?_, v, rfl, hv, ?_⟩
      · rw [HQ.out, rest_end s k (by omega)]; rfl
      · exact grown_below (B := (wr.drewN nq).heap.size) (HM.out.drewN nq).grown HM.out.grown.size (((Below.refl _ _).alloc (Nat.le_refl _) _).trans (hb.mono (by simp)))
end Go.Proofs.Qxb6614847aFmt
