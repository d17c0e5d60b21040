/-
  The walk of value.
-/
import Derived.Test.Qxb6614847aFmtCom
namespace Go.Proofs.Qxb6614847aFmt
open Go.RowKit Go.Extern.Stop Go.Stop Go.Extern

theorem tok_is (c : UInt8) (b : Bool) (h : tokB c = b) (w : World) : Calls Tryf.prog 12 #[.int .u8 (c.toNat : Int)] w fun e w' => e = .returned (.bool b) ∧ w' = w := by
  rw [← h]
  unfold tokB
  by_cases h1 : 33 ≤ c.toNat
  · by_cases h2 : c.toNat ≤ 126
    · rw [decide_eq_true h1, decide_eq_true h2]
      exact tok_2 c w (by omega) (by omega)
    · rw [decide_eq_true h1, decide_eq_false h2]
      exact tok_1 _ w (by omega) (decide_eq_false (by omega))
  · rw [decide_eq_false h1]
    exact tok_0 _ w (decide_eq_false (by omega))
/-- value's end. -/
def VPost (w : World) (R : Nat) (s : ByteArray) (i : Nat) (e : Ending) (w' : World) : Prop :=
  (∃ j x, i ≤ j ∧ j ≤ s.size ∧ val (rest s i) = some (x, rest s j) ∧ e = .returned (.tuple #[.string ⟨x.toArray⟩, .nilIface]) ∧ Moved w w' R s j) ∨
  (val (rest s i) = none ∧ ∃ v, e = .returned (.tuple #[.string ⟨#[]⟩, v]) ∧ Bad w R v w')
theorem bytes_eta (b : ByteArray) : (⟨b.data.toList.toArray⟩ : ByteArray) = b := by cases b; simp
theorem head_at {s : ByteArray} {i : Nat} {c : UInt8} (h : (rest s i).head? = some c) : ∃ h : i < s.size, s[i] = c := by
  by_cases hi : i < s.size
  · rw [rest_cons s i hi] at h
    exact ⟨hi, Option.some.inj h⟩
  · rw [rest_end s i (by omega)] at h; cases h
theorem val_quote {s : ByteArray} {i : Nat} (h : (rest s i).head? = some 34) : val (rest s i) = (quo [] (rest s (i + 1))).map fun x => (cut (rest s i) x.2, x.2) := by
  obtain ⟨hi, _⟩ := head_at h
  unfold val
  rw [if_pos h]
  congr 1
  rw [rest_cons s i hi]
  rfl
theorem val_none {s : ByteArray} {i : Nat} (hn : ¬ (rest s i).head? = some 34) (hw : (rest s i).dropWhile tokB = rest s i) : val (rest s i) = none := by
  have ht : (rest s i).takeWhile tokB = [] := by
    have := List.takeWhile_append_dropWhile (p := tokB) (l := rest s i)
    rw [hw] at this
    exact List.append_left_eq_self.mp this
  unfold val
  rw [if_neg hn, ht, if_pos rfl]
theorem val_some {s : ByteArray} {i k : Nat} (hn : ¬ (rest s i).head? = some 34) (hik : i < k) (hk : k ≤ s.size) (hw : (rest s i).dropWhile tokB = rest s k) : val (rest s i) = some ((s.extract i k).data.toList, rest s k) := by
  have ht := takeWhile_at tokB (Nat.le_of_lt hik) hw
  unfold val
  rw [if_neg hn, ht, hw, if_neg]
  intro e
  have := congrArg List.length e
  rw [extract_list, List.length_take, rest_length] at this
  simp at this
  omega

set_option maxHeartbeats 4000000 in
set_option maxRecDepth 20000 in
theorem value_quote (F : Interp) (R : Nat) (s : ByteArray) (i : Nat) (w : World) (hF : F.answers w.tape) (h : Rd w R s i) (hn : (rest s i).head? = some 34) (hs : s.size ≤ 2097152) :
    Calls Tryf.prog 9 #[.pointer (some ⟨R, 0, none⟩)] w (VPost w R s i) := by
  have HR : Hid (Rd w R s i) := hideP h
  have HF : Hid (F.answers w.tape) := hideP hF
  have HV := hideP (val_quote hn)
  obtain ⟨hi, _⟩ := head_at hn
  have t0 : (((nx (rest s i)).toNat : Int) == 34) = true := eq_byte (n := 34) (by decide) ((nx_is (by decide)).mpr hn)
  clear hF hn h
  go_enter Tryf.func9, Tryf.ntmps9
  go_wp2_with (first | (go_at_call 14; refine (next_is R s i _ (by exact HR.out)).mono ?_; rintro e w1 ⟨rfl, m, hw⟩; have hw2 := hw.symm; subst hw2) | (go_at_call 15; refine (quoted_any F R s i _ (by exact HF.out) (by exact ((Moved.refl HR.out).drewN _).rd) hi hs).mono ?_))
  rintro e w1 (⟨j, ct, hkj, hj, hq, rfl, hm⟩ | ⟨hq, v, rfl, hv, hg⟩)
  · go_wp2_with fail
    go_returns
    refine Or.inl ⟨j, (s.extract i j).data.toList, by omega, hj, ?_, by rw [bytes_eta]; rfl, ((Moved.refl HR.out).drewN _).trans hm⟩
    rw [HV.out, hq]
    show some (cut _ _, _) = _
    rw [cut_at (by omega) hj]
  · obtain ⟨b, t, rfl, hb, hcell⟩ := id hv
    go_wp2_with fail
    go_returns
    exact Or.inr ⟨by rw [HV.out, hq]; rfl, _, rfl, hv, ((Moved.refl HR.out).drewN _).grown.trans hg⟩

set_option maxHeartbeats 4000000 in
set_option maxRecDepth 20000 in
theorem value_token (F : Interp) (R : Nat) (s : ByteArray) (i : Nat) (w : World) (hF : F.answers w.tape) (h : Rd w R s i) (hi : i ≤ s.size) (hn : ¬ (rest s i).head? = some 34) (hs : s.size ≤ 2097152) :
    Calls Tryf.prog 9 #[.pointer (some ⟨R, 0, none⟩)] w (VPost w R s i) := by
  have HR : Hid (Rd w R s i) := hideP h
  have HF : Hid (F.answers w.tape) := hideP hF
  have HN := hideP hn
  have t0 : (((nx (rest s i)).toNat : Int) == 34) = false := ne_byte (n := 34) (fun e => hn ((nx_is (by decide)).mp e))
  obtain ⟨_, h0, h1, _⟩ := h
  clear hF hn
  go_enter Tryf.func9, Tryf.ntmps9
  go_wp2_with (go_at_call 14; refine (next_is R s i _ (by exact HR.out)).mono ?_; rintro e w1 ⟨rfl, m, hw⟩; have hw2 := hw.symm; subst hw2)
  clear h0 h1
  go_loopw [] (fun wr => ∃ k : Nat, i ≤ k ∧ k ≤ s.size ∧ Hid (∀ t c, i ≤ t → t < k → s.data.toList[t]? = some c → tokB c = true) ∧ Hid (Moved w wr R s k)) (fun wr => s.size - posAt R wr)
  case atStart => exact ⟨i, Nat.le_refl _, hi, hideP (fun t c h1 h2 => absurd h2 (by omega)), hideP ((Moved.refl HR.out).drewN _)⟩
  case round =>
    obtain ⟨k, hik, hk, HA, HM⟩ := hrel
    have g0 := HM.out.rd.text
    have g1 := HM.out.rd.pos
    have g2 := HM.out.rd.free
    have HFr : Hid (F.answers wr.tape) := hideP (answers_grown HF.out HM.out.grown)
    by_cases hlt : k < s.size
    · have ht : (k : Int) < (s.size : Int) := by omega
      cases hdg : tokB s[k] with
      | true =>
        have Hd : Hid (tokB s[k] = true) := hideP hdg
        clear hdg
        go_wp2_with fail
        go_quiet ((go_at_call 12; refine Calls.quiet_of_same (tok_is _ true Hd.out _)))
        go_wp2_with fail
        go_roundw
        case rel => exact ⟨k + 1, by omega, by omega, hideP (fun t c h1 h2 h3 => by
          by_cases e : t = k
          · subst e; rw [get_at s _ hlt] at h3; rw [← Option.some.inj h3]; exact Hd.out
          · exact HA.out t c h1 (by omega) h3), hideP ((HM.out.drewN _).step (k + 1))⟩
        case measure =>
          have e1 := posAt_rd ((HM.out.drewN nq).step (k + 1)).rd
          have e2 := posAt_rd HM.out.rd
          show s.size - posAt R _ < s.size - posAt R _
          rw [e2]
          exact Nat.lt_of_le_of_lt (Nat.le_of_eq (congrArg (s.size - ·) e1)) (by omega)
      | false =>
        have Hd : Hid (tokB s[k] = false) := hideP hdg
        clear hdg
        go_wp2_with fail
        go_quiet ((go_at_call 12; refine Calls.quiet_of_same (tok_is _ false Hd.out _)))
        by_cases hki : k = i
        · subst hki
          have te : ((k : Int) == (k : Int)) = true := by rw [beq_iff_eq]
          have HW : Hid ((rest s k).dropWhile tokB = rest s k) := hideP (while_at tokB s.data.toList k 0 k rfl (by simpa using hk) HA.out (fun c h => by rw [get_at s _ hlt] at h; rw [← Option.some.inj h]; exact Hd.out)).2
          go_wp2_with (go_at_call 16; refine (unexpected_any F R s _ k _ (by exact HFr.out) (by exact (HM.out.drewN _).rd)).mono ?_; rintro e w1 ⟨v, rfl, hv⟩)
          go_returns
          exact Or.inr ⟨val_none HN.out HW.out, v, rfl, Bad.after (HM.out.drewN _).grown hv⟩
        · have te : ((k : Int) == (i : Int)) = false := by simpa using fun e => hki (by omega)
          have gi : (i : Int) ≤ (k : Int) := by omega
          have gk : (k : Int) ≤ (s.size : Int) := by omega
          have HW : Hid ((rest s i).dropWhile tokB = rest s k) := hideP (while_at tokB s.data.toList i (k - i) k (by omega) (by simpa using hk) HA.out (fun c h => by rw [get_at s _ hlt] at h; rw [← Option.some.inj h]; exact Hd.out)).2
          go_wp2_with fail
          go_quiet (fail)
          go_wp2_with fail
          go_returns
          exact Or.inl ⟨k, _, hik, hk, val_some HN.out (by omega) hk HW.out, by rw [bytes_eta]; rfl, (HM.out.drewN _).drewN _⟩
    · have ht : decide ((k : Int) < (s.size : Int)) = false := decide_eq_false (by omega)
      go_wp2_with fail
      go_quiet (fail)
      by_cases hki : k = i
      · subst hki
        have te : ((k : Int) == (k : Int)) = true := by rw [beq_iff_eq]
        have HW : Hid ((rest s k).dropWhile tokB = rest s k) := hideP (while_at tokB s.data.toList k 0 k rfl (by simpa using hk) HA.out (fun c h => by rw [List.getElem?_eq_none (by simp; omega)] at h; cases h)).2
        go_wp2_with (go_at_call 16; refine (unexpected_any F R s _ k _ (by exact HFr.out) (by exact (HM.out.drewN _).rd)).mono ?_; rintro e w1 ⟨v, rfl, hv⟩)
        go_returns
        exact Or.inr ⟨val_none HN.out HW.out, v, rfl, Bad.after (HM.out.drewN _).grown hv⟩
      · have te : ((k : Int) == (i : Int)) = false := by simpa using fun e => hki (by omega)
        have gi : (i : Int) ≤ (k : Int) := by omega
        have gk : (k : Int) ≤ (s.size : Int) := by omega
        have HW : Hid ((rest s i).dropWhile tokB = rest s k) := hideP (while_at tokB s.data.toList i (k - i) k (by omega) (by simpa using hk) HA.out (fun c h => by rw [List.getElem?_eq_none (by simp; omega)] at h; cases h)).2
        go_wp2_with fail
        go_quiet (fail)
        go_wp2_with fail
        go_returns
        exact Or.inl ⟨k, _, hik, hk, val_some HN.out (by omega) hk HW.out, by rw [bytes_eta]; rfl, (HM.out.drewN _).drewN _⟩
theorem value_any (F : Interp) (R : Nat) (s : ByteArray) (i : Nat) (w : World) (hF : F.answers w.tape) (h : Rd w R s i) (hi : i ≤ s.size) (hs : s.size ≤ 2097152) :
    Calls Tryf.prog 9 #[.pointer (some ⟨R, 0, none⟩)] w (VPost w R s i) := by
  by_cases hn : (rest s i).head? = some 34
  · exact value_quote F R s i w hF h hn hs
  · exact value_token F R s i w hF h hi hn hs
end Go.Proofs.Qxb6614847aFmt
