/-
  The walk of skipSpace.
-/
import Derived.Test.Qxb6614847aFmtCom
namespace Go.Proofs.Qxb6614847aFmt
open Go.RowKit Go.Extern.Stop Go.Stop Go.Extern

/-- skipSpace's end. -/
def SPost (w : World) (R : Nat) (s : ByteArray) (i : Nat) (e : Ending) (w' : World) : Prop :=
  (∃ j, i ≤ j ∧ j ≤ s.size ∧ space (rest s i) = some (rest s j) ∧ e = .returned .nilIface ∧ Moved w w' R s j) ∨
  (space (rest s i) = none ∧ ∃ v, e = .returned v ∧ Bad w R v w')
theorem space_skip (s : ByteArray) (k : Nat) (h : k < s.size) (hc : isSp s[k] = true) : space (rest s k) = space (rest s (k + 1)) := by
  unfold space
  rw [rest_cons s k h, sp_cons, if_pos rfl, if_pos hc]
theorem space_com (s : ByteArray) (k : Nat) (h : k < s.size) (hc : s[k] = 40) : space (rest s k) = (com 0 false (rest s k)).bind fun r => space r := by
  rw [com_open s k 0 h hc]
  unfold space
  rw [rest_cons s k h, sp_cons, if_pos rfl, if_neg (by rw [hc]; decide), if_pos hc]
  exact sp_com _ _ 0 false (Nat.le_refl _)
theorem space_stop (s : ByteArray) (k : Nat) (h : k < s.size) (h1 : isSp s[k] = false) (h2 : ¬ s[k] = 40) : space (rest s k) = some (rest s k) := by
  unfold space
  rw [rest_cons s k h, sp_cons, if_pos rfl, if_neg (by rw [h1]; decide), if_neg h2]

set_option maxHeartbeats 4000000 in
set_option maxRecDepth 20000 in
theorem space_any (F : Interp) (R : Nat) (s : ByteArray) (i : Nat) (w : World) (hF : F.answers w.tape) (h : Rd w R s i) (hi : i ≤ s.size) (hs : s.size ≤ 2097152) :
    Calls Tryf.prog 8 #[.pointer (some ⟨R, 0, none⟩)] w (SPost w R s i) := by
  have HR : Hid (Rd w R s i) := hideP h
  have HF : Hid (F.answers w.tape) := hideP hF
  obtain ⟨hlt, h0, h1, h2⟩ := h
  clear hF
  go_enter Tryf.func8, Tryf.ntmps8
  go_wp2
  clear h0 h1 h2
  go_loopw [] (fun wr => ∃ (k : Nat), i ≤ k ∧ k ≤ s.size ∧ Hid (space (rest s i) = space (rest s k)) ∧ Hid (Moved w wr R s k)) (fun wr => s.size - posAt R wr)
  case atStart => exact ⟨i, Nat.le_refl _, hi, hideP rfl, hideP (Moved.refl HR.out)⟩
  case round =>
    obtain ⟨k, hik, hk, HQ, HM⟩ := hrel
    have g0 := HM.out.rd.text
    have g1 := HM.out.rd.pos
    have g2 := HM.out.rd.free
    have meas : ∀ k' w', k < k' → k < s.size → Hid (Moved w w' R s k') → s.size - posAt R w' < s.size - posAt R wr := fun k' w' hkk hks Hm => by
      rw [posAt_rd Hm.out.rd, posAt_rd HM.out.rd]; omega
    have HFr : Hid (F.answers wr.tape) := hideP (answers_grown HF.out HM.out.grown)
    by_cases hlt2 : k < s.size
    · have ht : (k : Int) < (s.size : Int) := by omega
      by_cases c0 : s[k] = 32
      · have t0 : ((s[k].toNat : Int) == 32) = true := eq_byte (n := 32) (by decide) c0
        have HE : Hid (space (rest s k) = space (rest s (k + 1))) := hideP (space_skip s k hlt2 (by rw [c0]; decide))
        clear c0
        go_wp2_with fail
        go_quiet (fail)
        go_wp2_with fail
        go_quiet (fail)
        go_wp2_with fail
        go_roundw
        case rel => exact ⟨k + 1, by omega, by omega, hideP (HQ.out.trans HE.out), hideP ((HM.out.drewN _).step (k + 1))⟩
        case measure => exact meas (k + 1) _ (by omega) hlt2 (hideP ((HM.out.drewN _).step (k + 1)))
      have t0 : ((s[k].toNat : Int) == 32) = false := ne_byte (n := 32) c0
      by_cases c1 : s[k] = 9
      · have t1 : ((s[k].toNat : Int) == 9) = true := eq_byte (n := 9) (by decide) c1
        have HE : Hid (space (rest s k) = space (rest s (k + 1))) := hideP (space_skip s k hlt2 (by rw [c1]; decide))
        clear c0 c1
        go_wp2_with fail
        go_quiet (fail)
        go_wp2_with fail
        go_quiet (fail)
        go_wp2_with fail
        go_roundw
        case rel => exact ⟨k + 1, by omega, by omega, hideP (HQ.out.trans HE.out), hideP ((HM.out.drewN _).step (k + 1))⟩
        case measure => exact meas (k + 1) _ (by omega) hlt2 (hideP ((HM.out.drewN _).step (k + 1)))
      have t1 : ((s[k].toNat : Int) == 9) = false := ne_byte (n := 9) c1
      by_cases c2 : s[k] = 13
      · have t2 : ((s[k].toNat : Int) == 13) = true := eq_byte (n := 13) (by decide) c2
        have HE : Hid (space (rest s k) = space (rest s (k + 1))) := hideP (space_skip s k hlt2 (by rw [c2]; decide))
        clear c0 c1 c2
        go_wp2_with fail
        go_quiet (fail)
        go_wp2_with fail
        go_quiet (fail)
        go_wp2_with fail
        go_roundw
        case rel => exact ⟨k + 1, by omega, by omega, hideP (HQ.out.trans HE.out), hideP ((HM.out.drewN _).step (k + 1))⟩
        case measure => exact meas (k + 1) _ (by omega) hlt2 (hideP ((HM.out.drewN _).step (k + 1)))
      have t2 : ((s[k].toNat : Int) == 13) = false := ne_byte (n := 13) c2
      by_cases c3 : s[k] = 10
      · have t3 : ((s[k].toNat : Int) == 10) = true := eq_byte (n := 10) (by decide) c3
        have HE : Hid (space (rest s k) = space (rest s (k + 1))) := hideP (space_skip s k hlt2 (by rw [c3]; decide))
        clear c0 c1 c2 c3
        go_wp2_with fail
        go_quiet (fail)
        go_wp2_with fail
        go_quiet (fail)
        go_wp2_with fail
        go_roundw
        case rel => exact ⟨k + 1, by omega, by omega, hideP (HQ.out.trans HE.out), hideP ((HM.out.drewN _).step (k + 1))⟩
        case measure => exact meas (k + 1) _ (by omega) hlt2 (hideP ((HM.out.drewN _).step (k + 1)))
      have t3 : ((s[k].toNat : Int) == 10) = false := ne_byte (n := 10) c3
      have hsp : isSp s[k] = false := by unfold isSp; simp [c0, c1, c2, c3]
      by_cases c4 : s[k] = 40
      · have t4 : ((s[k].toNat : Int) == 40) = true := eq_byte (n := 40) (by decide) c4
        have Hc4 : Hid (s[k] = 40) := hideP c4
        have HE : Hid (space (rest s k) = (com 0 false (rest s k)).bind fun r => space r) := hideP (space_com s k hlt2 c4)
        clear c0 c1 c2 c3 c4 hsp
        go_wp2_with fail
        go_quiet (fail)
        go_wp2_with fail
        go_quiet (fail)
        go_wp2_with (go_at_call 13; refine (comment_any F R s k _ (by exact HFr.out) (by exact (HM.out.drewN _).rd) hlt2 Hc4.out hs).mono ?_)
        rintro e w1 (⟨j, hkj, hj, hq, rfl, hm⟩ | ⟨hq, v, rfl, hv, hg⟩)
        · go_wp2_with fail
          go_roundw
          case rel => exact ⟨j, by omega, by omega, hideP (HQ.out.trans (HE.out.trans (by rw [hq]; rfl))), hideP ((HM.out.drewN _).trans hm)⟩
          case measure => exact meas j _ (by omega) hlt2 (hideP ((HM.out.drewN _).trans hm))
        · obtain ⟨b, t, rfl, hb, hcell⟩ := id hv
          go_wp2_with fail
          go_ret
          exact Or.inr ⟨HQ.out.trans (HE.out.trans (by rw [hq]; rfl)), _, rfl, hv, (HM.out.drewN _).grown.trans hg⟩
      have t4 : ((s[k].toNat : Int) == 40) = false := ne_byte (n := 40) c4
      have HE : Hid (space (rest s k) = some (rest s k)) := hideP (space_stop s k hlt2 hsp c4)
      clear c0 c1 c2 c3 c4 hsp
      go_wp2_with fail
      go_quiet (fail)
      go_wp2_with fail
      go_quiet (fail)
      go_wp2_with fail
      go_ret
      exact Or.inl ⟨k, hik, hk, HQ.out.trans HE.out, rfl, HM.out.drewN _⟩
    · have ht : decide ((k : Int) < (s.size : Int)) = false := decide_eq_false (by omega)
      go_wp2_with fail
      go_quiet (fail)
      go_wp2_with fail
      go_ret
      refine Or.inl ⟨k, hik, hk, HQ.out.trans ?_, rfl, HM.out.drewN _⟩
      rw [rest_end s k (by omega)]; rfl
end Go.Proofs.Qxb6614847aFmt
