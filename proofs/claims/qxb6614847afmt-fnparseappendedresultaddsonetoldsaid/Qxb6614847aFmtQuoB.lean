/-
  The walk of quotedString.
-/
import Derived.Test.Qxb6614847aFmtQuoA
namespace Go.Proofs.Qxb6614847aFmt
open Go.RowKit Go.Extern.Stop Go.Stop Go.Extern Go.Sort

set_option maxHeartbeats 4000000 in
set_option maxRecDepth 20000 in
theorem quoted_any (F : Interp) (R : Nat) (s : ByteArray) (i : Nat) (w : World) (hF : F.answers w.tape) (h : Rd w R s i) (hi : i < s.size) (hs : s.size ≤ 2097152) :
    Calls Tryf.prog 15 #[.pointer (some ⟨R, 0, none⟩)] w (QPost w R s i) := by
  have HR : Hid (Rd w R s i) := hideP h
  have HF : Hid (F.answers w.tape) := hideP hF
  have hne : ¬ R = w.heap.size := by have := h.lt; omega
  obtain ⟨hlt, h0, h1, h2⟩ := h
  clear hF
  go_enter Tryf.func15, Tryf.ntmps15
  go_wp2
  clear h0 h1 h2
  go_loopw [] (fun wr => ∃ (k : Nat) (acc : List UInt8), i + 1 ≤ k ∧ k ≤ s.size ∧ acc.length ≤ k ∧ Hid (quo [] (rest s (i + 1)) = quo acc (rest s k)) ∧ Hid (Lib.IsBuilder 57 5 w.heap.size w.heap.size (Lib.byteCells acc) wr) ∧ Hid (Moved w wr R s k)) (fun wr => s.size - posAt R wr)
  case atStart => exact ⟨i + 1, [], Nat.le_refl _, hi, Nat.zero_le _, hideP rfl, hideP (start_builder _ _ _), hideP (start_moved HR.out _)⟩
  case round =>
    obtain ⟨k, acc, hik, hk, hacc, HQ, HB, HM⟩ := hrel
    have g0 := HM.out.rd.text
    have g1 := HM.out.rd.pos
    have g2 := HM.out.rd.free
    have meas : ∀ k' w', k < k' → k < s.size → Hid (Moved w w' R s k') → s.size - posAt R w' < s.size - posAt R wr := fun k' w' hkk hks Hm => by
      rw [posAt_rd Hm.out.rd, posAt_rd HM.out.rd]; omega
    have HFr : Hid (F.answers wr.tape) := hideP (answers_grown HF.out HM.out.grown)
    have gi : (i : Int) ≤ (k : Int) := by omega
    by_cases hlt2 : k < s.size
    · have ht : (k : Int) < (s.size : Int) := by omega
      have HS : Hid (quo acc (rest s k) = if s[k] = 92 then (match rest s (k + 1) with | [] => none | d :: r' => quo (acc ++ [d]) r') else if s[k] = 34 then some (acc, rest s (k + 1)) else quo (acc ++ [s[k]]) (rest s (k + 1))) := hideP (quo_step s k acc hlt2)
      by_cases c1 : s[k] = 92
      · have t1 : ((s[k].toNat : Int) == 92) = true := eq_byte (n := 92) (by decide) c1
        have Hc1 : Hid (s[k] = 92) := hideP c1
        clear c1
        by_cases hend : k + 1 = s.size
        · have te : (((k : Int) + 1) == (s.size : Int)) = true := by rw [beq_iff_eq]; omega
          go_wp2_with fail
          go_quiet (fail)
          go_wp2_with fail
          go_quiet (fail)
          go_wp2_with fail
          go_quiet (fail)
          go_wp2_with (go_at_call 18; refine (new_any _ _).mono ?_; rintro e w1 ⟨v, rfl, hv, hb⟩)
          go_returns
          refine Or.inr ⟨?_, v, rfl, hv, grown_below (((HM.out.drewN _).step (k + 1)).drewN _).grown (by simpa using HM.out.grown.size) hb⟩
          rw [HQ.out, HS.out, if_pos Hc1.out, rest_end s (k + 1) (by omega)]
        · have te : (((k : Int) + 1) == (s.size : Int)) = false := by simpa using fun e => hend (by omega)
          have hk1 : k + 1 < s.size := by omega
          have ht1 : (k : Int) + 1 < (s.size : Int) := by omega
          go_wp2_with fail
          go_quiet (fail)
          go_wp2_with fail
          go_quiet (fail)
          go_wp2_with fail
          go_quiet (fail)
          go_wp2_with fail
          generalize hW : ((wr.drewN _).setCell ⟨R, 1, none⟩ (.int .i64 ((k : Int) + 1))).drewN nq = wk
          have HMk : Hid (Moved w wk R s (k + 1)) := by rw [← hW]; exact hideP (((HM.out.drewN _).step (k + 1)).drewN _)
          have HBk : Hid (Lib.IsBuilder 57 5 w.heap.size w.heap.size (Lib.byteCells acc) wk) := by rw [← hW]; exact hideP (builder_drewN (builder_step (builder_drewN HB.out _) hlt _) _)
          have k0 := HMk.out.rd.text
          have k1 : wk.cell? ⟨R, 1, none⟩ = some (.int .i64 ((k : Int) + 1)) := HMk.out.rd.pos
          have k2 := HMk.out.rd.free
          clear hW g0 g1 g2
          go_region_held3 (fun w' => w'.cell? ⟨R, 0, none⟩ = some (.string s) ∧ w'.cell? ⟨R, 1, none⟩ = some (.int .i64 ((k : Int) + 1))) (go_keep) ((go_at_call 23; refine (writeByte_is w.heap.size w.heap.size acc s[k + 1] _ ?_ ?_ ?_).mono ?_; exact builder_drewN HBk.out 1; omega; exact HMk.out.grown.size; rintro e w1 ⟨rfl, hb1, hb2⟩; have Hb1 := hideP hb1; have HM1 : Hid (Moved w w1 R s (k + 1)) := hideP ((HMk.out.drewN 1).below hlt (Nat.le_refl _) hb2); have l0 := HM1.out.rd.text; have l1 : w1.cell? ⟨R, 1, none⟩ = some (.int .i64 ((k : Int) + 1)) := HM1.out.rd.pos; have l2 := HM1.out.rd.free; clear hb1 hb2))
          go_wp2_with fail
          go_roundw
          case rel => exact ⟨k + 2, acc ++ [s[k + 1]], by omega, by omega, by simp; omega, hideP (HQ.out.trans (by rw [HS.out, if_pos Hc1.out, rest_cons s (k + 1) hk1])), hideP (builder_step Hb1.out hlt _), hideP (HM1.out.step (k + 2))⟩
          case measure => exact meas (k + 2) _ (by omega) hlt2 (hideP (HM1.out.step (k + 2)))
      have t1 : ((s[k].toNat : Int) == 92) = false := ne_byte (n := 92) c1
      by_cases c2 : s[k] = 34
      · have t2 : ((s[k].toNat : Int) == 34) = true := eq_byte (n := 34) (by decide) c2
        have Hc1 : Hid (¬ s[k] = 92) := hideP c1
        have Hc2 : Hid (s[k] = 34) := hideP c2
        have gi2 : (i : Int) ≤ (k : Int) + 1 := by omega
        have gk2 : (k : Int) + 1 ≤ (s.size : Int) := by omega
        clear c1 c2
        go_wp2_with fail
        go_quiet (fail)
        go_wp2_with fail
        go_quiet (fail)
        go_wp2_with fail
        generalize hW : (wr.drewN _).setCell ⟨R, 1, none⟩ (.int .i64 ((k : Int) + 1)) = wk
        have HMk : Hid (Moved w wk R s (k + 1)) := by rw [← hW]; exact hideP ((HM.out.drewN _).step (k + 1))
        have HBk : Hid (Lib.IsBuilder 57 5 w.heap.size w.heap.size (Lib.byteCells acc) wk) := by rw [← hW]; exact hideP (builder_step (builder_drewN HB.out _) hlt _)
        have k0 := HMk.out.rd.text
        have k1 : wk.cell? ⟨R, 1, none⟩ = some (.int .i64 ((k : Int) + 1)) := HMk.out.rd.pos
        clear hW g0 g1 g2
        go_region_held3 (fun w' => w'.cell? ⟨R, 0, none⟩ = some (.string s) ∧ w'.cell? ⟨R, 1, none⟩ = some (.int .i64 ((k : Int) + 1))) (go_keep) ((go_at_call 24; refine (builderString_is w.heap.size w.heap.size acc _ ?_ ?_).mono ?_; exact builder_drewN HBk.out 1; exact HMk.out.grown.size; rintro e w1 ⟨rfl, hb2⟩; have HM1 : Hid (Moved w w1 R s (k + 1)) := hideP ((HMk.out.drewN 1).below hlt (Nat.le_refl _) hb2); have l0 := HM1.out.rd.text; have l1 : w1.cell? ⟨R, 1, none⟩ = some (.int .i64 ((k : Int) + 1)) := HM1.out.rd.pos; clear hb2))
        go_wp2_with fail
        go_returns
        refine Or.inl ⟨k + 1, acc, by omega, by omega, ?_, rfl, HM1.out⟩
        rw [HQ.out, HS.out, if_neg Hc1.out, if_pos Hc2.out]
      have t2 : ((s[k].toNat : Int) == 34) = false := ne_byte (n := 34) c2
      have HE : Hid (quo acc (rest s k) = quo (acc ++ [s[k]]) (rest s (k + 1))) := hideP (by rw [HS.out, if_neg c1, if_neg c2])
      clear c1 c2
      go_wp2_with fail
      go_quiet (fail)
      go_wp2_with fail
      go_quiet (fail)
      go_wp2_with (go_at_call 23; refine (writeByte_is w.heap.size w.heap.size acc s[k] _ (by exact builder_drewN HB.out _) (by omega) (by exact HM.out.grown.size)).mono ?_; rintro e w1 ⟨rfl, hb1, hb2⟩; have Hb1 := hideP hb1; have HM1 : Hid (Moved w w1 R s k) := hideP ((HM.out.drewN _).below hlt (Nat.le_refl _) hb2); have l0 := HM1.out.rd.text; have l1 := HM1.out.rd.pos; have l2 := HM1.out.rd.free; clear hb1 hb2)
      go_roundw
      case rel => exact ⟨k + 1, acc ++ [s[k]], by omega, by omega, by simp; omega, hideP (HQ.out.trans HE.out), hideP (builder_step Hb1.out hlt _), hideP (HM1.out.step (k + 1))⟩
      case measure => exact meas (k + 1) _ (by omega) hlt2 (hideP (HM1.out.step (k + 1)))
    · have ht : decide ((k : Int) < (s.size : Int)) = false := decide_eq_false (by omega)
      go_wp2_with fail
      go_quiet (fail)
      go_wp2_with (go_at_call 10; refine (errorf_quoted F _ _ _ (by exact HFr.out) (alloc_cell _ _ 0 _ _ rfl)).mono ?_; rintro e w1 ⟨v, rfl, hv, hb⟩)
      go_returns
      right
      refine ⟨?_, v, rfl, hv, ?_⟩
      · rw [HQ.out, rest_end s k (by omega)]; rfl
      · exact grown_below (B := (wr.drewN nq).heap.size) (HM.out.drewN nq).grown HM.out.grown.size (((Below.refl _ _).alloc (Nat.le_refl _) _).trans (hb.mono (by simp)))
end Go.Proofs.Qxb6614847aFmt
