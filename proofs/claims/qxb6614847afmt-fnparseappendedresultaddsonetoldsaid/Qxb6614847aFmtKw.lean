/-
  The walk of keyword.
-/
import Derived.Test.Qxb6614847aFmtTok
namespace Go.Proofs.Qxb6614847aFmt
open Go.RowKit Go.Extern.Stop Go.Stop Go.Extern Go.Sort

theorem lower_low (c : UInt8) : Lib.lowerB c = low c := by
  unfold Lib.lowerB low Lib.isUpperB
  have e : (decide (65 ≤ c) && decide (c ≤ 90)) = true ↔ (65 ≤ c.toNat ∧ c.toNat ≤ 90) := by
    rw [Bool.and_eq_true, decide_eq_true_iff, decide_eq_true_iff, UInt8.le_iff_toNat_le, UInt8.le_iff_toNat_le]
    exact Iff.rfl
  by_cases h : 65 ≤ c.toNat ∧ c.toNat ≤ 90
  · rw [if_pos h, if_pos (e.mpr h)]
  · rw [if_neg h, if_neg (fun k => h (e.mp k))]
theorem kwB_ascii {c : UInt8} (h : kwB c = true) : c.toNat < 128 := by
  rw [kwB_val] at h
  simp only [Bool.or_eq_true, Bool.and_eq_true, decide_eq_true_iff] at h
  omega
theorem lower_is {s : ByteArray} {i k : Nat} (HA : ∀ t c, i ≤ t → t < k → s.data.toList[t]? = some c → kwB c = true) (hs : s.size ≤ 2097152) (w : World) :
    Calls Tryf.prog 31 #[.string (s.extract i k)] w fun e w' => e = .returned (.string ⟨(Lib.toLowerA (s.extract i k).data.toList).toArray⟩) ∧ Below w.heap.size w w' := by
  refine Any.strings_ToLower_ascii Tryf.lays159 Tryf.Builder_Extra_159 (s.extract i k) w ?_ ?_
  · rw [ByteArray.size_extract]; omega
  · intro j b hj
    rw [extract_list] at hj
    unfold rest at hj
    rw [List.getElem?_take] at hj
    split at hj
    · rw [List.getElem?_drop] at hj
      exact kwB_ascii (HA (i + j) b (by omega) (by omega) hj)
    · cases hj

set_option maxHeartbeats 1000000 in
theorem keyword_any (R : Nat) (s : ByteArray) (i : Nat) (w : World) (h : Rd w R s i) (hi : i ≤ s.size) (hs : s.size ≤ 2097152) :
    Calls Tryf.prog 25 #[.pointer (some ⟨R, 0, none⟩)] w fun e w' => ∃ j, i ≤ j ∧ j ≤ s.size ∧ (∀ t c, i ≤ t → t < j → s.data.toList[t]? = some c → kwB c = true) ∧ (∀ c, s.data.toList[j]? = some c → kwB c = false) ∧ e = .returned (.string ⟨(Lib.toLowerA (s.extract i j).data.toList).toArray⟩) ∧ Moved w w' R s j := by
  have HR : Hid (Rd w R s i) := hideP h
  obtain ⟨_, h0, h1, _⟩ := id h
  go_enter Tryf.func25, Tryf.ntmps25
  go_wp2
  clear h0 h1
  go_loopw [] (fun wr => ∃ k : Nat, i ≤ k ∧ k ≤ s.size ∧ Hid (∀ t c, i ≤ t → t < k → s.data.toList[t]? = some c → kwB c = true) ∧ Hid (Moved w wr R s k)) (fun wr => s.size - posAt R wr)
  case atStart => exact ⟨i, Nat.le_refl _, hi, fun t c h1 h2 => absurd h2 (by omega), Moved.refl HR.out⟩
  case round =>
    obtain ⟨k, hik, hk, HA, HM⟩ := hrel
    have g0 := HM.out.rd.text
    have g1 := HM.out.rd.pos
    have g2 := HM.out.rd.free
    by_cases hlt : k < s.size
    · have ht : (k : Int) < (s.size : Int) := by omega
      cases hdg : kwB s[k] with
      | true =>
        have Hd : Hid (kwB s[k] = true) := hideP hdg
        clear hdg
        go_wp2_with fail
        go_quiet ((go_at_call 30; refine Calls.quiet_of_same (kwb_is _ true Hd.out _)))
        go_wp2_with fail
        go_roundw
        case rel => exact ⟨k + 1, by omega, by omega, hideP (fun t c h1 h2 h3 => by
          by_cases e : t = k
          · subst e; rw [get_at s _ hlt] at h3; rw [← Option.some.inj h3]; exact Hd.out
          · exact HA.out t c h1 (by omega) h3), hideP ((HM.out.drewN _).step (k + 1))⟩
        case measure =>
          have e1 := posAt_rd ((HM.out.drewN nq).step (k + 1)).rd
          have e2 := posAt_rd HM.out.rd
          show s.size - posAt R _ < s.size - posAt R _
          rw [e2]
          exact Nat.lt_of_le_of_lt (Nat.le_of_eq (congrArg (s.size - ·) e1)) (by omega)
      | false =>
        have Hd : Hid (kwB s[k] = false) := hideP hdg
        have gi : (i : Int) ≤ (k : Int) := by omega
        have gk : (k : Int) ≤ (s.size : Int) := by omega
        clear hdg
        go_wp2_with fail
        go_quiet ((go_at_call 30; refine Calls.quiet_of_same (kwb_is _ false Hd.out _)))
        go_wp2_with fail
        obtain ⟨wk, hwk⟩ : ∃ wk, wk = wr.drewN nq := ⟨_, rfl⟩
        have hMk : Hid (Moved w wk R s k) := by rw [hwk]; exact hideP (HM.out.drewN nq)
        rw [← hwk]
        clear hwk g0 g1 g2
        have k0 : ∀ d os, (grow (redrawn wk d) os).cell? ⟨R, 0, none⟩ = some (.string s) := fun d os => cell_regrown hMk.out.rd.text d os
        have k1 : ∀ d os, (grow (redrawn wk d) os).cell? ⟨R, 1, none⟩ = some (.int .i64 (k : Int)) := fun d os => cell_regrown hMk.out.rd.pos d os
        have cT : ∀ d os, Calls Tryf.prog 31 #[.string (s.extract i k)] (grow (redrawn wk d) os) fun e w'' => e = .returned (.string ⟨(Lib.toLowerA (s.extract i k).data.toList).toArray⟩) ∧ ∃ p : Regrown, w'' = grow (redrawn wk p.d) p.os := fun d os => Calls.regrown_of (lower_is (fun t c h1 h2 h3 => HA.out t c h1 h2 h3) hs _)
        refine wp_region_quiet_below (by kernel_rfl) (by kernel_rfl) ?_
        repeat (quiet_step (exact cT _ _))
        refine wpQuiet_nil ?_
        intro w5 hw5
        obtain ⟨p5, hw5⟩ := hw5
        subst hw5
        go_wp2_with fail
        go_ret
        exact ⟨k, hik, hk, HA.out, (fun c h => by rw [get_at s _ hlt] at h; rw [← Option.some.inj h]; exact Hd.out), (by show Ending.returned (.string ⟨(Lib.toLowerA (List.take (k - i) (List.drop i s.data.toList))).toArray⟩) = _; rw [extract_list]; rfl), hMk.out.below h.lt hMk.out.grown.size (below_regrown _ _ _)⟩
    · have ht : decide ((k : Int) < (s.size : Int)) = false := decide_eq_false (by omega)
      have gi : (i : Int) ≤ (k : Int) := by omega
      have gk : (k : Int) ≤ (s.size : Int) := by omega
      go_wp2_with fail
      go_quiet (fail)
      go_wp2_with fail
      obtain ⟨wk, hwk⟩ : ∃ wk, wk = wr.drewN nq := ⟨_, rfl⟩
      have hMk : Hid (Moved w wk R s k) := by rw [hwk]; exact hideP (HM.out.drewN nq)
      rw [← hwk]
      clear hwk g0 g1 g2
      have k0 : ∀ d os, (grow (redrawn wk d) os).cell? ⟨R, 0, none⟩ = some (.string s) := fun d os => cell_regrown hMk.out.rd.text d os
      have k1 : ∀ d os, (grow (redrawn wk d) os).cell? ⟨R, 1, none⟩ = some (.int .i64 (k : Int)) := fun d os => cell_regrown hMk.out.rd.pos d os
      have cT : ∀ d os, Calls Tryf.prog 31 #[.string (s.extract i k)] (grow (redrawn wk d) os) fun e w'' => e = .returned (.string ⟨(Lib.toLowerA (s.extract i k).data.toList).toArray⟩) ∧ ∃ p : Regrown, w'' = grow (redrawn wk p.d) p.os := fun d os => Calls.regrown_of (lower_is (fun t c h1 h2 h3 => HA.out t c h1 h2 h3) hs _)
      refine wp_region_quiet_below (by kernel_rfl) (by kernel_rfl) ?_
      repeat (quiet_step (exact cT _ _))
      refine wpQuiet_nil ?_
      intro w5 hw5
      obtain ⟨p5, hw5⟩ := hw5
      subst hw5
      go_wp2_with fail
      go_ret
      exact ⟨k, hik, hk, HA.out, (fun c h => by rw [List.getElem?_eq_none (by simp; omega)] at h; cases h), (by show Ending.returned (.string ⟨(Lib.toLowerA (List.take (k - i) (List.drop i s.data.toList))).toArray⟩) = _; rw [extract_list]; rfl), hMk.out.below h.lt hMk.out.grown.size (below_regrown _ _ _)⟩

theorem keyword_is (R : Nat) (s : ByteArray) (i : Nat) (w : World) (h : Rd w R s i) (hi : i ≤ s.size) (hs : s.size ≤ 2097152) :
    Calls Tryf.prog 25 #[.pointer (some ⟨R, 0, none⟩)] w fun e w' => ∃ j, i ≤ j ∧ j ≤ s.size ∧ (rest s i).dropWhile kwB = rest s j ∧ e = .returned (.string ⟨(kw (rest s i)).toArray⟩) ∧ Moved w w' R s j := by
  refine (keyword_any R s i w h hi hs).mono ?_
  rintro e w' ⟨j, hij, hj, h1, h2, rfl, hm⟩
  have hw := while_at kwB s.data.toList i (j - i) j (by omega) (by simpa using hj) h1 h2
  refine ⟨j, hij, hj, hw.2, ?_, hm⟩
  unfold kw
  rw [takeWhile_at kwB hij hw.2]
  have e1 : Lib.lowerB = low := funext lower_low
  show _ = Ending.returned (.string ⟨(List.map low _).toArray⟩)
  rw [← e1]
  rfl
theorem digits_is (R : Nat) (s : ByteArray) (i : Nat) (w : World) (h : Rd w R s i) (hi : i ≤ s.size) (hs : s.size ≤ 2097152) :
    Calls Tryf.prog 20 #[.pointer (some ⟨R, 0, none⟩)] w fun e w' => ∃ j, i ≤ j ∧ j ≤ s.size ∧ (rest s i).dropWhile digB = rest s j ∧ e = .returned (.string ⟨((rest s i).takeWhile digB).toArray⟩) ∧ Moved w w' R s j := by
  refine (digits_any R s i w h hi hs).mono ?_
  rintro e w' ⟨j, hij, hj, h1, h2, rfl, hm⟩
  have hw := while_at digB s.data.toList i (j - i) j (by omega) (by simpa using hj) h1 h2
  refine ⟨j, hij, hj, hw.2, ?_, hm⟩
  rw [takeWhile_at digB hij hw.2]
end Go.Proofs.Qxb6614847aFmt
