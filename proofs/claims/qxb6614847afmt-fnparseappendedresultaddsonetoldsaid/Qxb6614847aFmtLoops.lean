/-
  The walks of isDigit, isKeywordByte, digits.
-/
import Derived.Test.Qxb6614847aFmtReadB
namespace Go.Proofs.Qxb6614847aFmt
open Go.RowKit Go.Extern.Stop Go.Stop Go.Extern

theorem isDigit_any (n : Int) (w : World) : Calls Tryf.prog 19 #[.int .u8 n] w fun e w' => e = .returned (.bool (decide (48 ≤ n) && decide (n ≤ 57))) ∧ w' = w := by
  by_cases h : 48 ≤ n
  · go_enter Tryf.func19, Tryf.ntmps19
    go_wp2
    go_ret
    exact ⟨by rw [decide_eq_true h]; rfl, rfl⟩
  · go_enter Tryf.func19, Tryf.ntmps19
    go_wp2
    go_ret
    exact ⟨by rw [decide_eq_false (show ¬ 48 ≤ n by omega)]; rfl, rfl⟩
theorem digB_int (c : UInt8) : (decide ((48 : Int) ≤ (c.toNat : Int)) && decide ((c.toNat : Int) ≤ 57)) = digB c := by
  unfold digB
  rw [Bool.eq_iff_iff, Bool.and_eq_true, Bool.and_eq_true, decide_eq_true_iff, decide_eq_true_iff, decide_eq_true_iff, decide_eq_true_iff]
  omega
theorem isDigit_is (c : UInt8) (b : Bool) (h : digB c = b) (w : World) : Calls Tryf.prog 19 #[.int .u8 (c.toNat : Int)] w fun e w' => e = .returned (.bool b) ∧ w' = w := by
  rw [← h, ← digB_int]; exact isDigit_any _ w

/-! ### a loop that takes bytes while they please -/
theorem while_at (p : UInt8 → Bool) (l : List UInt8) (i : Nat) : ∀ (n k : Nat), k = i + n → k ≤ l.length → (∀ t c, i ≤ t → t < k → l[t]? = some c → p c = true) → (∀ c, l[k]? = some c → p c = false) →
    (l.drop i).takeWhile p = (l.drop i).take n ∧ (l.drop i).dropWhile p = l.drop k := by
  intro n
  induction n generalizing i with
  | zero =>
    intro k hk hl _ hend
    obtain rfl : k = i := by omega
    cases hd : l.drop k with
    | nil => exact ⟨rfl, rfl⟩
    | cons c r =>
      have hc : l[k]? = some c := by
        have := List.getElem?_drop (xs := l) (i := k) (j := 0)
        rw [hd] at this
        rw [Nat.add_zero] at this
        exact this.symm
      rw [List.takeWhile_cons, List.dropWhile_cons, hend c hc]
      exact ⟨rfl, rfl⟩
  | succ n ih =>
    intro k hk hl hall hend
    have hi : i < l.length := by omega
    have hd : l.drop i = l[i] :: l.drop (i + 1) := List.drop_eq_getElem_cons hi
    have hp : p l[i] = true := hall i _ (Nat.le_refl _) (by omega) (List.getElem?_eq_getElem hi)
    have h := ih (i + 1) k (by omega) hl (fun t c h1 h2 h3 => hall t c (by omega) h2 h3) hend
    rw [hd, List.takeWhile_cons, List.dropWhile_cons, hp, if_pos rfl, if_pos rfl, List.take_succ_cons]
    exact ⟨by rw [h.1], h.2⟩
/-- Where the reader stands. -/
def posAt (R : Nat) (w : World) : Nat := match w.cell? ⟨R, 1, none⟩ with
  | some (.int _ q) => q.toNat
  | _ => 0
theorem posAt_rd {w : World} {R : Nat} {s : ByteArray} {i : Nat} (h : Rd w R s i) : posAt R w = i := by
  unfold posAt
  rw [h.pos]
  simp
/-- The reader has moved, nothing else has turned. -/
structure Moved (w w' : World) (R : Nat) (s : ByteArray) (j : Nat) : Prop where
  rd : Rd w' R s j
  grown : w.grownBy w' (some R)
theorem Moved.drewN {w w' : World} {R : Nat} {s : ByteArray} {j : Nat} (h : Moved w w' R s j) (n : Nat) : Moved w (w'.drewN n) R s j :=
  ⟨⟨h.rd.lt, h.rd.text, h.rd.pos, h.rd.free⟩, ⟨h.grown.os, h.grown.tape, h.grown.output, h.grown.size, h.grown.block⟩⟩
theorem Moved.step {w w' : World} {R : Nat} {s : ByteArray} {j : Nat} (h : Moved w w' R s j) (k : Nat) : Moved w (w'.setCell ⟨R, 1, none⟩ (.int .i64 (k : Int))) R s k := by
  refine ⟨⟨by rw [World.size_setCell]; exact h.rd.lt, ?_, ?_, ?_⟩, ⟨h.grown.os, h.grown.tape, h.grown.output, by rw [World.size_setCell]; exact h.grown.size, fun i hi hne => ?_⟩⟩
  · rw [World.cell?_setCell_other _ _ _ _ (by simp)]; exact h.rd.text
  · exact World.cell?_setCell_same _ _ _ h.rd.pos
  · rw [World.frozen?_setCell]; exact h.rd.free
  · rw [Below.heap_setCell _ _ _ _ (fun e => hne (by rw [e]))]; exact h.grown.block i hi hne
theorem Moved.refl {w : World} {R : Nat} {s : ByteArray} {i : Nat} (h : Rd w R s i) : Moved w w R s i := ⟨h, World.grownBy.refl _ _⟩
theorem get_at (s : ByteArray) (t : Nat) (h : t < s.size) : s.data.toList[t]? = some s[t] := by
  rw [List.getElem?_eq_getElem (by simpa using h)]; rfl

set_option maxHeartbeats 1000000 in
theorem digits_any (R : Nat) (s : ByteArray) (i : Nat) (w : World) (h : Rd w R s i) (hi : i ≤ s.size) (hs : s.size ≤ 2097152) :
    Calls Tryf.prog 20 #[.pointer (some ⟨R, 0, none⟩)] w fun e w' => ∃ j, i ≤ j ∧ j ≤ s.size ∧ (∀ t c, i ≤ t → t < j → s.data.toList[t]? = some c → digB c = true) ∧ (∀ c, s.data.toList[j]? = some c → digB c = false) ∧ e = .returned (.string (s.extract i j)) ∧ Moved w w' R s j := by
  have HR : Hid (Rd w R s i) := hideP h
  obtain ⟨_, h0, h1, _⟩ := h
  go_enter Tryf.func20, Tryf.ntmps20
  go_wp2
  clear h0 h1
  go_loopw [] (fun wr => ∃ k : Nat, i ≤ k ∧ k ≤ s.size ∧ Hid (∀ t c, i ≤ t → t < k → s.data.toList[t]? = some c → digB c = true) ∧ Hid (Moved w wr R s k)) (fun wr => s.size - posAt R wr)
  case atStart => exact ⟨i, Nat.le_refl _, hi, fun t c h1 h2 => absurd h2 (by omega), Moved.refl HR.out⟩
  case round =>
    obtain ⟨k, hik, hk, HA, HM⟩ := hrel
    have g0 := HM.out.rd.text
    have g1 := HM.out.rd.pos
    have g2 := HM.out.rd.free
    by_cases hlt : k < s.size
    · have ht : (k : Int) < (s.size : Int) := by omega
      cases hdg : digB s[k] with
      | true =>
        have Hd : Hid (digB s[k] = true) := hideP hdg
        clear hdg
        go_wp2_with fail
        go_quiet ((go_at_call 19; refine Calls.quiet_of_same (isDigit_is _ true Hd.out _)))
        go_wp2_with fail
        go_roundw
        case rel => exact ⟨k + 1, by omega, by omega, hideP (fun t c h1 h2 h3 => by
          by_cases e : t = k
          · subst e; rw [get_at s _ hlt] at h3; rw [← Option.some.inj h3]; exact Hd.out
          · exact HA.out t c h1 (by omega) h3), hideP ((HM.out.drewN _).step (k + 1))⟩
        case measure =>
          have e1 := posAt_rd ((HM.out.drewN nq).step (k + 1)).rd
          have e2 := posAt_rd HM.out.rd
          show s.size - posAt R _ < s.size - posAt R _
          rw [e2]
          exact Nat.lt_of_le_of_lt (Nat.le_of_eq (congrArg (s.size - ·) e1)) (by omega)
      | false =>
        have Hd : Hid (digB s[k] = false) := hideP hdg
        have gi : (i : Int) ≤ (k : Int) := by omega
        have gk : (k : Int) ≤ (s.size : Int) := by omega
        clear hdg
        go_wp2_with fail
        go_quiet ((go_at_call 19; refine Calls.quiet_of_same (isDigit_is _ false Hd.out _)))
        go_wp2_with fail
        go_quiet (fail)
        go_wp2_with fail
        go_ret
        exact ⟨k, hik, hk, HA.out, (fun c h => by rw [get_at s _ hlt] at h; rw [← Option.some.inj h]; exact Hd.out), rfl, (HM.out.drewN _).drewN _⟩
    · have ht : decide ((k : Int) < (s.size : Int)) = false := decide_eq_false (by omega)
      have gi : (i : Int) ≤ (k : Int) := by omega
      have gk : (k : Int) ≤ (s.size : Int) := by omega
      go_wp2_with fail
      go_quiet (fail)
      go_wp2_with fail
      go_quiet (fail)
      go_wp2_with fail
      go_ret
      exact ⟨k, hik, hk, HA.out, (fun c h => by rw [List.getElem?_eq_none (by simp; omega)] at h; cases h), rfl, (HM.out.drewN _).drewN _⟩
end Go.Proofs.Qxb6614847aFmt
