/-
  The walk of FnRangeCheckIsItsThreePartsAndCheckKey, over what Check, CheckKey and zzIsKey give.
-/
import Derived.Test.Qxb6608923aFmtRange
namespace Go.Proofs.Qxb6608923aFmt
open Go.RowKit Go.Extern.Stop Go.Stop Go.Extern Go.Lib

theorem ret_boolA {a b : Bool} (h : a = b) : Ending.returned (.bool a) = .returned (.bool b) := by rw [h]

theorem bytes5_in (p f : ByteArray) (l : Int) (w : World) (h : p.size + f.size ≤ 1048576) :
    Calls Tryf.prog 5 #[.string p, .string f, .int .i64 l] w fun e w' => e = .returned (.bool true) ∧ w' = w := by
  have h1 : (p.size : Int) ≤ 1048576 := by omega
  have h2 : (f.size : Int) ≤ 1048576 := by omega
  have h3 : (p.size : Int) + (f.size : Int) ≤ 1048576 := by omega
  go_enter Tryf.func5, Tryf.ntmps5
  go_wp2
  go_ret
  exact ⟨rfl, rfl⟩
theorem bytes5_out (p f : ByteArray) (l : Int) (w : World) (hp : p.size ≤ maxLen) (hf : f.size ≤ maxLen) (h : 1048576 < p.size + f.size) :
    Calls Tryf.prog 5 #[.string p, .string f, .int .i64 l] w fun e w' => e = .returned (.bool false) ∧ w' = w := by
  unfold maxLen at hp hf
  by_cases h1 : (1048576 : Int) < (p.size : Int)
  · go_enter Tryf.func5, Tryf.ntmps5
    go_wp2
    go_ret
    exact ⟨rfl, rfl⟩
  by_cases h2 : (1048576 : Int) < (f.size : Int)
  · go_enter Tryf.func5, Tryf.ntmps5
    go_wp2
    go_ret
    exact ⟨rfl, rfl⟩
  have h3 : (1048576 : Int) < (p.size : Int) + (f.size : Int) := by omega
  go_enter Tryf.func5, Tryf.ntmps5
  go_wp2
  go_ret
  exact ⟨rfl, rfl⟩

theorem lawA_out (p f : ByteArray) (l : Int) (w : World) (hp : p.size ≤ maxLen) (hf : f.size ≤ maxLen) (h : 1048576 < p.size + f.size) :
    Calls Tryf.prog 3 #[.string p, .string f, .int .i64 l] w fun e w' => e = .returned (.bool true) ∧ Below w.heap.size w w' := by
  go_enter Tryf.func3, Tryf.ntmps3
  go_wp2_with (go_at_call 5; refine (bytes5_out _ _ _ _ hp hf h).mono ?_; rintro e w' ⟨rfl, rfl⟩)
  go_ret
  exact ⟨rfl, Below.refl _ _⟩

/-- What '== nil' says of what came back. -/
def Verdict (b : Bool) (w : World) (e : Ending) (w' : World) : Prop :=
  ∃ v, e = .returned v ∧ ((∀ W, (binOp .eql 24 v .nilIface).run Tryf.prog W = .ok (.bool b) W) ∧ ∀ W x y, (eqGuard .eql 24 x (.const y) v .nilIface).run Tryf.prog W = .ok () W) ∧ Below w.heap.size w w'
theorem verdict_passed {w : World} {e : Ending} {w' : World} (h : Passed w e w') : Verdict true w e w' :=
  ⟨_, h.1, ⟨fun W => run_eql_nil_nil (w := W) 24 (by kernel_rfl), fun W x y => by simp [eqGuard]⟩, h.2⟩
theorem verdict_failed {w : World} {e : Ending} {w' : World} (h : Failed w e w') : Verdict false w e w' := by
  obtain ⟨T, x, he, hb⟩ := h
  exact ⟨_, he, ⟨fun W => run_eql_held_nil (w := W) 24 T x (by kernel_rfl), fun W x y => by simp [eqGuard]⟩, hb⟩
theorem verdict_refused {w : World} {e : Ending} {w' : World} (h : Refused w e w') : Verdict false w e w' := by
  obtain ⟨b, t, he, _, _, hb⟩ := h
  exact verdict_failed ⟨_, _, he, hb⟩

/-- Check's verdict. -/
theorem check_verdict (F : Interp) (p f : ByteArray) (l : Int) (w : World) (E : Env F w) (hf : f.size ≤ maxLen) :
    Calls Tryf.prog 6 #[.agg #[.string p, .string f, .int .i64 l]] w (Verdict (fromB f && (decide (p.size ≤ 1024) && decide (0 ≤ l))) w) := by
  by_cases h : fromB f = true ∧ p.size ≤ 1024 ∧ 0 ≤ l
  · have e : (fromB f && (decide (p.size ≤ 1024) && decide (0 ≤ l))) = true := by simp [h]
    rw [e]
    exact (check_passed F p f l w E hf h.1 h.2.1 h.2.2).mono fun _ _ => verdict_passed
  · have h' : fromB f = false ∨ 1024 < p.size ∨ l < 0 := by
      cases hv : fromB f with
      | false => exact .inl rfl
      | true => rw [hv] at h; simp at h; omega
    have e : (fromB f && (decide (p.size ≤ 1024) && decide (0 ≤ l))) = false := by
      rcases h' with h' | h' | h'
      · rw [h']; rfl
      · simp [show ¬ p.size ≤ 1024 by omega]
      · simp [show ¬ 0 ≤ l by omega]
    rw [e]
    exact (check_failed F p f l w E hf h').mono fun _ _ => verdict_failed
theorem key_verdict (F : Interp) (s : ByteArray) (w : World) (E : Env F w) (hs : s.size ≤ maxLen) : Calls Tryf.prog 7 #[.string s] w (Verdict (keyB s) w) := by
  cases hk : keyB s with
  | true => exact (key_passed F s w E hs hk).mono fun _ _ => verdict_passed
  | false => exact (key_refused F s w E hs hk).mono fun _ _ => verdict_refused

set_option maxHeartbeats 1000000 in
theorem lawA_in (p f : ByteArray) (l : Int) (w : World) (E : World → Prop) (hE : ∀ a b, E a → Below a.heap.size a b → E b) (e0 : E w) (h : p.size + f.size ≤ 1048576)
    (fe K a b c : Bool) (hfe : f.toList.isEmpty = fe) (ha : Hid (a = (fe || K))) (hb : decide ((p.size : Int) ≤ 1024) = b) (hc : decide (0 ≤ l) = c)
    (c1 : ∀ w, E w → Calls Tryf.prog 6 #[.agg #[.string p, .string f, .int .i64 l]] w (Verdict (a && (b && c)) w))
    (c2 : ∀ w, E w → Calls Tryf.prog 6 #[.agg #[.string ⟨#[]⟩, .string f, .int .i64 0]] w (Verdict a w))
    (c3 : ∀ w, E w → Calls Tryf.prog 6 #[.agg #[.string p, .string ⟨#[]⟩, .int .i64 0]] w (Verdict b w))
    (c4 : ∀ w, E w → Calls Tryf.prog 6 #[.agg #[.string ⟨#[]⟩, .string ⟨#[]⟩, .int .i64 l]] w (Verdict c w))
    (c5 : ∀ w, E w → Calls Tryf.prog 7 #[.string f] w (Verdict K w))
    (c6 : ∀ w, Calls Tryf.prog 8 #[.string f] w fun e w' => e = .returned (.bool K) ∧ w' = w) :
    Calls Tryf.prog 3 #[.string p, .string f, .int .i64 l] w fun e w' => e = .returned (.bool true) ∧ Below w.heap.size w w' := by
  have h1 : (p.size : Int) ≤ 1048576 := by omega
  have h2 : (f.size : Int) ≤ 1048576 := by omega
  have h3 : (p.size : Int) + (f.size : Int) ≤ 1048576 := by omega
  have C1 : Hid _ := c1
  have C2 : Hid _ := c2
  have C3 : Hid _ := c3
  have C4 : Hid _ := c4
  have C5 : Hid _ := c5
  have C6 : Hid _ := c6
  have hE' : Hid _ := hE
  have HF : Hid _ := hfe
  have HB : Hid _ := hb
  have HC : Hid _ := hc
  clear c1 c2 c3 c4 c5 c6 hE hfe hb hc
  go_enter Tryf.func3, Tryf.ntmps3
  go_wp2_with (go_at_call 5; refine (bytes5_in _ _ _ _ h).mono ?_; rintro e w' ⟨rfl, hw⟩; have hw2 := hw.symm; subst hw2)
  refine (C1.out _ e0).mono ?_
  rintro e w1 ⟨v1, rfl, ⟨q1, g1⟩, b1⟩
  have e1 := hE'.out _ _ e0 b1
  go_wp2_with fail
  refine (C2.out _ e1).mono ?_
  rintro e w2 ⟨v2, rfl, ⟨q2, g2⟩, b2⟩
  have e2 := hE'.out _ _ e1 b2
  go_wp2_with fail
  refine (C3.out _ e2).mono ?_
  rintro e w3 ⟨v3, rfl, ⟨q3, g3⟩, b3⟩
  have e3 := hE'.out _ _ e2 b3
  go_wp2_with fail
  refine (C4.out _ e3).mono ?_
  rintro e w4 ⟨v4, rfl, ⟨q4, g4⟩, b4⟩
  have e4 := hE'.out _ _ e3 b4
  go_wp2_with fail
  refine (C5.out _ e4).mono ?_
  rintro e w5 ⟨v5, rfl, ⟨q5, g5⟩, b5⟩
  have hB : Below w.heap.size w w5 := b1.trans ((b2.mono b1.size).trans ((b3.mono (Nat.le_trans b1.size b2.size)).trans ((b4.mono (Nat.le_trans b1.size (Nat.le_trans b2.size b3.size))).trans (b5.mono (Nat.le_trans b1.size (Nat.le_trans b2.size (Nat.le_trans b3.size b4.size)))))))
  clear b1 b2 b3 b4 b5 e1 e2 e3 e4 C1 C2 C3 C4 C5
  clear q1 q2 q3 q4 g1 g2 g3 g4
  go_upto_region 10 with fail
  clear q5 g5
  have hfe := HF.out
  have hb := HB.out
  have hc := HC.out
  have ha := ha.out
  subst ha
  clear HF HB HC
  cases fe <;> cases K <;> cases b <;> cases c <;> simp only [Bool.or_true, Bool.or_false, Bool.and_true, Bool.and_false]
  all_goals
    go_wp2_with (go_at_call 8; refine (C6.out _).mono ?_; rintro e w' ⟨rfl, hw⟩; have hw2 := hw.symm; subst hw2)
    go_ret
    exact ⟨rfl, hB⟩
end Go.Proofs.Qxb6608923aFmt
