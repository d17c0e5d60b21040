/-
  The walk of FnRangeCheckAcceptsALimitOrItsComplementNeverBoth, over what Check gives.
-/
import Derived.Test.Qxb6608923aFmtCheck
namespace Go.Proofs.Qxb6608923aFmt
open Go.RowKit Go.Extern.Stop Go.Stop Go.Extern

theorem compl_i64 (l : Int) (h1 : -9223372036854775808 ≤ l) (h2 : l ≤ 9223372036854775807) : bits .xor .i64 (-1) l = -l - 1 := by
  have e1 : BitVec.ofInt 64 (-1) = BitVec.allOnes 64 := by decide
  have e2 : (BitVec.ofInt 64 l).toNat = (l % 18446744073709551616).toNat := by rw [BitVec.toNat_ofInt]; rfl
  show IntKind.i64.wrap ((BitVec.ofInt 64 (-1) ^^^ BitVec.ofInt 64 l).toNat : Int) = _
  rw [e1, BitVec.allOnes_xor, BitVec.toNat_not, e2, IntKind.wrap_i64]
  have e3 : (2 : Nat) ^ 64 = 18446744073709551616 := by decide
  rw [e3]
  omega

theorem ret_bool {a b : Bool} (h : a = b) : Ending.returned (.bool a) = .returned (.bool b) := by rw [h]

theorem bytes9_in (p f : ByteArray) (l : Int) (w : World) (h : p.size + f.size ≤ 1048576) :
    Calls Tryf.prog 9 #[.string p, .string f, .int .i64 l] w fun e w' => e = .returned (.bool true) ∧ w' = w := by
  have h1 : (p.size : Int) ≤ 1048576 := by omega
  have h2 : (f.size : Int) ≤ 1048576 := by omega
  have h3 : (p.size : Int) + (f.size : Int) ≤ 1048576 := by omega
  go_enter Tryf.func9, Tryf.ntmps9
  go_wp2
  go_ret
  exact ⟨rfl, rfl⟩
theorem bytes9_out (p f : ByteArray) (l : Int) (w : World) (hp : p.size ≤ maxLen) (hf : f.size ≤ maxLen) (h : 1048576 < p.size + f.size) :
    Calls Tryf.prog 9 #[.string p, .string f, .int .i64 l] w fun e w' => e = .returned (.bool false) ∧ w' = w := by
  unfold maxLen at hp hf
  by_cases h1 : (1048576 : Int) < (p.size : Int)
  · go_enter Tryf.func9, Tryf.ntmps9
    go_wp2
    go_ret
    exact ⟨rfl, rfl⟩
  by_cases h2 : (1048576 : Int) < (f.size : Int)
  · go_enter Tryf.func9, Tryf.ntmps9
    go_wp2
    go_ret
    exact ⟨rfl, rfl⟩
  have h3 : (1048576 : Int) < (p.size : Int) + (f.size : Int) := by omega
  go_enter Tryf.func9, Tryf.ntmps9
  go_wp2
  go_ret
  exact ⟨rfl, rfl⟩

theorem lawB_out (p f : ByteArray) (l : Int) (w : World) (hp : p.size ≤ maxLen) (hf : f.size ≤ maxLen) (h : 1048576 < p.size + f.size) :
    Calls Tryf.prog 4 #[.string p, .string f, .int .i64 l] w fun e w' => e = .returned (.bool true) ∧ Below w.heap.size w w' := by
  go_enter Tryf.func4, Tryf.ntmps4
  go_wp2_with (go_at_call 9; refine (bytes9_out _ _ _ _ hp hf h).mono ?_; rintro e w' ⟨rfl, rfl⟩)
  go_ret
  exact ⟨rfl, Below.refl _ _⟩

set_option maxHeartbeats 400000 in
theorem lawB_yes (p f : ByteArray) (l : Int) (w : World) (E : World → Prop) (hE : ∀ a b, E a → Below a.heap.size a b → E b) (e0 : E w) (h : p.size + f.size ≤ 1048576) (l1 : -9223372036854775808 ≤ l) (l2 : l ≤ 9223372036854775807) (hl : 0 ≤ l) 
    (cP : ∀ w k, E w → 0 ≤ k → Calls Tryf.prog 6 #[.agg #[.string p, .string f, .int .i64 k]] w (Passed w))
    (cF : ∀ w k, E w → k < 0 → Calls Tryf.prog 6 #[.agg #[.string p, .string f, .int .i64 k]] w (Failed w)) :
    Calls Tryf.prog 4 #[.string p, .string f, .int .i64 l] w fun e w' => e = .returned (.bool true) ∧ Below w.heap.size w w' := by
  have h1 : (p.size : Int) ≤ 1048576 := by omega
  have h2 : (f.size : Int) ≤ 1048576 := by omega
  have h3 : (p.size : Int) + (f.size : Int) ≤ 1048576 := by omega
  have hcl := compl_i64 l l1 l2
  have cP' : Hid _ := cP
  have cF' : Hid _ := cF
  clear cP cF
  have hE' : Hid _ := hE
  clear hE
  go_enter Tryf.func4, Tryf.ntmps4
  go_wp2_with (go_at_call 9; refine (bytes9_in _ _ _ _ h).mono ?_; rintro e w' ⟨rfl, hw⟩; subst hw)
  refine (cP'.out _ _ e0 (by omega)).mono ?_
  rintro e w1 ⟨rfl, b1⟩
  have e1 := hE'.out _ _ e0 b1
  go_wp2_with fail
  refine (cF'.out _ _ e1 (by omega)).mono ?_
  rintro e w2 ⟨T2, x2, rfl, b2⟩
  have e2 := hE'.out _ _ e1 b2
  go_wp2_with fail
  refine (cP'.out _ _ e2 (by omega)).mono ?_
  rintro e w3 ⟨rfl, b3⟩
  go_wp2_with fail
  go_ret
  exact ⟨rfl, b1.trans ((b2.mono b1.size).trans (b3.mono (Nat.le_trans b1.size b2.size)))⟩

set_option maxHeartbeats 400000 in
theorem lawB_no (p f : ByteArray) (l : Int) (w : World) (E : World → Prop) (hE : ∀ a b, E a → Below a.heap.size a b → E b) (e0 : E w) (h : p.size + f.size ≤ 1048576) (l1 : -9223372036854775808 ≤ l) (l2 : l ≤ 9223372036854775807) (hl : l < 0) 
    (cP : ∀ w k, E w → 0 ≤ k → Calls Tryf.prog 6 #[.agg #[.string p, .string f, .int .i64 k]] w (Passed w))
    (cF : ∀ w k, E w → k < 0 → Calls Tryf.prog 6 #[.agg #[.string p, .string f, .int .i64 k]] w (Failed w)) :
    Calls Tryf.prog 4 #[.string p, .string f, .int .i64 l] w fun e w' => e = .returned (.bool true) ∧ Below w.heap.size w w' := by
  have h1 : (p.size : Int) ≤ 1048576 := by omega
  have h2 : (f.size : Int) ≤ 1048576 := by omega
  have h3 : (p.size : Int) + (f.size : Int) ≤ 1048576 := by omega
  have hcl := compl_i64 l l1 l2
  have cP' : Hid _ := cP
  have cF' : Hid _ := cF
  clear cP cF
  have hE' : Hid _ := hE
  clear hE
  go_enter Tryf.func4, Tryf.ntmps4
  go_wp2_with (go_at_call 9; refine (bytes9_in _ _ _ _ h).mono ?_; rintro e w' ⟨rfl, hw⟩; subst hw)
  refine (cF'.out _ _ e0 (by omega)).mono ?_
  rintro e w1 ⟨T1, x1, rfl, b1⟩
  have e1 := hE'.out _ _ e0 b1
  go_wp2_with fail
  refine (cP'.out _ _ e1 (by omega)).mono ?_
  rintro e w2 ⟨rfl, b2⟩
  have e2 := hE'.out _ _ e1 b2
  go_wp2_with fail
  refine (cP'.out _ _ e2 (by omega)).mono ?_
  rintro e w3 ⟨rfl, b3⟩
  go_wp2_with fail
  go_ret
  exact ⟨ret_bool (a := !decide (0 ≤ l)) (by simp; omega), b1.trans ((b2.mono b1.size).trans (b3.mono (Nat.le_trans b1.size b2.size)))⟩

set_option maxHeartbeats 400000 in
theorem lawB_never (p f : ByteArray) (l : Int) (w : World) (E : World → Prop) (hE : ∀ a b, E a → Below a.heap.size a b → E b) (e0 : E w) (h : p.size + f.size ≤ 1048576) (l1 : -9223372036854775808 ≤ l) (l2 : l ≤ 9223372036854775807)
    (cF : ∀ w k, E w → Calls Tryf.prog 6 #[.agg #[.string p, .string f, .int .i64 k]] w (Failed w)) :
    Calls Tryf.prog 4 #[.string p, .string f, .int .i64 l] w fun e w' => e = .returned (.bool true) ∧ Below w.heap.size w w' := by
  have h1 : (p.size : Int) ≤ 1048576 := by omega
  have h2 : (f.size : Int) ≤ 1048576 := by omega
  have h3 : (p.size : Int) + (f.size : Int) ≤ 1048576 := by omega
  have hcl := compl_i64 l l1 l2
  have cF' : Hid _ := cF
  clear cF
  have hE' : Hid _ := hE
  clear hE
  go_enter Tryf.func4, Tryf.ntmps4
  go_wp2_with (go_at_call 9; refine (bytes9_in _ _ _ _ h).mono ?_; rintro e w' ⟨rfl, hw⟩; subst hw)
  refine (cF'.out _ _ e0).mono ?_
  rintro e w1 ⟨T1, x1, rfl, b1⟩
  have e1 := hE'.out _ _ e0 b1
  go_wp2_with fail
  refine (cF'.out _ _ e1).mono ?_
  rintro e w2 ⟨T2, x2, rfl, b2⟩
  have e2 := hE'.out _ _ e1 b2
  go_wp2_with fail
  refine (cF'.out _ _ e2).mono ?_
  rintro e w3 ⟨T3, x3, rfl, b3⟩
  go_wp2_with fail
  go_ret
  exact ⟨rfl, b1.trans ((b2.mono b1.size).trans (b3.mono (Nat.le_trans b1.size b2.size)))⟩

end Go.Proofs.Qxb6608923aFmt
