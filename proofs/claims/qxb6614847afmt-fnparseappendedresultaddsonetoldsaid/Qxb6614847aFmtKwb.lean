/-
  The walk of isKeywordByte.
-/
import Derived.Test.Qxb6614847aFmtLoops
namespace Go.Proofs.Qxb6614847aFmt
open Go.RowKit

theorem kwb_0 (n : Int) (w : World) (_a : (97 : Int) ≤ n) (_b : n ≤ 122) : Calls Tryf.prog 30 #[.int .u8 n] w fun e w' => e = .returned (.bool true) ∧ w' = w := by
  go_enter Tryf.func30, Tryf.ntmps30
  go_wp2
  go_ret
  exact ⟨by simp_all, rfl⟩

theorem kwb_1 (n : Int) (w : World) (_a : (97 : Int) ≤ n) (_b : decide (n ≤ 122) = false) (_c : (65 : Int) ≤ n) (_d : decide (n ≤ 90) = false) (_e : (48 : Int) ≤ n) (_f : decide (n ≤ 57) = false) (_q : (n == 45) = false) : Calls Tryf.prog 30 #[.int .u8 n] w fun e w' => e = .returned (.bool false) ∧ w' = w := by
  go_enter Tryf.func30, Tryf.ntmps30
  go_wp2
  go_ret
  exact ⟨by simp_all, rfl⟩

theorem kwb_2 (n : Int) (w : World) (_a : decide ((97 : Int) ≤ n) = false) (_c : (65 : Int) ≤ n) (_d : n ≤ 90) : Calls Tryf.prog 30 #[.int .u8 n] w fun e w' => e = .returned (.bool true) ∧ w' = w := by
  go_enter Tryf.func30, Tryf.ntmps30
  go_wp2
  go_ret
  exact ⟨by simp_all, rfl⟩

theorem kwb_3 (n : Int) (w : World) (_a : decide ((97 : Int) ≤ n) = false) (_c : (65 : Int) ≤ n) (_d : decide (n ≤ 90) = false) (_e : (48 : Int) ≤ n) (_f : decide (n ≤ 57) = false) (_q : (n == 45) = false) : Calls Tryf.prog 30 #[.int .u8 n] w fun e w' => e = .returned (.bool false) ∧ w' = w := by
  go_enter Tryf.func30, Tryf.ntmps30
  go_wp2
  go_ret
  exact ⟨by simp_all, rfl⟩

theorem kwb_4 (n : Int) (w : World) (_a : decide ((97 : Int) ≤ n) = false) (_c : decide ((65 : Int) ≤ n) = false) (_e : (48 : Int) ≤ n) (_f : n ≤ 57) : Calls Tryf.prog 30 #[.int .u8 n] w fun e w' => e = .returned (.bool true) ∧ w' = w := by
  go_enter Tryf.func30, Tryf.ntmps30
  go_wp2
  go_ret
  exact ⟨by simp_all, rfl⟩

theorem kwb_5 (n : Int) (w : World) (_a : decide ((97 : Int) ≤ n) = false) (_c : decide ((65 : Int) ≤ n) = false) (_e : (48 : Int) ≤ n) (_f : decide (n ≤ 57) = false) (_q : (n == 45) = false) : Calls Tryf.prog 30 #[.int .u8 n] w fun e w' => e = .returned (.bool false) ∧ w' = w := by
  go_enter Tryf.func30, Tryf.ntmps30
  go_wp2
  go_ret
  exact ⟨by simp_all, rfl⟩

theorem kwb_6 (n : Int) (w : World) (_a : decide ((97 : Int) ≤ n) = false) (_c : decide ((65 : Int) ≤ n) = false) (_e : decide ((48 : Int) ≤ n) = false) (_q : (n == 45) = true) : Calls Tryf.prog 30 #[.int .u8 n] w fun e w' => e = .returned (.bool true) ∧ w' = w := by
  go_enter Tryf.func30, Tryf.ntmps30
  go_wp2
  go_ret
  exact ⟨by simp_all, rfl⟩

theorem kwb_7 (n : Int) (w : World) (_a : decide ((97 : Int) ≤ n) = false) (_c : decide ((65 : Int) ≤ n) = false) (_e : decide ((48 : Int) ≤ n) = false) (_q : (n == 45) = false) : Calls Tryf.prog 30 #[.int .u8 n] w fun e w' => e = .returned (.bool false) ∧ w' = w := by
  go_enter Tryf.func30, Tryf.ntmps30
  go_wp2
  go_ret
  exact ⟨by simp_all, rfl⟩


theorem kwB_val (c : UInt8) : kwB c = ((decide (97 ≤ c.toNat) && decide (c.toNat ≤ 122)) || (decide (65 ≤ c.toNat) && decide (c.toNat ≤ 90)) || (decide (48 ≤ c.toNat) && decide (c.toNat ≤ 57)) || decide (c.toNat = 45)) := by
  unfold kwB digB
  congr 1
  rw [Bool.eq_iff_iff, beq_iff_eq, decide_eq_true_iff, ← UInt8.toNat_inj]
  exact Iff.rfl
theorem no_int {a b : Int} (h : ¬ a = b) : (a == b) = false := by simpa using h
theorem kwb_any (c : UInt8) (w : World) : Calls Tryf.prog 30 #[.int .u8 (c.toNat : Int)] w fun e w' => e = .returned (.bool (kwB c)) ∧ w' = w := by
  rw [kwB_val]
  by_cases a : 97 ≤ c.toNat
  · by_cases b : c.toNat ≤ 122
    · rw [decide_eq_true a, decide_eq_true b]; exact kwb_0 _ w (by omega) (by omega)
    · rw [decide_eq_false b, decide_eq_false (show ¬ c.toNat ≤ 90 by omega), decide_eq_false (show ¬ c.toNat ≤ 57 by omega), decide_eq_false (show ¬ c.toNat = 45 by omega)]
      simp only [Bool.and_false, Bool.or_false]
      exact kwb_1 _ w (by omega) (decide_eq_false (by omega)) (by omega) (decide_eq_false (by omega)) (by omega) (decide_eq_false (by omega)) (no_int (by omega))
  · by_cases d : 65 ≤ c.toNat
    · by_cases e : c.toNat ≤ 90
      · rw [decide_eq_true d, decide_eq_true e]
        simp only [Bool.and_true, Bool.or_true, Bool.true_or]
        exact kwb_2 _ w (decide_eq_false (by omega)) (by omega) (by omega)
      · rw [decide_eq_false a, decide_eq_false e, decide_eq_false (show ¬ c.toNat ≤ 57 by omega), decide_eq_false (show ¬ c.toNat = 45 by omega)]
        simp only [Bool.and_false, Bool.or_false, Bool.false_and]
        exact kwb_3 _ w (decide_eq_false (by omega)) (by omega) (decide_eq_false (by omega)) (by omega) (decide_eq_false (by omega)) (no_int (by omega))
    · by_cases f : 48 ≤ c.toNat
      · by_cases g : c.toNat ≤ 57
        · rw [decide_eq_true f, decide_eq_true g]
          simp only [Bool.and_true, Bool.or_true, Bool.true_or]
          exact kwb_4 _ w (decide_eq_false (by omega)) (decide_eq_false (by omega)) (by omega) (by omega)
        · rw [decide_eq_false a, decide_eq_false d, decide_eq_false g, decide_eq_false (show ¬ c.toNat = 45 by omega)]
          simp only [Bool.and_false, Bool.or_false, Bool.false_and]
          exact kwb_5 _ w (decide_eq_false (by omega)) (decide_eq_false (by omega)) (by omega) (decide_eq_false (by omega)) (no_int (by omega))
      · by_cases q : c.toNat = 45
        · rw [decide_eq_true q]
          simp only [Bool.or_true]
          exact kwb_6 _ w (decide_eq_false (by omega)) (decide_eq_false (by omega)) (decide_eq_false (by omega)) (by rw [beq_iff_eq]; omega)
        · rw [decide_eq_false a, decide_eq_false d, decide_eq_false f, decide_eq_false q]
          simp only [Bool.false_and, Bool.or_false]
          exact kwb_7 _ w (decide_eq_false (by omega)) (decide_eq_false (by omega)) (decide_eq_false (by omega)) (no_int (by omega))
theorem kwb_is (c : UInt8) (b : Bool) (h : kwB c = b) (w : World) : Calls Tryf.prog 30 #[.int .u8 (c.toNat : Int)] w fun e w' => e = .returned (.bool b) ∧ w' = w := by
  rw [← h]; exact kwb_any c w
end Go.Proofs.Qxb6614847aFmt
