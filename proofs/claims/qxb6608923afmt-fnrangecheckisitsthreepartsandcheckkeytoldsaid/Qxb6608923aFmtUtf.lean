/-
  The walks of zzValidUTF8 and zzIsKey.
-/
import Derived.Test.Qxb6608923aFmtProg
import Derived.Test.Qxb6608923aFmtPlain
import Derived.WalkKit
import Derived.WalkSpells
import Derived.Below
import Derived.Handy
namespace Go.Proofs.Qxb6608923aFmt
open Go.RowKit Go.Extern.Stop Go.Stop Go.Extern

theorem ret_bool' {a b : Bool} (h : a = b) : Ending.returned (.bool a) = .returned (.bool b) := by rw [h]

set_option maxRecDepth 100000 in
set_option maxHeartbeats 4000000 in
theorem zzValid_any (s : ByteArray) (w : World) (hs : s.size ≤ maxLen) (ANS : Bool) (hans : vFrom s 0 = ANS) :
    Calls Tryf.prog 12 #[.string s] w fun e w' => e = .returned (.bool ANS) ∧ w' = w := by
  unfold maxLen at hs
  go_enter Tryf.func12, Tryf.ntmps12
  go_wp2
  go_loop [3] (fun i => ∃ k : Nat, k ≤ s.size ∧ i = .int .i64 k ∧ Hid (vFrom s k = ANS)) (fun i => s.size - (intOf i).toNat)
  case atStart => exact ⟨0, Nat.zero_le _, rfl, hans⟩
  case round =>
    obtain ⟨k, hk, rfl, hv⟩ := hrel
    clear hans
    by_cases hlt : k < s.size
    · have e0 := at0_get s k hlt
      have g0 : at0 s k < 256 := by rw [← e0]; exact s[k].toNat_lt
      have E0 : Hid _ := e0
      clear e0
      by_cases ca : (s[k].toNat : Int) < 128
      · go_wp2
        go_round
        case rel => exact ⟨k + 1, by omega, by go_num, (vFrom_ascii s k hlt (by rw [← E0.out]; omega)).symm.trans hv.out⟩
        case measure => simp [intOf]; omega
      by_cases c0 : 194 ≤ (s[k].toNat : Int) ∧ (s[k].toNat : Int) ≤ 223
      · obtain ⟨x1, x2⟩ := c0
        have R : Row (at0 s k) 2 128 191 := by rw [← E0.out]; exact row_C2 (by omega) (by omega)
        go_wp2
        all_goals try go_rounds 2
        all_goals first
          | (go_ret; refine ⟨ret_bool' ?_, rfl⟩; rw [← hv.out]; refine (vFrom_bad hlt R ?_).symm; unfold Bad
             by_cases q : k + 2 ≤ s.size
             · have E1 := at0_get s (k + 1) (by omega); omega
             · left; omega)
          | (go_round
             case rel =>
               refine ⟨k + 2, by omega, by go_num, (vFrom_good hlt R ?_).symm.trans hv.out⟩
               unfold Bad
               have E1 := at0_get s (k + 1) (by omega); omega
             case measure => simp [intOf]; omega)
      by_cases c0 : 194 ≤ (s[k].toNat : Int) ∧ (s[k].toNat : Int) ≤ 223
      · obtain ⟨x1, x2⟩ := c0
        have R : Row (at0 s k) 2 128 191 := by rw [← E0.out]; exact row_C2 (by omega) (by omega)
        go_wp2
        all_goals try go_rounds 2
        all_goals first
          | (go_ret; refine ⟨ret_bool' ?_, rfl⟩; rw [← hv.out]; refine (vFrom_bad hlt R ?_).symm; unfold Bad
             by_cases q : k + 2 ≤ s.size
             · have E1 := at0_get s (k + 1) (by omega); omega
             · left; omega)
          | (go_round
             case rel =>
               refine ⟨k + 2, by omega, by go_num, (vFrom_good hlt R ?_).symm.trans hv.out⟩
               unfold Bad
               have E1 := at0_get s (k + 1) (by omega); omega
             case measure => simp [intOf]; omega)
      by_cases c1 : 225 ≤ (s[k].toNat : Int) ∧ (s[k].toNat : Int) ≤ 236
      · obtain ⟨x1, x2⟩ := c1
        have R : Row (at0 s k) 3 128 191 := by rw [← E0.out]; exact row_E1 (by omega) (by omega) (by omega)
        go_wp2
        all_goals try go_rounds 3
        all_goals first
          | (go_ret; refine ⟨ret_bool' ?_, rfl⟩; rw [← hv.out]; refine (vFrom_bad hlt R ?_).symm; unfold Bad
             by_cases q : k + 3 ≤ s.size
             · have E1 := at0_get s (k + 1) (by omega); have E2 := at0_get s (k + 2) (by omega); omega
             · left; omega)
          | (go_round
             case rel =>
               refine ⟨k + 3, by omega, by go_num, (vFrom_good hlt R ?_).symm.trans hv.out⟩
               unfold Bad
               have E1 := at0_get s (k + 1) (by omega); have E2 := at0_get s (k + 2) (by omega); omega
             case measure => simp [intOf]; omega)
      by_cases c2 : 241 ≤ (s[k].toNat : Int) ∧ (s[k].toNat : Int) ≤ 243
      · obtain ⟨x1, x2⟩ := c2
        have R : Row (at0 s k) 4 128 191 := by rw [← E0.out]; exact row_F1 (by omega) (by omega)
        have f1 : ((s[k].toNat : Int) == 238) = false := by exact beq_eq_false_iff_ne.2 (by omega)
        have f2 : ((s[k].toNat : Int) == 239) = false := by exact beq_eq_false_iff_ne.2 (by omega)
        go_wp2
        all_goals try go_rounds 4
        all_goals first
          | (go_ret; refine ⟨ret_bool' ?_, rfl⟩; rw [← hv.out]; refine (vFrom_bad hlt R ?_).symm; unfold Bad
             by_cases q : k + 4 ≤ s.size
             · have E1 := at0_get s (k + 1) (by omega); have E2 := at0_get s (k + 2) (by omega); have E3 := at0_get s (k + 3) (by omega); omega
             · left; omega)
          | (go_round
             case rel =>
               refine ⟨k + 4, by omega, by go_num, (vFrom_good hlt R ?_).symm.trans hv.out⟩
               unfold Bad
               have E1 := at0_get s (k + 1) (by omega); have E2 := at0_get s (k + 2) (by omega); have E3 := at0_get s (k + 3) (by omega); omega
             case measure => simp [intOf]; omega)
      by_cases c3 : (s[k].toNat : Int) = 224
      · have R : Row (at0 s k) 3 160 191 := by rw [← E0.out]; exact (show s[k].toNat = 224 by omega) ▸ row_E0
        have x1 : 224 ≤ (s[k].toNat : Int) := by omega
        have x2 : (s[k].toNat : Int) ≤ 224 := by omega
        have f1 : ((s[k].toNat : Int) == 238) = false := by exact beq_eq_false_iff_ne.2 (by omega)
        have f2 : ((s[k].toNat : Int) == 239) = false := by exact beq_eq_false_iff_ne.2 (by omega)
        clear c3
        go_wp2
        all_goals try go_rounds 3
        all_goals first
          | (go_ret; refine ⟨ret_bool' ?_, rfl⟩; rw [← hv.out]; refine (vFrom_bad hlt R ?_).symm; unfold Bad
             by_cases q : k + 3 ≤ s.size
             · have E1 := at0_get s (k + 1) (by omega); have E2 := at0_get s (k + 2) (by omega); omega
             · left; omega)
          | (go_round
             case rel =>
               refine ⟨k + 3, by omega, by go_num, (vFrom_good hlt R ?_).symm.trans hv.out⟩
               unfold Bad
               have E1 := at0_get s (k + 1) (by omega); have E2 := at0_get s (k + 2) (by omega); omega
             case measure => simp [intOf]; omega)
      by_cases c4 : (s[k].toNat : Int) = 237
      · have R : Row (at0 s k) 3 128 159 := by rw [← E0.out]; exact (show s[k].toNat = 237 by omega) ▸ row_ED
        have x1 : 237 ≤ (s[k].toNat : Int) := by omega
        have x2 : (s[k].toNat : Int) ≤ 237 := by omega
        have f1 : ((s[k].toNat : Int) == 238) = false := by exact beq_eq_false_iff_ne.2 (by omega)
        have f2 : ((s[k].toNat : Int) == 239) = false := by exact beq_eq_false_iff_ne.2 (by omega)
        clear c4
        go_wp2
        all_goals try go_rounds 3
        all_goals first
          | (go_ret; refine ⟨ret_bool' ?_, rfl⟩; rw [← hv.out]; refine (vFrom_bad hlt R ?_).symm; unfold Bad
             by_cases q : k + 3 ≤ s.size
             · have E1 := at0_get s (k + 1) (by omega); have E2 := at0_get s (k + 2) (by omega); omega
             · left; omega)
          | (go_round
             case rel =>
               refine ⟨k + 3, by omega, by go_num, (vFrom_good hlt R ?_).symm.trans hv.out⟩
               unfold Bad
               have E1 := at0_get s (k + 1) (by omega); have E2 := at0_get s (k + 2) (by omega); omega
             case measure => simp [intOf]; omega)
      by_cases c5 : (s[k].toNat : Int) = 238
      · have R : Row (at0 s k) 3 128 191 := by rw [← E0.out]; exact row_E1 (by omega) (by omega) (by omega)
        have x1 : 238 ≤ (s[k].toNat : Int) := by omega
        have x2 : (s[k].toNat : Int) ≤ 238 := by omega
        have f1 : ((s[k].toNat : Int) == 238) = true := by exact beq_iff_eq.2 (by omega)
        have f2 : ((s[k].toNat : Int) == 239) = false := by exact beq_eq_false_iff_ne.2 (by omega)
        clear c5
        go_wp2
        all_goals try go_rounds 3
        all_goals first
          | (go_ret; refine ⟨ret_bool' ?_, rfl⟩; rw [← hv.out]; refine (vFrom_bad hlt R ?_).symm; unfold Bad
             by_cases q : k + 3 ≤ s.size
             · have E1 := at0_get s (k + 1) (by omega); have E2 := at0_get s (k + 2) (by omega); omega
             · left; omega)
          | (go_round
             case rel =>
               refine ⟨k + 3, by omega, by go_num, (vFrom_good hlt R ?_).symm.trans hv.out⟩
               unfold Bad
               have E1 := at0_get s (k + 1) (by omega); have E2 := at0_get s (k + 2) (by omega); omega
             case measure => simp [intOf]; omega)
      by_cases c6 : (s[k].toNat : Int) = 239
      · have R : Row (at0 s k) 3 128 191 := by rw [← E0.out]; exact row_E1 (by omega) (by omega) (by omega)
        have x1 : 239 ≤ (s[k].toNat : Int) := by omega
        have x2 : (s[k].toNat : Int) ≤ 239 := by omega
        have f1 : ((s[k].toNat : Int) == 238) = false := by exact beq_eq_false_iff_ne.2 (by omega)
        have f2 : ((s[k].toNat : Int) == 239) = true := by exact beq_iff_eq.2 (by omega)
        clear c6
        go_wp2
        all_goals try go_rounds 3
        all_goals first
          | (go_ret; refine ⟨ret_bool' ?_, rfl⟩; rw [← hv.out]; refine (vFrom_bad hlt R ?_).symm; unfold Bad
             by_cases q : k + 3 ≤ s.size
             · have E1 := at0_get s (k + 1) (by omega); have E2 := at0_get s (k + 2) (by omega); omega
             · left; omega)
          | (go_round
             case rel =>
               refine ⟨k + 3, by omega, by go_num, (vFrom_good hlt R ?_).symm.trans hv.out⟩
               unfold Bad
               have E1 := at0_get s (k + 1) (by omega); have E2 := at0_get s (k + 2) (by omega); omega
             case measure => simp [intOf]; omega)
      by_cases c7 : (s[k].toNat : Int) = 240
      · have R : Row (at0 s k) 4 144 191 := by rw [← E0.out]; exact (show s[k].toNat = 240 by omega) ▸ row_F0
        have x1 : 240 ≤ (s[k].toNat : Int) := by omega
        have x2 : (s[k].toNat : Int) ≤ 240 := by omega
        have f1 : ((s[k].toNat : Int) == 238) = false := by exact beq_eq_false_iff_ne.2 (by omega)
        have f2 : ((s[k].toNat : Int) == 239) = false := by exact beq_eq_false_iff_ne.2 (by omega)
        clear c7
        go_wp2
        all_goals try go_rounds 4
        all_goals first
          | (go_ret; refine ⟨ret_bool' ?_, rfl⟩; rw [← hv.out]; refine (vFrom_bad hlt R ?_).symm; unfold Bad
             by_cases q : k + 4 ≤ s.size
             · have E1 := at0_get s (k + 1) (by omega); have E2 := at0_get s (k + 2) (by omega); have E3 := at0_get s (k + 3) (by omega); omega
             · left; omega)
          | (go_round
             case rel =>
               refine ⟨k + 4, by omega, by go_num, (vFrom_good hlt R ?_).symm.trans hv.out⟩
               unfold Bad
               have E1 := at0_get s (k + 1) (by omega); have E2 := at0_get s (k + 2) (by omega); have E3 := at0_get s (k + 3) (by omega); omega
             case measure => simp [intOf]; omega)
      by_cases c8 : (s[k].toNat : Int) = 244
      · have R : Row (at0 s k) 4 128 143 := by rw [← E0.out]; exact (show s[k].toNat = 244 by omega) ▸ row_F4
        have x1 : 244 ≤ (s[k].toNat : Int) := by omega
        have x2 : (s[k].toNat : Int) ≤ 244 := by omega
        have f1 : ((s[k].toNat : Int) == 238) = false := by exact beq_eq_false_iff_ne.2 (by omega)
        have f2 : ((s[k].toNat : Int) == 239) = false := by exact beq_eq_false_iff_ne.2 (by omega)
        clear c8
        go_wp2
        all_goals try go_rounds 4
        all_goals first
          | (go_ret; refine ⟨ret_bool' ?_, rfl⟩; rw [← hv.out]; refine (vFrom_bad hlt R ?_).symm; unfold Bad
             by_cases q : k + 4 ≤ s.size
             · have E1 := at0_get s (k + 1) (by omega); have E2 := at0_get s (k + 2) (by omega); have E3 := at0_get s (k + 3) (by omega); omega
             · left; omega)
          | (go_round
             case rel =>
               refine ⟨k + 4, by omega, by go_num, (vFrom_good hlt R ?_).symm.trans hv.out⟩
               unfold Bad
               have E1 := at0_get s (k + 1) (by omega); have E2 := at0_get s (k + 2) (by omega); have E3 := at0_get s (k + 3) (by omega); omega
             case measure => simp [intOf]; omega)
      by_cases c9 : (s[k].toNat : Int) < 194
      · have f1 : ((s[k].toNat : Int) == 238) = false := beq_eq_false_iff_ne.2 (by omega)
        have f2 : ((s[k].toNat : Int) == 239) = false := beq_eq_false_iff_ne.2 (by omega)
        clear c3 c4 c5 c6 c7 c8
        go_wp2
        go_ret
        refine ⟨ret_bool' ?_, rfl⟩
        rw [← hv.out]
        exact (vFrom_none s k hlt (by rw [← E0.out] at g0 ⊢; omega)).symm
      have c10 : 245 ≤ (s[k].toNat : Int) := by have := s[k].toNat_lt; omega
      have f1 : ((s[k].toNat : Int) == 238) = false := beq_eq_false_iff_ne.2 (by omega)
      have f2 : ((s[k].toNat : Int) == 239) = false := beq_eq_false_iff_ne.2 (by omega)
      clear c3 c4 c5 c6 c7 c8
      go_wp2
      go_ret
      refine ⟨ret_bool' ?_, rfl⟩
      rw [← hv.out]
      exact (vFrom_none s k hlt (by rw [← E0.out] at g0 ⊢; omega)).symm
    · go_wp2
      go_ret
      exact ⟨ret_bool' (by rw [← hv.out, show k = s.size by omega]; exact (vFrom_end s).symm), rfl⟩
end Go.Proofs.Qxb6608923aFmt
