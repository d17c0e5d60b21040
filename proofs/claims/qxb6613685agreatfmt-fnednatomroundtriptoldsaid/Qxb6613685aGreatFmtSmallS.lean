/-
  The walk of smallInteger behind a sign.
-/
import Derived.Test.Qxb6613685aGreatFmtSmall
import Derived.Lib.CutLaws
namespace Go.Proofs.Qxb6613685aGreatFmt
open Go.RowKit
open Go.Lib hiding intOf

set_option maxHeartbeats 1000000 in
theorem small_neg_long (D : ByteArray) (l : List UInt8) (b o cap : Nat) (w : World) (hc0 : w.cell? ⟨b, o, none⟩ = some (.int .u8 45)) (hcap : D.size + 1 ≤ cap) (hB : body l = D.data.toList) (hs : D.size ≤ 131072) (hl : 18 < D.size) :
    Calls Tryz.prog 20 #[.slice (some ⟨b, o, none⟩) (D.size + 1) cap] w (SmallRet l w) := by
  have hz18 : (18 : Int) < (D.size : Int) := by omega
  have hz0 : ((D.size : Int) == 0) = false := beq_eq_false_iff_ne.2 (by omega)
  have hne : ¬ cap = 1 := by omega
  have hN := hideP (small_none hB (.inr (.inl (by rw [data_length]; exact hl))))
  clear hB
  go_enter Tryz.func20, Tryz.ntmps20
  go_wp2
  all_goals
    go_ret2
    unfold SmallRet
    rw [hN.out]
    exact ⟨rfl, rfl⟩
set_option maxHeartbeats 1000000 in
theorem small_neg_none (D : ByteArray) (l : List UInt8) (b o cap : Nat) (w : World) (hc0 : w.cell? ⟨b, o, none⟩ = some (.int .u8 45)) (_hcap : D.size + 1 ≤ cap) (hB : body l = D.data.toList) (hl : D.size = 0) :
    Calls Tryz.prog 20 #[.slice (some ⟨b, o, none⟩) (D.size + 1) cap] w (SmallRet l w) := by
  have hN := hideP (small_none hB (.inl (List.eq_nil_of_length_eq_zero (by rw [data_length]; exact hl))))
  rw [hl]
  clear hB hl
  go_enter Tryz.func20, Tryz.ntmps20
  go_wp2
  all_goals
    go_ret2
    unfold SmallRet
    rw [hN.out]
    exact ⟨rfl, rfl⟩
set_option maxHeartbeats 1000000 in
theorem small_neg_zero (D : ByteArray) (l : List UInt8) (b o cap : Nat) (w : World) (hc0 : w.cell? ⟨b, o, none⟩ = some (.int .u8 45)) (hcap : D.size + 1 ≤ cap) (hB : body l = D.data.toList) (hc : Bytes w b (o + 1) D) (h1 : 1 < D.size) (h48 : (D[0].toNat : Int) = 48) (hs : D.size ≤ 18) :
    Calls Tryz.prog 20 #[.slice (some ⟨b, o, none⟩) (D.size + 1) cap] w (SmallRet l w) := by
  have hc1 := hc 0 (by omega)
  rw [Nat.add_zero] at hc1
  have q3 : ((D[0].toNat : Int) == 48) = true := beq_iff_eq.2 h48
  have hz1 : (1 : Int) < (D.size : Int) := by omega
  have hz0 : ((D.size : Int) == 0) = false := beq_eq_false_iff_ne.2 (by omega)
  have hz18 : (D.size : Int) ≤ 18 := by omega
  have hne : ¬ cap = 1 := by omega
  have hN := hideP (small_none hB (.inr (.inr ⟨head_is D (by omega) 48 (by show D[0].toNat = 48; omega), by rw [data_length]; exact h1⟩)))
  clear hc hB h48
  go_enter Tryz.func20, Tryz.ntmps20
  go_wp2
  all_goals
    go_ret2
    unfold SmallRet
    rw [hN.out]
    exact ⟨rfl, rfl⟩
set_option maxHeartbeats 1000000 in
theorem small_neg_loop (D : ByteArray) (l : List UInt8) (b o cap : Nat) (w : World) (hc0 : w.cell? ⟨b, o, none⟩ = some (.int .u8 45)) (hcap : D.size + 1 ≤ cap) (hB : body l = D.data.toList) (hc : Bytes w b (o + 1) D) (h1 : 0 < D.size) (h48 : (D[0].toNat : Int) ≠ 48) (H45 : Hid (l.head? = some 45)) (hs : D.size ≤ 18) :
    Calls Tryz.prog 20 #[.slice (some ⟨b, o, none⟩) (D.size + 1) cap] w (SmallRet l w) := by
  have hc1 := hc 0 h1
  rw [Nat.add_zero] at hc1
  have q3 : ((D[0].toNat : Int) == 48) = false := beq_eq_false_iff_ne.2 h48
  have hz : (0 : Int) < (D.size : Int) := by omega
  have hz0 : ((D.size : Int) == 0) = false := beq_eq_false_iff_ne.2 (by omega)
  have hz18 : (D.size : Int) ≤ 18 := by omega
  have hne : ¬ cap = 1 := by omega
  have HC := hideP hc
  have HB := hideP hB
  have Hok : Hid (¬ (D.data.toList = [] ∨ 18 < D.data.toList.length ∨ (D.data.toList.head? = some 48 ∧ 1 < D.data.toList.length))) := by
    rintro (e | e | ⟨e1, e2⟩)
    · exact data_ne D h1 e
    · rw [data_length] at e; omega
    · rw [data_length] at e2
      exact head_not D h1 48 (by show D[0].toNat ≠ 48; omega) e1
  clear hc hB h48
  go_enter Tryz.func20, Tryz.ntmps20
  go_wp2
  go_loop [5, 47] (fun n i => ∃ k m : Nat, k ≤ D.size ∧ i = .int .i64 k ∧ n = .int .i64 m ∧ Hid (Gath D k m)) (fun _ i => D.size - (intOf i).toNat)
  case atStart => exact ⟨0, 0, Nat.zero_le _, rfl, rfl, gath_zero _⟩
  case round =>
    obtain ⟨k, m, hk, rfl, rfl, hg⟩ := hrel
    by_cases hlt : k < D.size
    · have hm := gath_lt17 hg.out (by omega)
      have hmz : (m : Int) ≤ 99999999999999999 := by omega
      have hck := HC.out k hlt
      have hb256 := (D[k]).toNat_lt
      by_cases hd : dig D[k] = true
      · have hd' := (dig_iff _).1 hd
        have hst := hideP (gath_step hg.out hlt hd)
        have Hdv : Hid (dv D[k] = (D[k]).toNat - 48) := rfl
        have t1 : decide (48 ≤ ((D[k]).toNat : Int)) = true := decide_eq_true (by omega)
        have t2 : decide (((D[k]).toNat : Int) ≤ 57) = true := decide_eq_true (by omega)
        clear hd
        go_wp2_with (go_at_call 15; refine (isDigit_any _ _).mono ?_; rintro e w' ⟨rfl, hw⟩; have hw2 := hw.symm; subst hw2)
        go_round
        case rel => exact ⟨k + 1, m * 10 + dv D[k], by omega, by go_num, num_step Hdv.out hd'.1, hst.out⟩
        case measure => (simp [intOf]; try omega)
      · have hN := hideP (small_bad HB.out (gath_bad hg.out hlt (by simpa using hd)))
        have t1 : (decide (48 ≤ ((D[k]).toNat : Int)) && decide (((D[k]).toNat : Int) ≤ 57)) = false := by simpa [dig] using hd
        go_wp2_with (go_at_call 15; refine (isDigit_any _ _).mono ?_; rintro e w' ⟨rfl, hw⟩; have hw2 := hw.symm; subst hw2; rw [t1])
        go_ret2
        unfold SmallRet
        rw [hN.out]
        exact ⟨rfl, rfl⟩
    · obtain ⟨ha, hv⟩ := gath_end (by have := hg.out; rwa [show k = D.size by omega] at this)
      have hS := hideP (small_some HB.out Hok.out ha hv)
      have hmz : (m : Int) ≤ 999999999999999999 := by have := gath_lt hg.out (by omega); omega
      clear ha hv
      go_wp2_with fail
      go_ret2
      unfold SmallRet
      rw [hS.out, if_pos H45.out]
      exact ⟨rfl, rfl⟩
set_option maxHeartbeats 1000000 in
theorem small_neg_one (D : ByteArray) (l : List UInt8) (b o cap : Nat) (w : World) (hc0 : w.cell? ⟨b, o, none⟩ = some (.int .u8 45)) (hcap : D.size + 1 ≤ cap) (hB : body l = D.data.toList) (hc : Bytes w b (o + 1) D) (h1 : 0 < D.size) (h48 : (D[0].toNat : Int) = 48) (h2 : D.size = 1) (H45 : Hid (l.head? = some 45)) (hs : D.size ≤ 18) :
    Calls Tryz.prog 20 #[.slice (some ⟨b, o, none⟩) (D.size + 1) cap] w (SmallRet l w) := by
  have hc1 := hc 0 h1
  rw [Nat.add_zero] at hc1
  have q3 : ((D[0].toNat : Int) == 48) = true := beq_iff_eq.2 h48
  have q4 : (D.size : Int) ≤ 1 := by omega
  have hz : (0 : Int) < (D.size : Int) := by omega
  have hz0 : ((D.size : Int) == 0) = false := beq_eq_false_iff_ne.2 (by omega)
  have hz18 : (D.size : Int) ≤ 18 := by omega
  have hne : ¬ cap = 1 := by omega
  have HC := hideP hc
  have HB := hideP hB
  have Hok : Hid (¬ (D.data.toList = [] ∨ 18 < D.data.toList.length ∨ (D.data.toList.head? = some 48 ∧ 1 < D.data.toList.length))) := by
    rintro (e | e | ⟨e1, e2⟩)
    · exact data_ne D h1 e
    · rw [data_length] at e; omega
    · rw [data_length] at e2
      omega
  clear hc hB h48 h2
  go_enter Tryz.func20, Tryz.ntmps20
  go_wp2
  go_loop [5, 47] (fun n i => ∃ k m : Nat, k ≤ D.size ∧ i = .int .i64 k ∧ n = .int .i64 m ∧ Hid (Gath D k m)) (fun _ i => D.size - (intOf i).toNat)
  case atStart => exact ⟨0, 0, Nat.zero_le _, rfl, rfl, gath_zero _⟩
  case round =>
    obtain ⟨k, m, hk, rfl, rfl, hg⟩ := hrel
    by_cases hlt : k < D.size
    · have hm := gath_lt17 hg.out (by omega)
      have hmz : (m : Int) ≤ 99999999999999999 := by omega
      have hck := HC.out k hlt
      have hb256 := (D[k]).toNat_lt
      by_cases hd : dig D[k] = true
      · have hd' := (dig_iff _).1 hd
        have hst := hideP (gath_step hg.out hlt hd)
        have Hdv : Hid (dv D[k] = (D[k]).toNat - 48) := rfl
        have t1 : decide (48 ≤ ((D[k]).toNat : Int)) = true := decide_eq_true (by omega)
        have t2 : decide (((D[k]).toNat : Int) ≤ 57) = true := decide_eq_true (by omega)
        clear hd
        go_wp2_with (go_at_call 15; refine (isDigit_any _ _).mono ?_; rintro e w' ⟨rfl, hw⟩; have hw2 := hw.symm; subst hw2)
        go_round
        case rel => exact ⟨k + 1, m * 10 + dv D[k], by omega, by go_num, num_step Hdv.out hd'.1, hst.out⟩
        case measure => (simp [intOf]; try omega)
      · have hN := hideP (small_bad HB.out (gath_bad hg.out hlt (by simpa using hd)))
        have t1 : (decide (48 ≤ ((D[k]).toNat : Int)) && decide (((D[k]).toNat : Int) ≤ 57)) = false := by simpa [dig] using hd
        go_wp2_with (go_at_call 15; refine (isDigit_any _ _).mono ?_; rintro e w' ⟨rfl, hw⟩; have hw2 := hw.symm; subst hw2; rw [t1])
        go_ret2
        unfold SmallRet
        rw [hN.out]
        exact ⟨rfl, rfl⟩
    · obtain ⟨ha, hv⟩ := gath_end (by have := hg.out; rwa [show k = D.size by omega] at this)
      have hS := hideP (small_some HB.out Hok.out ha hv)
      have hmz : (m : Int) ≤ 999999999999999999 := by have := gath_lt hg.out (by omega); omega
      clear ha hv
      go_wp2_with fail
      go_ret2
      unfold SmallRet
      rw [hS.out, if_pos H45.out]
      exact ⟨rfl, rfl⟩
set_option maxHeartbeats 1000000 in
theorem small_pos_long (D : ByteArray) (l : List UInt8) (b o cap : Nat) (w : World) (hc0 : w.cell? ⟨b, o, none⟩ = some (.int .u8 43)) (hcap : D.size + 1 ≤ cap) (hB : body l = D.data.toList) (hs : D.size ≤ 131072) (hl : 18 < D.size) :
    Calls Tryz.prog 20 #[.slice (some ⟨b, o, none⟩) (D.size + 1) cap] w (SmallRet l w) := by
  have hz18 : (18 : Int) < (D.size : Int) := by omega
  have hz0 : ((D.size : Int) == 0) = false := beq_eq_false_iff_ne.2 (by omega)
  have hne : ¬ cap = 1 := by omega
  have hN := hideP (small_none hB (.inr (.inl (by rw [data_length]; exact hl))))
  clear hB
  go_enter Tryz.func20, Tryz.ntmps20
  go_wp2
  all_goals
    go_ret2
    unfold SmallRet
    rw [hN.out]
    exact ⟨rfl, rfl⟩
set_option maxHeartbeats 1000000 in
theorem small_pos_none (D : ByteArray) (l : List UInt8) (b o cap : Nat) (w : World) (hc0 : w.cell? ⟨b, o, none⟩ = some (.int .u8 43)) (_hcap : D.size + 1 ≤ cap) (hB : body l = D.data.toList) (hl : D.size = 0) :
    Calls Tryz.prog 20 #[.slice (some ⟨b, o, none⟩) (D.size + 1) cap] w (SmallRet l w) := by
  have hN := hideP (small_none hB (.inl (List.eq_nil_of_length_eq_zero (by rw [data_length]; exact hl))))
  rw [hl]
  clear hB hl
  go_enter Tryz.func20, Tryz.ntmps20
  go_wp2
  all_goals
    go_ret2
    unfold SmallRet
    rw [hN.out]
    exact ⟨rfl, rfl⟩
set_option maxHeartbeats 1000000 in
theorem small_pos_zero (D : ByteArray) (l : List UInt8) (b o cap : Nat) (w : World) (hc0 : w.cell? ⟨b, o, none⟩ = some (.int .u8 43)) (hcap : D.size + 1 ≤ cap) (hB : body l = D.data.toList) (hc : Bytes w b (o + 1) D) (h1 : 1 < D.size) (h48 : (D[0].toNat : Int) = 48) (hs : D.size ≤ 18) :
    Calls Tryz.prog 20 #[.slice (some ⟨b, o, none⟩) (D.size + 1) cap] w (SmallRet l w) := by
  have hc1 := hc 0 (by omega)
  rw [Nat.add_zero] at hc1
  have q3 : ((D[0].toNat : Int) == 48) = true := beq_iff_eq.2 h48
  have hz1 : (1 : Int) < (D.size : Int) := by omega
  have hz0 : ((D.size : Int) == 0) = false := beq_eq_false_iff_ne.2 (by omega)
  have hz18 : (D.size : Int) ≤ 18 := by omega
  have hne : ¬ cap = 1 := by omega
  have hN := hideP (small_none hB (.inr (.inr ⟨head_is D (by omega) 48 (by show D[0].toNat = 48; omega), by rw [data_length]; exact h1⟩)))
  clear hc hB h48
  go_enter Tryz.func20, Tryz.ntmps20
  go_wp2
  all_goals
    go_ret2
    unfold SmallRet
    rw [hN.out]
    exact ⟨rfl, rfl⟩
set_option maxHeartbeats 1000000 in
theorem small_pos_loop (D : ByteArray) (l : List UInt8) (b o cap : Nat) (w : World) (hc0 : w.cell? ⟨b, o, none⟩ = some (.int .u8 43)) (hcap : D.size + 1 ≤ cap) (hB : body l = D.data.toList) (hc : Bytes w b (o + 1) D) (h1 : 0 < D.size) (h48 : (D[0].toNat : Int) ≠ 48) (H45 : Hid (¬ l.head? = some 45)) (hs : D.size ≤ 18) :
    Calls Tryz.prog 20 #[.slice (some ⟨b, o, none⟩) (D.size + 1) cap] w (SmallRet l w) := by
  have hc1 := hc 0 h1
  rw [Nat.add_zero] at hc1
  have q3 : ((D[0].toNat : Int) == 48) = false := beq_eq_false_iff_ne.2 h48
  have hz : (0 : Int) < (D.size : Int) := by omega
  have hz0 : ((D.size : Int) == 0) = false := beq_eq_false_iff_ne.2 (by omega)
  have hz18 : (D.size : Int) ≤ 18 := by omega
  have hne : ¬ cap = 1 := by omega
  have HC := hideP hc
  have HB := hideP hB
  have Hok : Hid (¬ (D.data.toList = [] ∨ 18 < D.data.toList.length ∨ (D.data.toList.head? = some 48 ∧ 1 < D.data.toList.length))) := by
    rintro (e | e | ⟨e1, e2⟩)
    · exact data_ne D h1 e
    · rw [data_length] at e; omega
    · rw [data_length] at e2
      exact head_not D h1 48 (by show D[0].toNat ≠ 48; omega) e1
  clear hc hB h48
  go_enter Tryz.func20, Tryz.ntmps20
  go_wp2
  go_loop [5, 47] (fun n i => ∃ k m : Nat, k ≤ D.size ∧ i = .int .i64 k ∧ n = .int .i64 m ∧ Hid (Gath D k m)) (fun _ i => D.size - (intOf i).toNat)
  case atStart => exact ⟨0, 0, Nat.zero_le _, rfl, rfl, gath_zero _⟩
  case round =>
    obtain ⟨k, m, hk, rfl, rfl, hg⟩ := hrel
    by_cases hlt : k < D.size
    · have hm := gath_lt17 hg.out (by omega)
      have hmz : (m : Int) ≤ 99999999999999999 := by omega
      have hck := HC.out k hlt
      have hb256 := (D[k]).toNat_lt
      by_cases hd : dig D[k] = true
      · have hd' := (dig_iff _).1 hd
        have hst := hideP (gath_step hg.out hlt hd)
        have Hdv : Hid (dv D[k] = (D[k]).toNat - 48) := rfl
        have t1 : decide (48 ≤ ((D[k]).toNat : Int)) = true := decide_eq_true (by omega)
        have t2 : decide (((D[k]).toNat : Int) ≤ 57) = true := decide_eq_true (by omega)
        clear hd
        go_wp2_with (go_at_call 15; refine (isDigit_any _ _).mono ?_; rintro e w' ⟨rfl, hw⟩; have hw2 := hw.symm; subst hw2)
        go_round
        case rel => exact ⟨k + 1, m * 10 + dv D[k], by omega, by go_num, num_step Hdv.out hd'.1, hst.out⟩
        case measure => (simp [intOf]; try omega)
      · have hN := hideP (small_bad HB.out (gath_bad hg.out hlt (by simpa using hd)))
        have t1 : (decide (48 ≤ ((D[k]).toNat : Int)) && decide (((D[k]).toNat : Int) ≤ 57)) = false := by simpa [dig] using hd
        go_wp2_with (go_at_call 15; refine (isDigit_any _ _).mono ?_; rintro e w' ⟨rfl, hw⟩; have hw2 := hw.symm; subst hw2; rw [t1])
        go_ret2
        unfold SmallRet
        rw [hN.out]
        exact ⟨rfl, rfl⟩
    · obtain ⟨ha, hv⟩ := gath_end (by have := hg.out; rwa [show k = D.size by omega] at this)
      have hS := hideP (small_some HB.out Hok.out ha hv)
      have hmz : (m : Int) ≤ 999999999999999999 := by have := gath_lt hg.out (by omega); omega
      clear ha hv
      go_wp2_with fail
      go_ret2
      unfold SmallRet
      rw [hS.out, if_neg H45.out]
      exact ⟨rfl, rfl⟩
set_option maxHeartbeats 1000000 in
theorem small_pos_one (D : ByteArray) (l : List UInt8) (b o cap : Nat) (w : World) (hc0 : w.cell? ⟨b, o, none⟩ = some (.int .u8 43)) (hcap : D.size + 1 ≤ cap) (hB : body l = D.data.toList) (hc : Bytes w b (o + 1) D) (h1 : 0 < D.size) (h48 : (D[0].toNat : Int) = 48) (h2 : D.size = 1) (H45 : Hid (¬ l.head? = some 45)) (hs : D.size ≤ 18) :
    Calls Tryz.prog 20 #[.slice (some ⟨b, o, none⟩) (D.size + 1) cap] w (SmallRet l w) := by
  have hc1 := hc 0 h1
  rw [Nat.add_zero] at hc1
  have q3 : ((D[0].toNat : Int) == 48) = true := beq_iff_eq.2 h48
  have q4 : (D.size : Int) ≤ 1 := by omega
  have hz : (0 : Int) < (D.size : Int) := by omega
  have hz0 : ((D.size : Int) == 0) = false := beq_eq_false_iff_ne.2 (by omega)
  have hz18 : (D.size : Int) ≤ 18 := by omega
  have hne : ¬ cap = 1 := by omega
  have HC := hideP hc
  have HB := hideP hB
  have Hok : Hid (¬ (D.data.toList = [] ∨ 18 < D.data.toList.length ∨ (D.data.toList.head? = some 48 ∧ 1 < D.data.toList.length))) := by
    rintro (e | e | ⟨e1, e2⟩)
    · exact data_ne D h1 e
    · rw [data_length] at e; omega
    · rw [data_length] at e2
      omega
  clear hc hB h48 h2
  go_enter Tryz.func20, Tryz.ntmps20
  go_wp2
  go_loop [5, 47] (fun n i => ∃ k m : Nat, k ≤ D.size ∧ i = .int .i64 k ∧ n = .int .i64 m ∧ Hid (Gath D k m)) (fun _ i => D.size - (intOf i).toNat)
  case atStart => exact ⟨0, 0, Nat.zero_le _, rfl, rfl, gath_zero _⟩
  case round =>
    obtain ⟨k, m, hk, rfl, rfl, hg⟩ := hrel
    by_cases hlt : k < D.size
    · have hm := gath_lt17 hg.out (by omega)
      have hmz : (m : Int) ≤ 99999999999999999 := by omega
      have hck := HC.out k hlt
      have hb256 := (D[k]).toNat_lt
      by_cases hd : dig D[k] = true
      · have hd' := (dig_iff _).1 hd
        have hst := hideP (gath_step hg.out hlt hd)
        have Hdv : Hid (dv D[k] = (D[k]).toNat - 48) := rfl
        have t1 : decide (48 ≤ ((D[k]).toNat : Int)) = true := decide_eq_true (by omega)
        have t2 : decide (((D[k]).toNat : Int) ≤ 57) = true := decide_eq_true (by omega)
        clear hd
        go_wp2_with (go_at_call 15; refine (isDigit_any _ _).mono ?_; rintro e w' ⟨rfl, hw⟩; have hw2 := hw.symm; subst hw2)
        go_round
        case rel => exact ⟨k + 1, m * 10 + dv D[k], by omega, by go_num, num_step Hdv.out hd'.1, hst.out⟩
        case measure => (simp [intOf]; try omega)
      · have hN := hideP (small_bad HB.out (gath_bad hg.out hlt (by simpa using hd)))
        have t1 : (decide (48 ≤ ((D[k]).toNat : Int)) && decide (((D[k]).toNat : Int) ≤ 57)) = false := by simpa [dig] using hd
        go_wp2_with (go_at_call 15; refine (isDigit_any _ _).mono ?_; rintro e w' ⟨rfl, hw⟩; have hw2 := hw.symm; subst hw2; rw [t1])
        go_ret2
        unfold SmallRet
        rw [hN.out]
        exact ⟨rfl, rfl⟩
    · obtain ⟨ha, hv⟩ := gath_end (by have := hg.out; rwa [show k = D.size by omega] at this)
      have hS := hideP (small_some HB.out Hok.out ha hv)
      have hmz : (m : Int) ≤ 999999999999999999 := by have := gath_lt hg.out (by omega); omega
      clear ha hv
      go_wp2_with fail
      go_ret2
      unfold SmallRet
      rw [hS.out, if_neg H45.out]
      exact ⟨rfl, rfl⟩

theorem body_plain (s : ByteArray) (h1 : 0 < s.size) (h : s[0].toNat ≠ 45 ∧ s[0].toNat ≠ 43) : body s.data.toList = s.data.toList := by
  cases e : s.data.toList with
  | nil => exact absurd e (data_ne s h1)
  | cons c r =>
    have : c = s[0] := by
      have := get_data s 0 h1
      rw [e] at this
      exact Option.some.inj this
    show (if c.toNat = 45 ∨ c.toNat = 43 then r else c :: r) = c :: r
    rw [this, if_neg (by omega)]
theorem body_sign (s : ByteArray) (h1 : 0 < s.size) (h : s[0].toNat = 45 ∨ s[0].toNat = 43) : body s.data.toList = (s.extract 1 s.size).data.toList := by
  rw [extract_to_end]
  cases e : s.data.toList with
  | nil => exact absurd e (data_ne s h1)
  | cons c r =>
    have : c = s[0] := by
      have := get_data s 0 h1
      rw [e] at this
      exact Option.some.inj this
    show (if c.toNat = 45 ∨ c.toNat = 43 then r else c :: r) = r
    rw [this, if_pos h]
theorem bytes_tail {w : World} {b o : Nat} {s : ByteArray} (hc : Bytes w b o s) : Bytes w b (o + 1) (s.extract 1 s.size) := fun i hi => by
  have hz : (s.extract 1 s.size).size = s.size - 1 := by simp
  have h2 : 1 + i < s.size := by omega
  have := hc (1 + i) h2
  rw [← Nat.add_assoc] at this
  rw [this]
  have e : (s.extract 1 s.size)[i] = s[1 + i] := by
    have h3 := get_data (s.extract 1 s.size) i hi
    rw [extract_to_end, List.getElem?_drop, get_data s (1 + i) h2] at h3
    exact (Option.some.inj h3).symm
  rw [e]

/-- smallInteger, whatever its bytes. -/
theorem small_any (s : ByteArray) (b o cap : Nat) (w : World) (hs : s.size ≤ 131072) (hcap : s.size ≤ cap) (hc : Bytes w b o s) (h1 : 0 < s.size) :
    Calls Tryz.prog 20 #[.slice (some ⟨b, o, none⟩) s.size cap] w (SmallRet s.data.toList w) := by
  by_cases h45 : s[0].toNat = 45
  · obtain ⟨D, hD⟩ : ∃ D, s.extract 1 s.size = D := ⟨_, rfl⟩
    have hz : s.size = D.size + 1 := by rw [← hD]; simp; omega
    have hB : body s.data.toList = D.data.toList := by rw [← hD]; exact body_sign s h1 (.inl h45)
    have hct : Bytes w b (o + 1) D := by rw [← hD]; exact bytes_tail hc
    have hc0 : w.cell? ⟨b, o, none⟩ = some (.int .u8 45) := by have := hc 0 h1; rwa [h45, Nat.add_zero] at this
    have hh : Hid (s.data.toList.head? = some 45) := head_is s h1 45 h45
    rw [hz]
    by_cases d0 : D.size = 0
    · exact small_neg_none D _ b o cap w hc0 (by omega) hB d0
    by_cases d1 : 18 < D.size
    · exact small_neg_long D _ b o cap w hc0 (by omega) hB (by omega) d1
    by_cases d2 : (D[0].toNat : Int) = 48
    · by_cases d3 : D.size = 1
      · exact small_neg_one D _ b o cap w hc0 (by omega) hB hct (by omega) d2 d3 hh (by omega)
      · exact small_neg_zero D _ b o cap w hc0 (by omega) hB hct (by omega) d2 (by omega)
    · exact small_neg_loop D _ b o cap w hc0 (by omega) hB hct (by omega) d2 hh (by omega)
  by_cases h43 : s[0].toNat = 43
  · obtain ⟨D, hD⟩ : ∃ D, s.extract 1 s.size = D := ⟨_, rfl⟩
    have hz : s.size = D.size + 1 := by rw [← hD]; simp; omega
    have hB : body s.data.toList = D.data.toList := by rw [← hD]; exact body_sign s h1 (.inr h43)
    have hct : Bytes w b (o + 1) D := by rw [← hD]; exact bytes_tail hc
    have hc0 : w.cell? ⟨b, o, none⟩ = some (.int .u8 43) := by have := hc 0 h1; rwa [h43, Nat.add_zero] at this
    have hh : Hid (¬ s.data.toList.head? = some 45) := head_not s h1 45 h45
    rw [hz]
    by_cases d0 : D.size = 0
    · exact small_pos_none D _ b o cap w hc0 (by omega) hB d0
    by_cases d1 : 18 < D.size
    · exact small_pos_long D _ b o cap w hc0 (by omega) hB (by omega) d1
    by_cases d2 : (D[0].toNat : Int) = 48
    · by_cases d3 : D.size = 1
      · exact small_pos_one D _ b o cap w hc0 (by omega) hB hct (by omega) d2 d3 hh (by omega)
      · exact small_pos_zero D _ b o cap w hc0 (by omega) hB hct (by omega) d2 (by omega)
    · exact small_pos_loop D _ b o cap w hc0 (by omega) hB hct (by omega) d2 hh (by omega)
  have hB := body_plain s h1 ⟨h45, h43⟩
  have hsg : (s[0].toNat : Int) ≠ 45 ∧ (s[0].toNat : Int) ≠ 43 := by omega
  by_cases d1 : 18 < s.size
  · exact small_plain_long s b o cap w hc h1 hsg hB hs d1
  by_cases d2 : (s[0].toNat : Int) = 48
  · by_cases d3 : s.size = 1
    · exact small_plain_one s b o cap w hc h1 hsg hB d2 d3 (by omega)
    · exact small_plain_zero s b o cap w hc h1 hsg hB d2 (by omega) (by omega)
  · exact small_plain_loop s b o cap w hc h1 hsg hB d2 (by omega)
end Go.Proofs.Qxb6613685aGreatFmt
