/-
  The walk of zzIsKey.
-/
import Derived.Test.Qxb6608923aFmtProg
import Derived.Lib.Bytealg
import Derived.WalkKit
import Derived.WalkSpells
import Derived.Below
namespace Go.Proofs.Qxb6608923aFmt
open Go.RowKit

/-- No byte of the first k is 0. -/
def noNul (s : ByteArray) (k : Nat) : Bool := (s.data.toList.take k).all (· != 0)
theorem noNul_step (s : ByteArray) (k : Nat) (h : k < s.size) (hc : (s[k].toNat : Int) ≠ 0) (hk : noNul s k = true) : noNul s (k + 1) = true := by
  unfold noNul at hk ⊢
  rw [List.take_succ_eq_append_getElem (by simpa using h), List.all_append, hk, Bool.true_and]
  show ([s[k]].all (· != 0)) = true
  have : s[k] ≠ 0 := fun e => hc (by rw [e]; rfl)
  simp [this]
theorem noNul_hit (s : ByteArray) (k : Nat) (h : k < s.size) (hc : (s[k].toNat : Int) = 0) : noNul s s.size = false := by
  unfold noNul
  rw [List.all_eq_false]
  refine ⟨s[k], ?_, ?_⟩
  · rw [List.take_of_length_le (by simp)]
    exact List.getElem_mem (l := s.data.toList) (by simpa using h)
  · have e : s[k] = 0 := UInt8.toNat_inj.1 (by show s[k].toNat = 0; omega)
    simp [e]
theorem index_nul : ∀ l : List UInt8, decide (Lib.indexByte l 0 < 0) = l.all (· != 0)
  | [] => by simp [Lib.indexByte]
  | b :: l => by
    have ih := index_nul l
    have hg := Lib.indexByte_ge l 0
    rw [List.all_cons, ← ih]
    show decide ((if b == 0 then (0 : Int) else if Lib.indexByte l 0 == -1 then -1 else Lib.indexByte l 0 + 1) < 0) = _
    by_cases hb : b = 0
    · simp [hb]
    · have e : (b == 0) = false := beq_eq_false_iff_ne.2 hb
      have e2 : (b != 0) = true := bne_iff_ne.2 hb
      rw [e, e2, if_neg (by simp), Bool.true_and]
      split <;> rename_i h3
      · rw [beq_iff_eq] at h3; simp [h3]
      · have : Lib.indexByte l 0 ≠ -1 := fun e => h3 (by simp [e])
        simp; omega
theorem noNul_index (s : ByteArray) : noNul s s.size = decide (Lib.indexByte s.data.toList 0 < 0) := by
  rw [index_nul]
  unfold noNul
  rw [List.take_of_length_le (by simp)]

theorem ret_boolK {a b : Bool} (h : a = b) : Ending.returned (.bool a) = .returned (.bool b) := by rw [h]
set_option maxHeartbeats 400000 in
theorem isKey_any (s : ByteArray) (w : World) (V : Bool) (cV : Calls Tryf.prog 12 #[.string s] w fun e w' => e = .returned (.bool V) ∧ w' = w) :
    Calls Tryf.prog 8 #[.string s] w fun e w' => e = .returned (.bool (decide (1 ≤ s.size ∧ s.size ≤ 1024) && (noNul s s.size && V))) ∧ w' = w := by
  by_cases h1 : (s.size : Int) < 1
  · have e1 : decide (1 ≤ s.size ∧ s.size ≤ 1024) = false := by simp; omega
    rw [e1]
    clear cV
    go_enter Tryf.func8, Tryf.ntmps8
    go_wp2
    go_ret
    exact ⟨rfl, rfl⟩
  by_cases h2 : (1024 : Int) < (s.size : Int)
  · have e1 : decide (1 ≤ s.size ∧ s.size ≤ 1024) = false := by simp; omega
    rw [e1]
    clear cV
    go_enter Tryf.func8, Tryf.ntmps8
    go_wp2
    go_ret
    exact ⟨rfl, rfl⟩
  have e1 : decide (1 ≤ s.size ∧ s.size ≤ 1024) = true := by simp; omega
  rw [e1, Bool.true_and]
  clear e1
  go_enter Tryf.func8, Tryf.ntmps8
  go_wp2
  go_loop [3] (fun i => ∃ k : Nat, k ≤ s.size ∧ i = .int .i64 k ∧ Hid (noNul s k = true)) (fun i => s.size - (intOf i).toNat)
  case atStart => exact ⟨0, Nat.zero_le _, rfl, by simp [Hid, noNul]⟩
  case round =>
    obtain ⟨k, hk, rfl, hv⟩ := hrel
    by_cases hlt : k < s.size
    · by_cases hc : (s[k].toNat : Int) = 0
      · have hb : ((s[k].toNat : Int) == 0) = true := beq_iff_eq.2 hc
        have H : Hid _ := noNul_hit s k hlt hc
        clear hc
        go_wp2
        go_ret
        exact ⟨ret_boolK (by rw [H.out]; rfl), rfl⟩
      · have hb : ((s[k].toNat : Int) == 0) = false := beq_eq_false_iff_ne.2 hc
        have H : Hid _ := noNul_step s k hlt hc hv.out
        go_wp2
        go_round
        case rel => exact ⟨k + 1, by omega, by go_num, H.out⟩
        case measure => simp [intOf]; omega
    · have H : Hid (noNul s s.size = true) := by have := hv.out; rwa [show k = s.size by omega] at this
      go_wp2_with (go_at_call 12; refine cV.mono ?_; rintro e w' ⟨rfl, hw⟩; subst hw)
      go_ret
      exact ⟨ret_boolK (by rw [H.out]; rfl), rfl⟩
end Go.Proofs.Qxb6608923aFmt
