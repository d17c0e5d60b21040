/-
  The walk of isTokenByte.
-/
import Derived.Test.Qxb6614847aFmtMove
import Derived.Test.Qxb6614847aFmtLay
import Derived.Lib.QuietBelow
namespace Go.Proofs.Qxb6614847aFmt
open Go.RowKit Go.Extern.Stop Go.Stop Go.Extern

/-! ### isTokenByte -/
theorem index_mem (c : UInt8) : ∀ l : List UInt8, (-1 ≤ Lib.indexByte l c) ∧ decide (0 ≤ Lib.indexByte l c) = l.contains c
  | [] => ⟨by show (-1 : Int) ≤ -1; decide, rfl⟩
  | b :: l => by
    obtain ⟨h1, h2⟩ := index_mem c l
    unfold Lib.indexByte
    rw [List.contains_cons]
    by_cases h : b = c
    · subst h
      rw [beq_self_eq_true, if_pos rfl]
      exact ⟨by decide, by simp⟩
    · have hb : (b == c) = false := by simpa using h
      have hc : (c == b) = false := by simpa using fun e => h e.symm
      rw [hb, hc, if_neg (by decide), Bool.false_or, ← h2]
      by_cases h3 : Lib.indexByte l c = -1
      · rw [h3]; exact ⟨by decide, by decide⟩
      · have h4 : (Lib.indexByte l c == -1) = false := by simpa using h3
        rw [h4, if_neg (by decide)]
        exact ⟨by omega, by rw [Bool.eq_iff_iff, decide_eq_true_iff, decide_eq_true_iff]; omega⟩
def specialsS : ByteArray := ⟨#[40, 41, 60, 62, 64, 44, 59, 58, 92, 34, 47, 91, 93, 63, 61]⟩
theorem contains_is (c : UInt8) (h : c.toNat ≤ 126) (w : World) : Calls Tryf.prog 22 #[.string ⟨#[40, 41, 60, 62, 64, 44, 59, 58, 92, 34, 47, 91, 93, 63, 61]⟩, .int .i32 (c.toNat : Int)] w fun e w' => e = .returned (.bool (specials.contains c)) ∧ w' = w := by
  have h2 := Any.strings_ContainsRune_ascii Tryf.lays151 specialsS (c.toNat : Int) w (by omega) (by omega)
  refine h2.mono ?_
  rintro e w' ⟨rfl, rfl⟩
  refine ⟨?_, rfl⟩
  have e1 : ((c.toNat : Int)).toNat.toUInt8 = c := by simp
  rw [e1, (index_mem c _).2]
  rfl
theorem tok_0 (n : Int) (w : World) (_a : decide ((33 : Int) ≤ n) = false) : Calls Tryf.prog 12 #[.int .u8 n] w fun e w' => e = .returned (.bool false) ∧ w' = w := by
  go_enter Tryf.func12, Tryf.ntmps12
  go_wp2
  go_ret
  exact ⟨by simp_all, rfl⟩
theorem tok_1 (n : Int) (w : World) (_a : (33 : Int) ≤ n) (_b : decide (n ≤ 126) = false) : Calls Tryf.prog 12 #[.int .u8 n] w fun e w' => e = .returned (.bool false) ∧ w' = w := by
  go_enter Tryf.func12, Tryf.ntmps12
  go_wp2
  go_ret
  exact ⟨by simp_all, rfl⟩
theorem wrap32 (c : UInt8) : IntKind.i32.wrap (c.toNat : Int) = (c.toNat : Int) := by
  have := c.toNat_lt
  rw [IntKind.wrap_i32]; omega
theorem tok_2 (c : UInt8) (w : World) (_a : (33 : Int) ≤ (c.toNat : Int)) (_b : (c.toNat : Int) ≤ 126) : Calls Tryf.prog 12 #[.int .u8 (c.toNat : Int)] w fun e w' => e = .returned (.bool (!specials.contains c)) ∧ w' = w := by
  have hc := wrap32 c
  go_enter Tryf.func12, Tryf.ntmps12
  go_wp2_with (go_at_call 22; refine (contains_is c (by omega) _).mono ?_; rintro e w' ⟨rfl, hw⟩; have hw2 := hw.symm; subst hw2)
  go_ret
  exact ⟨by simp_all, rfl⟩
end Go.Proofs.Qxb6614847aFmt
