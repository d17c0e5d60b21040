/-
  The plain side of zzValidUTF8: 'Lib.validD' of the rest of a string, one step of the table at a time. No run of the model here.
-/
import Derived.Lib.ValidLaws
namespace Go.Proofs.Qxb6608923aFmt
open Go.Lib

/-- The byte at i, or 0. -/
def at0 (s : ByteArray) (i : Nat) : Nat := (s.data.toList.getD i 0).toNat
/-- The rest from k on is valid UTF-8. -/
def vFrom (s : ByteArray) (k : Nat) : Bool := validD (s.data.toList.drop k)

theorem at0_get (s : ByteArray) (i : Nat) (h : i < s.size) : s[i].toNat = at0 s i := by
  unfold at0
  rw [List.getD_eq_getElem?_getD, List.getElem?_eq_getElem (by simpa using h)]
  rfl
theorem vFrom_end (s : ByteArray) : vFrom s s.size = true := by
  unfold vFrom
  rw [List.drop_of_length_le (by simp)]
  rfl
theorem vFrom_ascii (s : ByteArray) (k : Nat) (h : k < s.size) (hc : at0 s k < 128) : vFrom s k = vFrom s (k + 1) := by
  unfold vFrom
  have hl : k < s.data.toList.length := by simpa using h
  rw [List.drop_eq_getElem_cons hl]
  refine validD_cons _ _ ?_
  have := at0_get s k h
  unfold at0 at this hc
  rw [List.getD_eq_getElem?_getD, List.getElem?_eq_getElem hl] at hc
  simpa using hc

/-- What speaks against the sequence of n bytes at k. -/
def Bad (s : ByteArray) (k n lo hi : Nat) : Prop :=
  s.size - k < n ∨ at0 s (k + 1) < lo ∨ hi < at0 s (k + 1) ∨ (3 ≤ n ∧ (at0 s (k + 2) < 128 ∨ 191 < at0 s (k + 2))) ∨ (4 ≤ n ∧ (at0 s (k + 3) < 128 ∨ 191 < at0 s (k + 3)))

structure Row (c n lo hi : Nat) : Prop where
  big : 128 ≤ c
  len : firstT c % 8 = n
  low : accLo (firstT c / 16) = lo
  high : accHi (firstT c / 16) = hi
  any : n = 2 ∨ n = 3 ∨ n = 4

theorem vFrom_lead (s : ByteArray) (k : Nat) (h : k < s.size) (hc : 128 ≤ at0 s k) :
    vFrom s k = match checkN (s.size - k) (at0 s (k + 1)) (at0 s (k + 2)) (at0 s (k + 3)) (firstT (at0 s k) % 8) (accLo (firstT (at0 s k) / 16)) (accHi (firstT (at0 s k) / 16)) with
      | none => false
      | some n => vFrom s (k + n) := by
  have hl : k < s.data.toList.length := by simpa using h
  have e : ∀ i, (s.data.toList.drop k).getD i 0 = s.data.toList.getD (k + i) 0 := fun i => by
    rw [List.getD_eq_getElem?_getD, List.getElem?_drop, ← List.getD_eq_getElem?_getD]
  unfold vFrom
  rw [validD_lead _ (by intro h0; rw [List.drop_eq_nil_iff] at h0; omega) (by rw [e 0]; exact hc)]
  rw [e 0, e 1, e 2, e 3, List.length_drop]
  simp only [at0, Nat.add_zero, List.drop_drop]
  rfl

theorem vFrom_bad {s : ByteArray} {k n lo hi : Nat} (h : k < s.size) (r : Row (at0 s k) n lo hi) (hb : Bad s k n lo hi) : vFrom s k = false := by
  rw [vFrom_lead s k h r.big, r.len, r.low, r.high]
  have : checkN (s.size - k) (at0 s (k + 1)) (at0 s (k + 2)) (at0 s (k + 3)) n lo hi = none := by
    unfold Bad at hb
    unfold checkN
    rcases r.any with rfl | rfl | rfl <;> simp only [] <;> (repeat' split) <;> first | rfl | (exfalso; omega) | simp_all | omega
  rw [this]
theorem vFrom_good {s : ByteArray} {k n lo hi : Nat} (h : k < s.size) (r : Row (at0 s k) n lo hi) (hb : ¬ Bad s k n lo hi) : vFrom s k = vFrom s (k + n) := by
  rw [vFrom_lead s k h r.big, r.len, r.low, r.high]
  have : checkN (s.size - k) (at0 s (k + 1)) (at0 s (k + 2)) (at0 s (k + 3)) n lo hi = some n := by
    unfold Bad at hb
    unfold checkN
    rcases r.any with rfl | rfl | rfl <;> simp only [] <;> (repeat' split) <;> first | rfl | (exfalso; omega) | simp_all | omega
  rw [this]
/-- A byte that begins no sequence. -/
theorem vFrom_none (s : ByteArray) (k : Nat) (h : k < s.size) (hc : (128 ≤ at0 s k ∧ at0 s k < 194) ∨ (245 ≤ at0 s k ∧ at0 s k < 256)) : vFrom s k = false := by
  rw [vFrom_lead s k h (by omega)]
  have e : firstT (at0 s k) = 241 := by
    unfold firstT
    (repeat' split) <;> first | rfl | omega
  rw [e]
  rfl

theorem row_C2 {c : Nat} (h1 : 194 ≤ c) (h2 : c ≤ 223) : Row c 2 128 191 := by
  have e : firstT c = 2 := by unfold firstT; (repeat' split) <;> omega
  exact ⟨by omega, by rw [e], by rw [e]; rfl, by rw [e]; rfl, by omega⟩
theorem row_E0 : Row 224 3 160 191 := ⟨by decide, by decide, by decide, by decide, by decide⟩
theorem row_E1 {c : Nat} (h1 : 225 ≤ c) (h2 : c ≤ 239) (h3 : c ≠ 237) : Row c 3 128 191 := by
  have e : firstT c = 3 := by unfold firstT; (repeat' split) <;> omega
  exact ⟨by omega, by rw [e], by rw [e]; rfl, by rw [e]; rfl, by omega⟩
theorem row_ED : Row 237 3 128 159 := ⟨by decide, by decide, by decide, by decide, by decide⟩
theorem row_F0 : Row 240 4 144 191 := ⟨by decide, by decide, by decide, by decide, by decide⟩
theorem row_F1 {c : Nat} (h1 : 241 ≤ c) (h2 : c ≤ 243) : Row c 4 128 191 := by
  have e : firstT c = 4 := by unfold firstT; (repeat' split) <;> omega
  exact ⟨by omega, by rw [e], by rw [e]; rfl, by rw [e]; rfl, by omega⟩
theorem row_F4 : Row 244 4 128 143 := ⟨by decide, by decide, by decide, by decide, by decide⟩
end Go.Proofs.Qxb6608923aFmt
