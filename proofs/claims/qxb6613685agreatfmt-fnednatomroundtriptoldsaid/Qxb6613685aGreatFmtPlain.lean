/-
  The plain side: what an atom's bytes read as, how a form is written, and that the written form reads as the form. No run of the model here.
-/
import Derived.Lib.SlTrimSet
import Derived.Lib.Strings
import Derived.Lib.ParseIntB
import Derived.Lib.ItoaNum
namespace Go.Proofs.Qxb6613685aGreatFmt
open Go.Lib

def digs : List UInt8 := [48, 49, 50, 51, 52, 53, 54, 55, 56, 57]
def signs : List UInt8 := [43, 45]
def dig (c : UInt8) : Bool := decide (48 ≤ (c.toNat : Int)) && decide ((c.toNat : Int) ≤ 57)
theorem dig_iff (c : UInt8) : dig c = true ↔ 48 ≤ c.toNat ∧ c.toNat ≤ 57 := by
  unfold dig; rw [Bool.and_eq_true, decide_eq_true_iff, decide_eq_true_iff]; omega
theorem digs_has (c : UInt8) : digs.contains c = dig c := by
  rw [Bool.eq_iff_iff, dig_iff]
  simp [digs, ← UInt8.toNat_inj]
  omega
theorem signs_has (c : UInt8) : signs.contains c = true ↔ c.toNat = 43 ∨ c.toNat = 45 := by
  simp [signs, ← UInt8.toNat_inj]

/-- A digit's value. -/
def dv (c : UInt8) : Nat := c.toNat - 48
theorem dv_eq (c : UInt8) : dv c = c.toNat - 48 := rfl
/-- What decimal digits spell, behind what was spelt. -/
def valGo : List UInt8 → Nat → Nat
  | [], a => a
  | c :: l, a => valGo l (a * 10 + dv c)
def valFrom (a : Nat) (l : List UInt8) : Nat := valGo l a
theorem valFrom_cons (a : Nat) (c : UInt8) (l : List UInt8) : valFrom a (c :: l) = valFrom (a * 10 + dv c) l := by
  unfold valFrom
  rw [valGo]
theorem valFrom_nil (a : Nat) : valFrom a [] = a := by
  unfold valFrom
  rw [valGo]
theorem valFrom_append (r : List UInt8) : ∀ (l : List UInt8) (a : Nat), valFrom a (l ++ r) = valFrom (valFrom a l) r
  | [], a => by rw [List.nil_append, valFrom_nil]
  | c :: l, a => by rw [List.cons_append, valFrom_cons, valFrom_cons, valFrom_append r l]
theorem valFrom_ge (l : List UInt8) : ∀ a, a ≤ valFrom a l := by
  induction l with
  | nil => intro a; rw [valFrom_nil]; exact Nat.le_refl _
  | cons c l ih => intro a; rw [valFrom_cons]; exact Nat.le_trans (by omega) (ih _)
theorem valFrom_lt (l : List UInt8) (h : l.all dig = true) : valFrom 0 l < 10 ^ l.length := by
  have gen : ∀ (l : List UInt8) (a : Nat), l.all dig = true → valFrom a l < (a + 1) * 10 ^ l.length := by
    intro l
    induction l with
    | nil => intro a _; rw [valFrom_nil]; simp
    | cons c l ih =>
      intro a h
      rw [List.all_cons, Bool.and_eq_true, dig_iff] at h
      rw [valFrom_cons, List.length_cons, Nat.pow_succ]
      have h1 := ih (a * 10 + dv c) h.2
      have h2 : (a * 10 + dv c + 1) * 10 ^ l.length ≤ (a + 1) * 10 * 10 ^ l.length := Nat.mul_le_mul_right _ (by rw [dv_eq]; omega)
      rw [Nat.mul_comm (10 ^ l.length) 10, ← Nat.mul_assoc]
      omega
  have := gen l 0 h
  simpa using this

/-! ### what the functions compute -/
/-- A sign ahead is passed over. -/
def body (l : List UInt8) : List UInt8 := match l with
  | [] => []
  | c :: r => if c.toNat = 45 ∨ c.toNat = 43 then r else l
/-- smallInteger. -/
def smallL (l : List UInt8) : Option Int :=
  if body l = [] ∨ 18 < (body l).length ∨ ((body l).head? = some 48 ∧ 1 < (body l).length) then none
  else if (body l).all dig = true then some (if l.head? = some 45 then -(valFrom 0 (body l) : Int) else valFrom 0 (body l)) else none
/-- isFloatTail, behind the M and the fraction. -/
def expL (s : List UInt8) : Bool :=
  if s.head? = some 101 ∨ s.head? = some 69 then
    let x := if s.tail.head? = some 43 ∨ s.tail.head? = some 45 then s.tail.tail else s.tail
    decide (x ≠ []) && decide (trimS x digs = [])
  else decide (s = [])
/-- isFloatTail. -/
def floatL (s0 : List UInt8) : Bool :=
  let s := trimSuffix s0 [77]
  expL (if hasPrefix s [46] = true then trimLeftS (s.drop 1) digs else s)

/-- A form: its kind, text, number, and whether it fits. -/
abbrev Form := Nat × List UInt8 × Int × Bool
/-- number, behind smallInteger and the signs: the rest e behind the digits of d. -/
def numTail (l d e : List UInt8) : Option Form :=
  if 1 < d.length - e.length ∧ d.head? = some 48 then none
  else if e = [] ∨ e = [78] then
    match parseIntB 64 (trimSuffix l [78]) with
    | .ok n => some (2, [], n, true)
    | .range => some (2, l, 0, false)
    | _ => none
  else if e.head? = some 47 ∧ 1 < e.length ∧ trimS e.tail digs = [] then some (3, l, 0, false)
  else if floatL e = true then some (3, l, 0, false)
  else none
def numL (l : List UInt8) : Option Form :=
  match smallL l with
  | some n => some (2, [], n, true)
  | none => if (trimLeftS l signs).length + 1 < l.length then none else numTail l (trimLeftS l signs) (trimLeftS (trimLeftS l signs) digs)
/-- Does the token read as a number? -/
def numCond (l : List UInt8) : Bool :=
  match l with
  | [] => false
  | c :: r => dig c || (decide (c.toNat = 43 ∨ c.toNat = 45) && match r with | [] => false | d :: _ => dig d)
/-- atom. -/
def atomL (l : List UInt8) : Option Form :=
  if l = [110, 105, 108] then some (0, [], 0, false)
  else if l = [116, 114, 117, 101] ∨ l = [102, 97, 108, 115, 101] then some (1, l, 0, false)
  else if l.head? = some 58 then (if l.length = 1 ∨ l.tail.head? = some 58 then none else some (6, l.tail, 0, false))
  else if numCond l = true then numL l
  else some (7, l, 0, false)
/-- How a form is written. -/
def writeL (f : Form) : List UInt8 :=
  if f.1 = 0 then [110, 105, 108]
  else if f.1 = 2 then (if f.2.2.2 = true then itoa f.2.2.1 else f.2.1)
  else if f.1 = 6 then 58 :: f.2.1
  else f.2.1

/-! ### digits -/
theorem dec_all : ∀ u, (decDigits u).all dig = true := by
  intro u
  induction u using Nat.strongRecOn with
  | _ u ih =>
    have one : ∀ k, k < 10 → dig (UInt8.ofNat (48 + k)) = true := fun k hk => by
      rw [dig_iff, UInt8.toNat_ofNat']; omega
    rw [decDigits]
    by_cases h : u < 10
    · rw [dif_pos h, List.all_cons, one u h]; rfl
    · rw [dif_neg h, List.all_append, ih (u / 10) (by omega), List.all_cons, one (u % 10) (by omega)]; rfl
theorem dec_val : ∀ u, valFrom 0 (decDigits u) = u := by
  intro u
  induction u using Nat.strongRecOn with
  | _ u ih =>
    have one : ∀ k, k < 10 → dv (UInt8.ofNat (48 + k)) = k := fun k hk => by
      rw [dv_eq, UInt8.toNat_ofNat']; omega
    rw [decDigits]
    by_cases h : u < 10
    · rw [dif_pos h, valFrom_cons, one u h, valFrom_nil]; omega
    · rw [dif_neg h, valFrom_append, ih (u / 10) (by omega), valFrom_cons, one (u % 10) (by omega)]
      rw [valFrom_nil]
      omega
theorem dec_ne (u : Nat) : decDigits u ≠ [] := by
  intro h
  have := decDigits_length u
  rw [h] at this
  have := nDigits_pos u
  simp at *
  omega
theorem dec_head : ∀ u, (decDigits u).head? = some 48 → u = 0 := by
  intro u
  induction u using Nat.strongRecOn with
  | _ u ih =>
    rw [decDigits]
    by_cases h : u < 10
    · rw [dif_pos h]
      intro e
      simp only [List.head?_cons, Option.some.injEq] at e
      have := congrArg UInt8.toNat e
      rw [UInt8.toNat_ofNat'] at this
      have h48 : (48 : UInt8).toNat = 48 := rfl
      omega
    · rw [dif_neg h]
      intro e
      cases hd : decDigits (u / 10) with
      | nil => exact absurd hd (dec_ne _)
      | cons c r =>
        rw [hd] at e
        have := ih (u / 10) (by omega) (by rw [hd]; exact e)
        omega

/-! ### parsing digits -/
theorem parse_digits (M : Nat) (hM : M ≤ 18446744073709551615) : ∀ (l : List UInt8) (a : Nat), l.all dig = true → valFrom a l ≤ M → parseUintM M a l = .ok (valFrom a l) := by
  intro l
  induction l with
  | nil => intro a _ _; rw [valFrom_nil]; rfl
  | cons c l ih =>
    intro a h hv
    rw [List.all_cons, Bool.and_eq_true, dig_iff] at h
    rw [valFrom_cons] at hv ⊢
    have hge := valFrom_ge l (a * 10 + dv c)
    rw [dv_eq] at hge hv ⊢
    unfold parseUintM
    rw [if_pos h.1, if_neg (by omega), if_neg (by omega)]
    exact ih _ h.2 hv
/-- Digits alone never fail to parse but for their size. -/
theorem parse_ends (M : Nat) : ∀ (l : List UInt8) (a : Nat), l.all dig = true → (∃ u, parseUintM M a l = .ok u) ∨ parseUintM M a l = .range := by
  intro l
  induction l with
  | nil => intro a _; exact .inl ⟨_, rfl⟩
  | cons c l ih =>
    intro a h
    rw [List.all_cons, Bool.and_eq_true, dig_iff] at h
    unfold parseUintM
    rw [if_pos h.1]
    by_cases h1 : 1844674407370955162 ≤ a
    · rw [if_pos h1]; exact .inr rfl
    · rw [if_neg h1]
      by_cases h2 : M < a * 10 + (c.toNat - 48)
      · rw [if_pos h2]; exact .inr rfl
      · rw [if_neg h2]; exact ih _ h.2
end Go.Proofs.Qxb6613685aGreatFmt
