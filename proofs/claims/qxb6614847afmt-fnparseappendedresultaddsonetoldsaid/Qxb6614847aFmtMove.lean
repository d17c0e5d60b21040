/-
  What the reader's moves keep; what a callee's word on memory says of the reader.
-/
import Derived.Test.Qxb6614847aFmtKwb
import Derived.Test.Qxb6614847aFmtPos
namespace Go.Proofs.Qxb6614847aFmt
open Go.RowKit Go.Extern.Stop Go.Stop Go.Extern

theorem Rd.below {w w' : World} {R : Nat} {s : ByteArray} {i : Nat} (h : Rd w R s i) {B : Nat} (hB : R < B) (hb : Below B w w') : Rd w' R s i :=
  ⟨Nat.lt_of_lt_of_le h.lt hb.size, (hb.cell hB).trans h.text, (hb.cell hB).trans h.pos, (hb.frozen hB).trans h.free⟩
theorem Rd.grown {w w' : World} {R : Nat} {s : ByteArray} {i : Nat} (h : Rd w R s i) {row : Option Nat} (hr : some R ≠ row) (hg : w.grownBy w' row) : Rd w' R s i :=
  ⟨Nat.lt_of_lt_of_le h.lt hg.size, hg.cell h.text hr, hg.cell h.pos hr, (World.frozen?_of_block (a := ⟨R, 1, none⟩) (hg.block R h.lt hr)).trans h.free⟩
theorem grown_below {w w1 w2 : World} {row : Option Nat} {B : Nat} (hg : w.grownBy w1 row) (hB : w.heap.size ≤ B) (hb : Below B w1 w2) : w.grownBy w2 row :=
  ⟨hb.os.trans hg.os, hb.tape.trans hg.tape, hb.output.trans hg.output, Nat.le_trans hg.size hb.size, fun k hk hne => (hb.block k (Nat.lt_of_lt_of_le hk hB)).trans (hg.block k hk hne)⟩
theorem below_grown {w w' : World} (row : Option Nat) {B : Nat} (hB : w.heap.size ≤ B) (hb : Below B w w') : w.grownBy w' row := grown_below (World.grownBy.refl _ _) hB hb
theorem Moved.below {w w1 w2 : World} {R : Nat} {s : ByteArray} {k : Nat} (h : Moved w w1 R s k) {B : Nat} (hR : R < w.heap.size) (hB : w.heap.size ≤ B) (hb : Below B w1 w2) : Moved w w2 R s k :=
  ⟨h.rd.below (Nat.lt_of_lt_of_le hR hB) hb, grown_below h.grown hB hb⟩
theorem Moved.trans {w w1 w2 : World} {R : Nat} {s : ByteArray} {j k : Nat} (h : Moved w w1 R s j) (h2 : Moved w1 w2 R s k) : Moved w w2 R s k := ⟨h2.rd, h.grown.trans h2.grown⟩
/-- A call ends in an error; of what was there only the reader has turned. -/
def Bad (w : World) (R : Nat) (v : Value) (w' : World) : Prop := IsErr w' v ∧ w.grownBy w' (some R)
theorem Fails.bad {w w' : World} {e : Ending} {R : Nat} (h : Fails w e w') : ∃ v, e = .returned v ∧ Bad w R v w' := by
  obtain ⟨v, he, hv, hb⟩ := h
  exact ⟨v, he, hv, below_grown _ (Nat.le_refl _) hb⟩
theorem Bad.after {w w1 w2 : World} {R : Nat} {v : Value} (hg : w.grownBy w1 (some R)) (h : Bad w1 R v w2) : Bad w R v w2 := ⟨h.1, hg.trans h.2⟩
theorem answers_grown {F : Interp} {w w' : World} {row : Option Nat} (hF : F.answers w.tape) (hg : w.grownBy w' row) : F.answers w'.tape := by rw [hg.tape]; exact hF

/-- quotedString's end: as written and its content, or an error. -/
def QPost (w : World) (R : Nat) (s : ByteArray) (i : Nat) (e : Ending) (w' : World) : Prop :=
  (∃ j ct, i < j ∧ j ≤ s.size ∧ quo [] (rest s (i + 1)) = some (ct, rest s j) ∧ e = .returned (.tuple #[.string (s.extract i j), .string ⟨ct.toArray⟩, .nilIface]) ∧ Moved w w' R s j) ∨
  (quo [] (rest s (i + 1)) = none ∧ ∃ v, e = .returned (.tuple #[.string ⟨#[]⟩, .string ⟨#[]⟩, v]) ∧ Bad w R v w')
theorem quo_step (s : ByteArray) (k : Nat) (acc : List UInt8) (h : k < s.size) : quo acc (rest s k) = if s[k] = 92 then (match rest s (k + 1) with | [] => none | d :: r' => quo (acc ++ [d]) r') else if s[k] = 34 then some (acc, rest s (k + 1)) else quo (acc ++ [s[k]]) (rest s (k + 1)) := by
  rw [rest_cons s k h, quo_cons]; cases rest s (k + 1) <;> rfl
theorem ne_byte {c : UInt8} {n : Nat} (h : ¬ c = UInt8.ofNat n) : ((c.toNat : Int) == (n : Int)) = false := by
  have : c.toNat ≠ n := fun e => h (by rw [← e]; simp)
  simpa using fun e => this (by exact_mod_cast e)
theorem eq_byte {c : UInt8} {n : Nat} (hn : n < 256) (h : c = UInt8.ofNat n) : ((c.toNat : Int) == (n : Int)) = true := by
  subst h
  simp [UInt8.toNat_ofNat']
  omega
/-- The byte at which the reader stands, or 0. -/
def nx (l : List UInt8) : UInt8 := l.head?.getD 0
theorem nx_is {l : List UInt8} {c : UInt8} (hc : c ≠ 0) : nx l = c ↔ l.head? = some c := by
  unfold nx
  cases h : l.head? with
  | none => exact ⟨fun e => absurd e.symm hc, fun e => nomatch e⟩
  | some d => exact ⟨fun e => congrArg some e, fun e => Option.some.inj e⟩
theorem next_is (R : Nat) (s : ByteArray) (i : Nat) (w : World) (h : Rd w R s i) : Calls Tryf.prog 14 #[.pointer (some ⟨R, 0, none⟩)] w fun e w' => e = .returned (.int .u8 ((nx (rest s i)).toNat : Int)) ∧ ∃ m, w' = w.drewN m := by
  by_cases hi : i < s.size
  · have := next_at R s i w h hi
    rw [rest_cons s i hi]
    exact this
  · have := next_end R s i w h (by omega)
    rw [rest_end s i (by omega)]
    exact this
theorem unexpected_any (F : Interp) (R : Nat) (s want : ByteArray) (i : Nat) (w : World) (hF : F.answers w.tape) (h : Rd w R s i) : Calls Tryf.prog 16 #[.pointer (some ⟨R, 0, none⟩), .string want] w fun e w' => ∃ v, e = .returned v ∧ Bad w R v w' := by
  by_cases hi : i < s.size
  · exact (unexpected_at F R s want i w hF h hi).mono fun e w' h => h.bad
  · exact (unexpected_end F R s want i w hF h (by omega)).mono fun e w' h => h.bad
end Go.Proofs.Qxb6614847aFmt
