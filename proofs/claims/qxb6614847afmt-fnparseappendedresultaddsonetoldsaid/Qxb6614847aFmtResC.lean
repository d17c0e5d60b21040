/-
  The walk of result: its parts joined.
-/
import Derived.Test.Qxb6614847aFmtResB1
import Derived.Test.Qxb6614847aFmtResB2
import Derived.Test.Qxb6614847aFmtResB3
import Derived.Test.Qxb6614847aFmtResB4
namespace Go.Proofs.Qxb6614847aFmt
open Go.RowKit Go.Extern.Stop Go.Stop Go.Extern Go.Maps

theorem result_any (F : Interp) (Fu R : Nat) (s : ByteArray) (i : Nat) (w : World) (hF : F.answers w.tape) (h : Rd w R s i) (hi : i ≤ s.size) (hs : s.size ≤ 2097152) (hFu : s.size < Fu) :
    Calls Tryf.prog 21 #[.pointer (some ⟨R, 0, none⟩)] w (RPost Fu w R s i) := by
  by_cases hx : ∃ j, space ((rest s i).dropWhile kwB) = some (rest s j) ∧ (rest s j).head? = some 47
  · have hsl : ∀ j, space ((rest s i).dropWhile kwB) = some (rest s j) → (rest s j).head? = some 47 := fun j e => by
      obtain ⟨j0, h1, h2⟩ := hx
      rw [h1] at e
      rw [← Option.some.inj e]
      exact h2
    by_cases hno : kw (rest s i) = [110, 111, 110, 101]
    · exact result_p3 F Fu R s i w hF h hi hs hFu hno hsl
    · exact result_p1 F Fu R s i w hF h hi hs hFu hno hsl
  · have hsl : ∀ j, space ((rest s i).dropWhile kwB) = some (rest s j) → ¬ (rest s j).head? = some 47 := fun j e h2 => hx ⟨j, e, h2⟩
    by_cases hno : kw (rest s i) = [110, 111, 110, 101]
    · exact result_p4 F Fu R s i w hF h hi hs hFu hno hsl
    · exact result_p2 F Fu R s i w hF h hi hs hFu hno hsl
end Go.Proofs.Qxb6614847aFmt
