/-
  The walk of unexpected where the text goes on.
-/
import Derived.Test.Qxb6614847aFmtReadA
import Derived.BigRegion
namespace Go.Proofs.Qxb6614847aFmt
open Go.RowKit Go.Extern.Stop Go.Stop Go.Extern
set_option maxHeartbeats 4000000 in
theorem unexpected_at (F : Interp) (R : Nat) (s want : ByteArray) (i : Nat) (w : World) (hF : F.answers w.tape) (h : Rd w R s i) (hi : i < s.size) : Calls Tryf.prog 16 #[.pointer (some ⟨R, 0, none⟩), .string want] w (Fails w) := by
  obtain ⟨_, h0, h1, _⟩ := h
  have ht : decide ((s.size : Int) ≤ (i : Int)) = false := decide_eq_false (by omega)
  have ht2 : (i : Int) < (s.size : Int) := by omega
  go_enter Tryf.func16, Tryf.ntmps16
  go_wp2
  go_quiet (fail)
  go_wp2
  go_region_with (go_at_call 10; refine (errorf_at F want (i : Int) (s[i].toNat : Int) _ _ ?_ ?_ ?_ ?_).mono ?_; exact hF; exact alloc_cell _ _ 0 _ _ rfl; exact alloc_cell _ _ 1 _ _ rfl; exact alloc_cell _ _ 2 _ _ rfl; rintro e w1 ⟨v, rfl, hv, hb⟩)
  all_goals (try go_wp2)
  all_goals go_ret
  all_goals exact ⟨v, rfl, hv, ((drew_below w (nq + 1)).alloc (Nat.le_refl _) _).trans (hb.mono (by simp))⟩
end Go.Proofs.Qxb6614847aFmt
