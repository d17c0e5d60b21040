/-
  The walks: fmt.Errorf at this program's formats, errors.New, the reader's small functions.
-/
import Derived.Test.Qxb6614847aFmtStops
import Derived.Test.Qxb6614847aFmtMore
import Derived.WalkKit
import Derived.WalkSpells
import Derived.WalkLawsBesides
import Derived.BigQuiet
import Derived.Deep.QuietTactic
import Derived.Deep.RegionWith
import Derived.Below
import Derived.Handy
namespace Go.Proofs.Qxb6614847aFmt
open Go.RowKit Go.Extern.Stop Go.Stop Go.Extern
attribute [local go_sem] Tryf.call17 Tryf.guard Tryf.fmt0 Tryf.fmt0r Tryf.fmt1 Tryf.fmt1r Tryf.fmt2 Tryf.fmt2r Tryf.fmt3 Tryf.fmt3r Tryf.fmt4 Tryf.fmt4r Tryf.fmt5 Tryf.fmt5r Tryf.op9_115 Tryf.op9_115w Tryf.op3_100 Tryf.op3_100w Tryf.op5_113 Tryf.op5_113w Tryf.ptr59 Tryf.elem59 Tryf.isError59 Tryf.ptr50 Tryf.elem50 Tryf.isError50

theorem hideP {p : Prop} (h : p) : Hid p := h
/-- An error of errors.New's make, its text in memory. -/
def IsErr (w : World) (v : Value) : Prop := ∃ b t, v = .iface 59 (.pointer (some ⟨b, 0, none⟩)) ∧ b < w.heap.size ∧ w.cell? ⟨b, 0, none⟩ = some (.string t)
/-- A call that ends in such an error. -/
def Fails (w : World) (e : Ending) (w' : World) : Prop := ∃ v, e = .returned v ∧ IsErr w' v ∧ Below w.heap.size w w'
theorem made_cell (w : World) (t : ByteArray) : (w.alloc (.cells #[.string t] 61)).cell? ⟨w.heap.size, 0, none⟩ = some (.string t) := by go_simp
theorem made_cell1 (w : World) (t : ByteArray) : (w.alloc (.cells #[.string t] 61)).drew.cell? ⟨w.heap.size, 0, none⟩ = some (.string t) := by go_simp
theorem new_any (s : ByteArray) (w : World) : Calls Tryf.prog 18 #[.string s] w (Fails w) := by
  go_enter Tryf.func18, Tryf.ntmps18
  go_wp2
  go_ret
  exact ⟨_, rfl, ⟨_, _, rfl, by simp, made_cell _ _⟩, (Below.refl _ _).alloc (Nat.le_refl _) _⟩

set_option maxHeartbeats 400000 in
theorem errorf_end (F : Interp) (s : ByteArray) (b : Nat) (w : World) (hF : F.answers w.tape) (c0 : w.cell? ⟨b, 0, none⟩ = some (.iface 9 (.string s))) :
    Calls Tryf.prog 10 #[.string ⟨#[119, 97, 110, 116, 32, 37, 115, 32, 97, 116, 32, 116, 104, 101, 32, 101, 110, 100]⟩, .slice (some ⟨b, 0, none⟩) 1 1] w (Fails w) := by
  have hF' := answers_open hF
  go_enter Tryf.func10, Tryf.ntmps10
  go_wp2
  go_ret
  exact ⟨_, rfl, ⟨_, _, rfl, by simp, made_cell1 _ _⟩, ((Below.refl _ _).alloc (Nat.le_refl _) _).drew⟩

set_option maxHeartbeats 400000 in
theorem errorf_at (F : Interp) (s : ByteArray) (i c : Int) (b : Nat) (w : World) (hF : F.answers w.tape) (c0 : w.cell? ⟨b, 0, none⟩ = some (.iface 9 (.string s))) (c1 : w.cell? ⟨b, 1, none⟩ = some (.iface 3 (.int .i64 i))) (c2 : w.cell? ⟨b, 2, none⟩ = some (.iface 5 (.int .u8 c))) :
    Calls Tryf.prog 10 #[.string ⟨#[119, 97, 110, 116, 32, 37, 115, 32, 97, 116, 32, 98, 121, 116, 101, 32, 37, 100, 44, 32, 110, 111, 116, 32, 37, 113]⟩, .slice (some ⟨b, 0, none⟩) 3 3] w (Fails w) := by
  have hF' := answers_open hF
  go_enter Tryf.func10, Tryf.ntmps10
  go_wp2
  go_ret
  exact ⟨_, rfl, ⟨_, _, rfl, by simp, made_cell1 _ _⟩, ((Below.refl _ _).alloc (Nat.le_refl _) _).drew⟩

set_option maxHeartbeats 400000 in
theorem errorf_twice (F : Interp) (s : ByteArray) (b : Nat) (w : World) (hF : F.answers w.tape) (c0 : w.cell? ⟨b, 0, none⟩ = some (.iface 9 (.string s))) :
    Calls Tryf.prog 10 #[.string ⟨#[116, 104, 101, 32, 112, 114, 111, 112, 101, 114, 116, 121, 32, 37, 115, 32, 105, 115, 32, 103, 105, 118, 101, 110, 32, 116, 119, 105, 99, 101]⟩, .slice (some ⟨b, 0, none⟩) 1 1] w (Fails w) := by
  have hF' := answers_open hF
  go_enter Tryf.func10, Tryf.ntmps10
  go_wp2
  go_ret
  exact ⟨_, rfl, ⟨_, _, rfl, by simp, made_cell1 _ _⟩, ((Below.refl _ _).alloc (Nat.le_refl _) _).drew⟩

set_option maxHeartbeats 400000 in
theorem errorf_quoted (F : Interp) (i : Int) (b : Nat) (w : World) (hF : F.answers w.tape) (c0 : w.cell? ⟨b, 0, none⟩ = some (.iface 3 (.int .i64 i))) :
    Calls Tryf.prog 10 #[.string ⟨#[116, 104, 101, 32, 113, 117, 111, 116, 101, 100, 32, 115, 116, 114, 105, 110, 103, 32, 97, 116, 32, 98, 121, 116, 101, 32, 37, 100, 32, 105, 115, 32, 110, 111, 116, 32, 99, 108, 111, 115, 101, 100]⟩, .slice (some ⟨b, 0, none⟩) 1 1] w (Fails w) := by
  have hF' := answers_open hF
  go_enter Tryf.func10, Tryf.ntmps10
  go_wp2
  go_ret
  exact ⟨_, rfl, ⟨_, _, rfl, by simp, made_cell1 _ _⟩, ((Below.refl _ _).alloc (Nat.le_refl _) _).drew⟩

set_option maxHeartbeats 400000 in
theorem errorf_comment (F : Interp) (i : Int) (b : Nat) (w : World) (hF : F.answers w.tape) (c0 : w.cell? ⟨b, 0, none⟩ = some (.iface 3 (.int .i64 i))) :
    Calls Tryf.prog 10 #[.string ⟨#[116, 104, 101, 32, 99, 111, 109, 109, 101, 110, 116, 32, 97, 116, 32, 98, 121, 116, 101, 32, 37, 100, 32, 105, 115, 32, 110, 111, 116, 32, 99, 108, 111, 115, 101, 100]⟩, .slice (some ⟨b, 0, none⟩) 1 1] w (Fails w) := by
  have hF' := answers_open hF
  go_enter Tryf.func10, Tryf.ntmps10
  go_wp2
  go_ret
  exact ⟨_, rfl, ⟨_, _, rfl, by simp, made_cell1 _ _⟩, ((Below.refl _ _).alloc (Nat.le_refl _) _).drew⟩


/-! ### the reader -/
/-- The reader at R: its text, where it stands. -/
structure Rd (w : World) (R : Nat) (s : ByteArray) (i : Nat) : Prop where
  lt : R < w.heap.size
  text : w.cell? ⟨R, 0, none⟩ = some (.string s)
  pos : w.cell? ⟨R, 1, none⟩ = some (.int .i64 (i : Int))
  free : w.frozen? ⟨R, 1, none⟩ = false
theorem next_end (R : Nat) (s : ByteArray) (i : Nat) (w : World) (h : Rd w R s i) (hi : s.size ≤ i) : Calls Tryf.prog 14 #[.pointer (some ⟨R, 0, none⟩)] w fun e w' => e = .returned (.int .u8 0) ∧ ∃ m, w' = w.drewN m := by
  obtain ⟨_, h0, h1, _⟩ := h
  have ht : (s.size : Int) ≤ (i : Int) := by omega
  go_enter Tryf.func14, Tryf.ntmps14
  go_wp2
  go_quiet (fail)
  go_wp2
  go_ret
  exact ⟨rfl, nq, rfl⟩
theorem next_at (R : Nat) (s : ByteArray) (i : Nat) (w : World) (h : Rd w R s i) (hi : i < s.size) : Calls Tryf.prog 14 #[.pointer (some ⟨R, 0, none⟩)] w fun e w' => e = .returned (.int .u8 (s[i].toNat : Int)) ∧ ∃ m, w' = w.drewN m := by
  obtain ⟨_, h0, h1, _⟩ := h
  have ht : decide ((s.size : Int) ≤ (i : Int)) = false := decide_eq_false (by omega)
  have ht2 : (i : Int) < (s.size : Int) := by omega
  go_enter Tryf.func14, Tryf.ntmps14
  go_wp2
  go_quiet (fail)
  go_wp2
  go_quiet (fail)
  go_wp2
  go_ret
  exact ⟨rfl, _, World.drewN_drewN _ _ _⟩
theorem alloc_cell (W : World) (N k : Nat) (c : Array Value) (t : TypeId) (h : N = W.heap.size) : (W.alloc (.cells c t)).cell? ⟨N, k, none⟩ = c[k]? := by
  subst h
  have hg : (W.alloc (.cells c t)).heap[W.heap.size]? = some (.cells c t) := by
    show (W.heap.push _)[W.heap.size]? = _
    rw [Array.getElem?_push_size]
  unfold World.cell?
  rw [hg]
  rfl
theorem drew_below (w : World) (n : Nat) : Below w.heap.size w (w.drewN n) := ⟨rfl, rfl, rfl, Nat.le_refl _, fun _ _ => rfl⟩
set_option maxHeartbeats 400000 in
theorem unexpected_end (F : Interp) (R : Nat) (s want : ByteArray) (i : Nat) (w : World) (hF : F.answers w.tape) (h : Rd w R s i) (hi : s.size ≤ i) : Calls Tryf.prog 16 #[.pointer (some ⟨R, 0, none⟩), .string want] w (Fails w) := by
  obtain ⟨_, h0, h1, _⟩ := h
  have ht : (s.size : Int) ≤ (i : Int) := by omega
  go_enter Tryf.func16, Tryf.ntmps16
  go_wp2
  go_quiet (fail)
  go_wp2_with (go_at_call 10; refine (errorf_end F want _ _ (by exact hF) (alloc_cell _ _ 0 _ _ rfl)).mono ?_; rintro e w1 ⟨v, rfl, hv, hb⟩)
  go_ret
  exact ⟨v, rfl, hv, ((drew_below w nq).alloc (Nat.le_refl _) _).trans (hb.mono (by simp))⟩
end Go.Proofs.Qxb6614847aFmt
