/-
  The walk of FnTailIsSuffixAfterFifthLastNewline.
-/
import Derived.Test.Qxb6612424aDoorTail
namespace Go.Proofs.Qxb6612424aDoor
open Go.RowKit
open Go.Lib hiding intOf

theorem bytes_below {w w' : World} {b o : Nat} {s : ByteArray} (h : Bytes w b o s) (hb : Below w.heap.size w w') (hlt : b < w.heap.size) : Bytes w' b o s := fun i hi => by
  rw [hb.cell (p := ⟨b, o + i, none⟩) hlt]
  exact h i hi
theorem cell_held (w : World) (v : Value) : (w.alloc (.cells #[v] 33)).cell? ⟨w.heap.size, 0, none⟩ = some v := by go_simp

/-- More than the law looks at. -/
theorem law1_out (a : Option Addr) (n c : Nat) (w : World) (h : 131072 < n) (hn : n ≤ maxLen) :
    Calls Tryd.prog 3 #[.slice a n c] w fun e w' => e = .returned (.bool true) ∧ Below w.heap.size w w' := by
  unfold maxLen at hn
  by_cases h1 : 1048576 < n
  · go_enter Tryd.func3, Tryd.ntmps3
    go_wp2_with (go_at_call 5; refine (bytes5_out _ _ _ _ h1).mono ?_; rintro e w' ⟨rfl, rfl⟩)
    go_ret
    exact ⟨rfl, Below.refl _ _⟩
  · have h2 : (n : Int) ≤ 1048576 := by omega
    have h3 : (131072 : Int) < (n : Int) := by omega
    go_enter Tryd.func3, Tryd.ntmps3
    go_wp2_with (go_at_call 5; refine (bytes5_in _ _ _ _ (by omega)).mono ?_; rintro e w' ⟨rfl, rfl⟩)
    go_ret
    exact ⟨rfl, Below.refl _ _⟩

set_option maxHeartbeats 400000 in
theorem law1_nil (c : Nat) (w : World) :
    Calls Tryd.prog 3 #[.slice none 0 c] w fun e w' => e = .returned (.bool true) ∧ Below w.heap.size w w' := by
  have hnil := run_convert_bytes_nil (P := Tryd.prog) (w.alloc (.cells #[.slice none 0 0] 33)) 22 5 Tryd.underlying22 Tryd.underlying5 0 0 9 Tryd.underlying9
  have Ht := hideP (zztail_walk ByteArray.empty (.slice none 0 0) w.heap.size (w.alloc (.cells #[.slice none 0 0] 33)) (by decide) (cell_held _ _) hnil)
  clear hnil
  have e0 : Hid (tailB ByteArray.empty = ⟨#[]⟩) := rfl
  go_enter Tryd.func3, Tryd.ntmps3
  go_wp2_with (first
    | (go_at_call 5; refine (bytes5_in _ _ _ _ (by omega)).mono ?_; rintro e w' ⟨rfl, hw⟩; have hw2 := hw.symm; subst hw2)
    | (go_at_call 6; refine (clone_nil _ _ _).mono ?_; rintro e w' ⟨rfl, hw⟩; have hw2 := hw.symm; subst hw2)
    | (go_at_call 7; refine (newTail_any _ ⟨_, _, _, rfl⟩ _).mono ?_; rintro e w' ⟨rfl, rfl⟩)
    | (go_at_call 8; refine Ht.out.mono ?_; rintro e w1 ⟨rfl, hb⟩; rw [e0.out])
    | (go_at_call 9; refine (after_nil _ _).mono ?_; rintro e w' ⟨rfl, hw⟩; have hw2 := hw.symm; subst hw2))
  go_ret
  exact ⟨rfl, ((Below.refl _ _).alloc (Nat.le_refl _) _).trans (hb.mono (by simp))⟩

set_option maxHeartbeats 400000 in
theorem law1_some (s : ByteArray) (a : Addr) (cap : Nat) (w : World) (hs : s.size ≤ 131072) (h : s.size = 0 ∨ ∃ b o, a = ⟨b, o, none⟩ ∧ b < w.heap.size ∧ Bytes w b o s) :
    Calls Tryd.prog 3 #[.slice (some a) s.size cap] w fun e w' => e = .returned (.bool true) ∧ Below w.heap.size w w' := by
  have h2 : (s.size : Int) ≤ 131072 := by omega
  have hw1 : Bytes ((w.alloc (row s)).alloc (.cells #[.slice (some ⟨w.heap.size, 0, none⟩) s.size s.size] 33)) w.heap.size 0 s := fun i h => by
    rw [((Below.refl _ (w.alloc (row s))).alloc (Nat.le_refl _) _).cell (p := ⟨w.heap.size, 0 + i, none⟩) (by simp)]
    exact row_bytes s w i h
  have hcv := run_convert_whole (P := Tryd.prog) _ 22 5 9 Tryd.underlying22 Tryd.underlying5 Tryd.underlying9 _ 0 s hw1 s.size
  have hsz : (w.alloc (row s)).heap.size = w.heap.size + 1 := by simp
  have Ht := hideP (zztail_walk s (.slice (some ⟨w.heap.size, 0, none⟩) s.size s.size) (w.heap.size + 1) _ hs (by rw [← hsz]; exact cell_held _ _) hcv)
  have Hc := hideP (clone_any s a cap w hs h)
  have Hw := hideP hw1
  clear hcv hw1 h hsz
  go_enter Tryd.func3, Tryd.ntmps3
  go_wp2_with (first
    | (go_at_call 5; refine (bytes5_in _ _ _ _ (by omega)).mono ?_; rintro e w' ⟨rfl, hw⟩; have hw2 := hw.symm; subst hw2)
    | (go_at_call 6; refine Hc.out.mono ?_; rintro e w' ⟨rfl, rfl⟩)
    | (go_at_call 7; refine (newTail_any _ ⟨_, _, _, rfl⟩ _).mono ?_; rintro e w' ⟨rfl, rfl⟩)
    | (go_at_call 8; refine Ht.out.mono ?_; rintro e w1 ⟨rfl, hb1⟩; have Hw1 := hideP (bytes_below Hw.out hb1 (by simp only [World.size_alloc]; omega)))
    | (go_at_call 9; refine (after_some s _ _ _ _ hs (Nat.le_refl _) Hw1.out).mono ?_; rintro e w' ⟨rfl, hw⟩; have hw2 := hw.symm; subst hw2))
  go_ret
  exact ⟨rfl, (((Below.refl _ _).alloc (Nat.le_refl _) _).alloc (by simp) _).trans (hb1.mono (by simp; omega))⟩
end Go.Proofs.Qxb6612424aDoor
