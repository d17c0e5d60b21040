/-
  What result keeps in memory; its plain steps.
-/
import Derived.Test.Qxb6614847aFmtPrs
import Derived.Test.Qxb6614847aFmtPrp
namespace Go.Proofs.Qxb6614847aFmt
open Go.RowKit Go.Extern.Stop Go.Stop Go.Extern Go.Maps

/-- The cells of a result's own block. -/
structure Own34 (w : World) (B : Nat) (x y z : Value) : Prop where
  lt : B < w.heap.size
  c0 : w.cell? ⟨B, 0, none⟩ = some x
  c1 : w.cell? ⟨B, 1, none⟩ = some y
  c2 : w.cell? ⟨B, 2, none⟩ = some z
  f0 : w.frozen? ⟨B, 0, none⟩ = false
  f1 : w.frozen? ⟨B, 1, none⟩ = false
  f2 : w.frozen? ⟨B, 2, none⟩ = false
theorem Own34.block {w w' : World} {B : Nat} {x y z : Value} (h : Own34 w B x y z) (hs : w.heap.size ≤ w'.heap.size) (hb : w'.heap[B]? = w.heap[B]?) : Own34 w' B x y z :=
  ⟨Nat.lt_of_lt_of_le h.lt hs, (World.cell?_of_block (a := ⟨B, 0, none⟩) hb).trans h.c0, (World.cell?_of_block (a := ⟨B, 1, none⟩) hb).trans h.c1, (World.cell?_of_block (a := ⟨B, 2, none⟩) hb).trans h.c2,
   (World.frozen?_of_block (a := ⟨B, 0, none⟩) hb).trans h.f0, (World.frozen?_of_block (a := ⟨B, 1, none⟩) hb).trans h.f1, (World.frozen?_of_block (a := ⟨B, 2, none⟩) hb).trans h.f2⟩
theorem Own34.kept {w w' : World} {B : Nat} {x y z : Value} {row : Option Nat} (h : Own34 w B x y z) (hg : w.grownBy w' row) (hr : some B ≠ row) : Own34 w' B x y z := h.block hg.size (hg.block B h.lt hr)
theorem Own34.kept2 {w w' : World} {B : Nat} {x y z : Value} {R M : Nat} (h : Own34 w B x y z) (hg : Grown2 w w' R M) (hR : B ≠ R) (hM : B ≠ M) : Own34 w' B x y z := h.block hg.size (hg.block B h.lt hR hM)
theorem Own34.made (w : World) (x y z : Value) (t : TypeId) {B : Nat} (hB : B = w.heap.size) : Own34 (w.alloc (.cells #[x, y, z] t)) B x y z :=
  ⟨by rw [World.size_alloc]; omega, alloc_cell _ _ 0 _ _ hB, alloc_cell _ _ 1 _ _ hB, alloc_cell _ _ 2 _ _ hB, frozen_made _ _ _ _ _ hB, frozen_made _ _ _ _ _ hB, frozen_made _ _ _ _ _ hB⟩
theorem Own34.drewN {w : World} {B : Nat} {x y z : Value} (h : Own34 w B x y z) (n : Nat) : Own34 (w.drewN n) B x y z := h.kept (row := none) grown_weak (by simp)
/-- Three cells of one block set. -/
def sets (w : World) (B : Nat) (x y z : Value) : World := ((w.setCell ⟨B, 0, none⟩ x).setCell ⟨B, 1, none⟩ y).setCell ⟨B, 2, none⟩ z
theorem sets_row (w : World) (B : Nat) (x y z : Value) : w.grownBy (sets w B x y z) (some B) := ((grown_set _ ⟨B, 0, none⟩ x).trans (grown_set _ ⟨B, 1, none⟩ y)).trans (grown_set _ ⟨B, 2, none⟩ z)
theorem sets_grown {w w1 : World} {R B : Nat} (h : w.grownBy w1 (some R)) (hB : w.heap.size ≤ B) (x y z : Value) : w.grownBy (sets w1 B x y z) (some R) := h.andThen (sets_row w1 B x y z) (fun j e => by cases e; exact Or.inl hB)
theorem sets_moved {w w1 : World} {R B : Nat} {s : ByteArray} {j : Nat} (h : Moved w w1 R s j) (hR : R ≠ B) (hB : w.heap.size ≤ B) (x y z : Value) : Moved w (sets w1 B x y z) R s j := ⟨h.rd.grown (by simpa using hR) (sets_row _ _ _ _ _), sets_grown h.grown hB x y z⟩
theorem sets_err {w : World} {v : Value} (h : IsErr w v) (B : Nat) (x : ByteArray) (y z : Value) : IsErr (sets w B (.string x) y z) v := by
  obtain ⟨b, t, rfl, hb, hc⟩ := h
  by_cases e : b = B
  · subst e
    refine ⟨b, x, rfl, by unfold sets; rw [World.size_setCell, World.size_setCell, World.size_setCell]; exact hb, ?_⟩
    unfold sets
    rw [World.cell?_setCell_other _ _ _ _ (by simp), World.cell?_setCell_other _ _ _ _ (by simp)]
    exact World.cell?_setCell_same _ _ _ hc
  · exact ⟨b, t, rfl, Nat.lt_of_lt_of_le hb (sets_row _ _ _ _ _).size, (sets_row _ _ _ _ _).cell hc (by simpa using e)⟩
theorem err_grown {w w' : World} {v : Value} (h : IsErr w v) (hg : w.grownBy w' none) : IsErr w' v := by
  obtain ⟨b, t, rfl, hb, hc⟩ := h
  exact ⟨b, t, rfl, Nat.lt_of_lt_of_le hb hg.size, hg.cell hc (by simp)⟩
/-! ### the plain steps -/
def stepZ (Fu : Nat) (k1 : List UInt8) (l4 : List UInt8) : Option (Option Res × List UInt8) :=
  if kw l4 = [] then none else (props Fu [] (l4.dropWhile kwB)).map fun x => (some (k1, kw l4, x.1), x.2)
def stepY (Fu : Nat) (k1 : List UInt8) (l3 : List UInt8) : Option (Option Res × List UInt8) := (eqL l3).bind (stepZ Fu k1)
def stepX (Fu : Nat) (k1 : List UInt8) (l1 : List UInt8) : Option (Option Res × List UInt8) :=
  if k1 = [110, 111, 110, 101] ∧ stopL l1 = true then some (none, l1) else (version l1).bind (stepY Fu k1)
theorem result_none (Fu : Nat) {l : List UInt8} (h : kw l = []) : result Fu l = none := by unfold result; rw [if_pos h]
theorem result_some (Fu : Nat) {l : List UInt8} (h : ¬ kw l = []) : result Fu l = (space (l.dropWhile kwB)).bind (stepX Fu (kw l)) := by unfold result; rw [if_neg h]; rfl
theorem version_slash {s : ByteArray} {j : Nat} (h : (rest s j).head? = some 47) : version (rest s j) = (space (rest s (j + 1))).bind fun l2 => if l2.takeWhile digB = [] then none else space (l2.dropWhile digB) := by
  obtain ⟨hlt, _⟩ := head_at h
  unfold version
  rw [if_pos h, rest_cons s j hlt]
  rfl
theorem version_no {s : ByteArray} {j : Nat} (h : ¬ (rest s j).head? = some 47) : version (rest s j) = some (rest s j) := by unfold version; rw [if_neg h]
theorem props_step (n : Nat) (ps : Props) (l : List UInt8) : props (n + 1) ps l = (space l).bind fun l1 => if stopL l1 = true then some (ps, l1) else (prop ps l1).bind fun x => props n x.1 x.2 := rfl
theorem drop_lt {l : List UInt8} (h : ¬ kw l = []) : (l.dropWhile kwB).length < l.length := by
  have h1 := congrArg List.length (List.takeWhile_append_dropWhile (p := kwB) (l := l))
  rw [List.length_append] at h1
  have h2 : (l.takeWhile kwB).length ≠ 0 := fun e => h (by unfold kw; rw [List.eq_nil_of_length_eq_zero e]; rfl)
  omega
theorem prop_lt {ps : Props} {l : List UInt8} {x : Props × List UInt8} (h : prop ps l = some x) : x.2.length < l.length := by
  by_cases hk : kw l = []
  · rw [prop_none ps hk] at h; cases h
  rw [prop_some ps hk] at h
  obtain ⟨l1, h1, h⟩ := bind_some h
  have e1 := space_len h1
  have e2 := drop_lt hk
  unfold stepB at h
  by_cases hd : l1.head? = some 46
  · rw [if_pos hd] at h
    obtain ⟨l2, h2, h⟩ := bind_some h
    have e3 := space_len h2
    have e4 := tail_len l1
    unfold stepC at h
    by_cases hk2 : kw l2 = []
    · rw [if_pos hk2] at h; cases h
    rw [if_neg hk2] at h
    obtain ⟨l3, h3, h⟩ := bind_some h
    have e5 := space_len h3
    have e6 := drop_len kwB l2
    unfold stepD at h
    obtain ⟨l4, h4, h⟩ := bind_some h
    obtain ⟨y, h5, h⟩ := bind_some h
    have e7 := eq_len h4
    have e8 := pval_len h5
    split at h
    · cases h
    · rw [← Option.some.inj h]; simp only; omega
  · rw [if_neg hd] at h
    unfold stepU at h
    obtain ⟨l4, h4, h⟩ := bind_some h
    obtain ⟨y, h5, h⟩ := bind_some h
    have e7 := eq_len h4
    have e8 := pval_len h5
    rw [← Option.some.inj h]; simp only; omega
theorem grown_two {w w1 w2 : World} {R M : Nat} (h : w.grownBy w1 (some R)) (h2 : Grown2 w1 w2 R M) (hM : w.heap.size ≤ M) : w.grownBy w2 (some R) :=
  ⟨h2.os.trans h.os, h2.tape.trans h.tape, h2.output.trans h.output, Nat.le_trans h.size h2.size, fun k hk hne => (h2.block k (Nat.lt_of_lt_of_le hk h.size) (by simpa using hne) (by omega)).trans (h.block k hk hne)⟩
theorem prop_more1 {ps : Props} {l : List UInt8} {x : Props × List UInt8} (h : prop ps l = some x) : x.1.length ≤ ps.length + 1 := by
  by_cases hk : kw l = []
  · rw [prop_none ps hk] at h; cases h
  rw [prop_some ps hk] at h
  obtain ⟨l1, _, h⟩ := bind_some h
  unfold stepB at h
  by_cases hd : l1.head? = some 46
  · rw [if_pos hd] at h
    obtain ⟨l2, _, h⟩ := bind_some h
    unfold stepC at h
    by_cases hk2 : kw l2 = []
    · rw [if_pos hk2] at h; cases h
    rw [if_neg hk2] at h
    obtain ⟨l3, _, h⟩ := bind_some h
    unfold stepD at h
    obtain ⟨l4, _, h⟩ := bind_some h
    obtain ⟨y, _, h⟩ := bind_some h
    split at h
    · cases h
    · rw [← Option.some.inj h]; simp
  · rw [if_neg hd] at h
    unfold stepU at h
    obtain ⟨l4, _, h⟩ := bind_some h
    obtain ⟨y, _, h⟩ := bind_some h
    rw [← Option.some.inj h]; simp
theorem res_ret {tmps : Array Value} {W : World} {B : Nat} {x y z u v : Value} (h2 : (tmps[2]?).getD undef = .pointer (some ⟨B, 0, none⟩)) (h3 : (tmps[3]?).getD undef = u) (h4 : (tmps[4]?).getD undef = v) (c0 : W.cell? ⟨B, 0, none⟩ = some x) (c1 : W.cell? ⟨B, 1, none⟩ = some y) (c2 : W.cell? ⟨B, 2, none⟩ = some z) :
    (Go.results Tryf.f21 tmps).run Tryf.prog W = .ok (.tuple #[.agg #[x, y, z], u, v]) W := by
  simp [Go.results, Tryf.results21, go_sem, h2, h3, h4, c0, c1, c2]
theorem sets_c0 {w : World} {B : Nat} {a b c : Value} (h : Own34 w B a b c) (x y z : Value) : (sets w B x y z).cell? ⟨B, 0, none⟩ = some x := by
  unfold sets
  rw [World.cell?_setCell_other _ _ _ _ (by simp), World.cell?_setCell_other _ _ _ _ (by simp)]
  exact World.cell?_setCell_same _ _ _ h.c0
theorem sets_c1 {w : World} {B : Nat} {a b c : Value} (h : Own34 w B a b c) (x y z : Value) : (sets w B x y z).cell? ⟨B, 1, none⟩ = some y := by
  unfold sets
  rw [World.cell?_setCell_other _ _ _ _ (by simp)]
  refine World.cell?_setCell_same (u := b) _ _ _ ?_
  rw [World.cell?_setCell_other _ _ _ _ (by simp)]
  exact h.c1
theorem sets_c2 {w : World} {B : Nat} {a b c : Value} (h : Own34 w B a b c) (x y z : Value) : (sets w B x y z).cell? ⟨B, 2, none⟩ = some z := by
  unfold sets
  refine World.cell?_setCell_same (u := c) _ _ _ ?_
  rw [World.cell?_setCell_other _ _ _ _ (by simp), World.cell?_setCell_other _ _ _ _ (by simp)]
  exact h.c2
end Go.Proofs.Qxb6614847aFmt
