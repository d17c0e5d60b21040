/-
  The builder beside the reader; what quotedString ends in.
-/
import Derived.Test.Qxb6614847aFmtKw
import Derived.Deep.RegionHeld3
namespace Go.Proofs.Qxb6614847aFmt
open Go.RowKit Go.Extern.Stop Go.Stop Go.Extern Go.Sort

theorem builderAt_kept {T e : TypeId} {B b : Nat} {p : Value} {bs : List Value} {w w' : World} (h : Lib.BuilderAt T e B b p bs w) {row : Option Nat} (hg : w.grownBy w' row) (hr : ∀ k, row = some k → k < B) : Lib.BuilderAt T e B b p bs w' := by
  have hlt := h.lt
  obtain ⟨hB, v, hb, hown, hne⟩ := h
  have hno : v.ownBlock = none ∨ v.ownBlock ≠ row := by
    rcases hown.2 with ⟨rfl, _⟩ | ⟨g, cap, cur, rfl, hBg, _⟩
    · exact Or.inl rfl
    · right
      intro e
      have := hr g e.symm
      omega
  refine ⟨hB, v, ?_, hown.kept hg hno, hne⟩
  rw [hg.block b hlt (fun e => by have := hr b e.symm; omega)]
  exact hb
theorem builder_kept {T e : TypeId} {B b : Nat} {bs : List Value} {w w' : World} (h : Lib.IsBuilder T e B b bs w) {row : Option Nat} (hg : w.grownBy w' row) (hr : ∀ k, row = some k → k < B) : Lib.IsBuilder T e B b bs w' :=
  h.elim (fun h => Or.inl (builderAt_kept h hg hr)) (fun h => Or.inr (builderAt_kept h hg hr))
theorem writeByte_is (B b : Nat) (acc : List UInt8) (c : UInt8) (w : World) (h : Lib.IsBuilder 57 5 B b (Lib.byteCells acc) w) (hl : acc.length ≤ 4194304) (hB : B ≤ w.heap.size) :
    Calls Tryf.prog 23 #[.pointer (some ⟨b, 0, none⟩), .int .u8 (c.toNat : Int)] w fun e w' => e = .returned .nilIface ∧ Lib.IsBuilder 57 5 B b (Lib.byteCells (acc ++ [c])) w' ∧ Below B w w' := by
  refine (Any.Builder_WriteByte Tryf.lays167 Tryf.Builder_Extra_167 B b (Lib.byteCells acc) (c.toNat : Int) w h (by rw [Lib.byteCells_length]; omega) hB).mono ?_
  rintro e w' ⟨rfl, h1, h2⟩
  refine ⟨rfl, Or.inr ?_, h2⟩
  have e1 : Lib.byteCells (acc ++ [c]) = Lib.byteCells acc ++ [.int .u8 (c.toNat : Int)] := by unfold Lib.byteCells; rw [List.map_append]; rfl
  rw [e1]
  exact h1
theorem builderString_is (B b : Nat) (acc : List UInt8) (w : World) (h : Lib.IsBuilder 57 5 B b (Lib.byteCells acc) w) (hB : B ≤ w.heap.size) :
    Calls Tryf.prog 24 #[.pointer (some ⟨b, 0, none⟩)] w fun e w' => e = .returned (.string ⟨acc.toArray⟩) ∧ Below B w w' :=
  Any.Builder_String_any Tryf.lays169 Tryf.Builder_Extra_169 B b acc w h hB
theorem grown_set (W : World) (a : Addr) (v : Value) : W.grownBy (W.setCell a v) (some a.block) :=
  ⟨rfl, rfl, rfl, by rw [World.size_setCell]; exact Nat.le_refl _, fun k _ hk => Below.heap_setCell _ _ _ _ (fun e => hk (by rw [e]))⟩
theorem start_builder (w : World) (a : Addr) (v : Value) : Lib.IsBuilder 57 5 w.heap.size w.heap.size (Lib.byteCells []) ((w.setCell a v).alloc (.cells #[.pointer none, .slice none 0 0] 57)) := by
  have := Lib.fresh_isBuilder 57 5 (w.setCell a v)
  rw [World.size_setCell] at this
  exact this
theorem start_moved {w : World} {R : Nat} {s : ByteArray} {i : Nat} (h : Rd w R s i) (o : Obj) : Moved w ((w.setCell ⟨R, 1, none⟩ (.int .i64 ((i + 1 : Nat) : Int))).alloc o) R s (i + 1) :=
  ((Moved.refl h).step (i + 1)).below h.lt (Nat.le_refl _) ((Below.refl _ _).alloc (by rw [World.size_setCell]; exact Nat.le_refl _) o)
theorem builder_drewN {T e : TypeId} {B b : Nat} {bs : List Value} {w : World} (h : Lib.IsBuilder T e B b bs w) (n : Nat) : Lib.IsBuilder T e B b bs (w.drewN n) :=
  builder_kept h (row := none) ⟨rfl, rfl, rfl, Nat.le_refl _, fun _ _ _ => rfl⟩ (fun _ e => nomatch e)
theorem builder_step {T e : TypeId} {B b : Nat} {bs : List Value} {w : World} (h : Lib.IsBuilder T e B b bs w) {R : Nat} (hR : R < B) (v : Value) : Lib.IsBuilder T e B b bs (w.setCell ⟨R, 1, none⟩ v) :=
  builder_kept h (grown_set _ ⟨R, 1, none⟩ v) (fun k e => by cases e; exact hR)
end Go.Proofs.Qxb6614847aFmt
