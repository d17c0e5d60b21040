/-
  What both rows' proofs share: a slice of bytes that came in, opened.
-/
import Derived.Test.Qxb6612424aDoorTail
import Derived.Test.Qxb6612424aDoorRows
import Derived.ProofKit
import Derived.OpenShut
import Derived.ChangeOld
namespace Go.Proofs.Qxb6612424aDoor
open Go.ChangeShapes Go.WideShapes Go.ChangeAt Go.RowKit
open Go.Lib hiding intOf

theorem Tryd.own : ownKnob Tryd.prog.godebug = none := by kernel_rfl
theorem Tryd.laidOut : laidOutB Tryd.prog = true := by kernel_rfl

def tables : List (String × DataW Unit) := Rows.fnTailIsSuffixAfterFifthLastNewlineRow.laid

/-- A slice of bytes that came in: nil, or bytes. -/
def Came (w : World) (a : Option Addr) (len : Nat) (s : ByteArray) : Prop :=
  len = s.size ∧ len ≤ maxLen ∧ ((a = none ∧ len = 0) ∨ ∃ x, a = some x ∧ (s.size = 0 ∨ ∃ b o, x = ⟨b, o, none⟩ ∧ b < w.heap.size ∧ Bytes w b o s))

theorem came_of {H : Type} {enc : TypeId × Value → H} {W : World} {a : Option Addr} {len cap : Nat} {d : DataW H} {p : List MemPlace}
    (h0 : DataW.Trod enc Tryd.prog W 0 (fun _ => true) true 22 (.slice a len cap) d p) : ∃ s, Came W a len s := by
  obtain ⟨fuel, hf⟩ := h0
  rcases open_ints Tryd.underlying22 Tryd.underlying5 (by kernel_rfl) hf with ⟨hcs, _⟩ | ⟨x, l, c, zs, hcs, _, hl, hm, hz, _, hcell, hwz⟩
  · simp [Value.cells] at hcs
    obtain ⟨rfl, rfl, rfl⟩ := hcs
    exact ⟨ByteArray.empty, rfl, by decide, .inl ⟨rfl, rfl⟩⟩
  · simp [Value.cells] at hcs
    obtain ⟨rfl, rfl, rfl⟩ := hcs
    have hzl : zs.length = cap := by simpa using hz
    have hlen : (zs.take len).length = len := by simp; omega
    refine ⟨strOfNums (zs.take len), by rw [strOfNums_size, hlen], by omega, .inr ⟨x, rfl, ?_⟩⟩
    by_cases h0 : len = 0
    · left; rw [strOfNums_size, hlen, h0]
    · right
      obtain ⟨b, off, spot⟩ := x
      have hc := hcell 0 (by omega)
      have hspot : spot = none := by simpa [Addr.add] using World.cell?_spot hc
      subst hspot
      have hb : b < W.heap.size := by
        rcases Nat.lt_or_ge b W.heap.size with h | h
        · exact h
        · simp [World.cell?, Addr.add, Array.getElem?_eq_none h] at hc
      refine ⟨b, off, rfl, hb, bytes_of_nums hlen (fun y hy => ?_) (fun i hi => ?_)⟩
      · have := hwz y (List.mem_of_mem_take hy)
        simp [Lit.wf, IntKind.min, IntKind.max, IntKind.signed, IntKind.bits] at this
        omega
      · have h := hcell i (by omega)
        have e : (⟨b, off, none⟩ : Addr).add i = ⟨b, off + i, none⟩ := by unfold Addr.add; split <;> simp_all
        rw [e] at h
        rw [h]
        simp [List.getD, List.getElem?_take_of_lt hi]

end Go.Proofs.Qxb6612424aDoor
