/-
  The start that is shown to be there: the listed tables and sentinels laid into their variables. What the row's proof reads off them.
-/
import Derived.Test.Qxb6613685aGreatFmtLaw
import Derived.Test.Qxb6613685aGreatFmtRows
import Derived.ProofKit
import Derived.OpenShut
import Derived.ChangeOld
import Derived.PinnedBridge
import Derived.Lay
import Derived.Lib.LaidTab
import Derived.Stop.LaidErr
import Derived.Stop.JoinedTold
import Derived.MakeChecks
namespace Go.Proofs.Qxb6613685aGreatFmt
open Go.ChangeShapes Go.WideShapes Go.ChangeAt Go.RowKit Go.Extern.Stop Go.Stop Go.Extern
open Go.Lib hiding intOf

theorem own : ownKnob Tryz.prog.godebug = none := by kernel_rfl
theorem laidOut : laidOutB Tryz.pinned.checked.prog = true := by kernel_rfl
theorem stops : Tryz.pinned.checked.prog.stops = Rows.fnEdnAtomRoundTripRow.stops := by kernel_rfl
theorem stopKnobs : Tryz.pinned.checked.prog.stopKnobs = [] := by kernel_rfl
theorem quiet (os : Os) : Stop.quiet Tryz.pinned.checked.prog os := by
  intro k hk
  rw [stopKnobs] at hk
  cases hk

def tables : List (String × DataW Unit) := Rows.fnEdnAtomRoundTripRow.laid

theorem tables_met (os : Os) (args : Array Value) : laidMetH Tryz.prog tables ((World.laidAll Tryz.prog os tables).forCall (fun _ _ => 0) ⟨#[], args, []⟩).memory := by
  rw [MakeChecks.laidMetH_plain _ _ _ (by kernel_rfl)]
  exact laidMet_laidAll _ (by kernel_rfl) (by kernel_rfl)

theorem global0_type : (Tryz.prog.globals[0]?).map (·.type) = some 25 := by kernel_rfl
theorem global2_type : (Tryz.prog.globals[2]?).map (·.type) = some 128 := by kernel_rfl
theorem cells89 : Tryz.prog.cellsOf 89 = 1 := by kernel_rfl
theorem cells9 : Tryz.prog.cellsOf 9 = 1 := by kernel_rfl
/-- What the walk reads off the listed variables. -/
theorem laid_reads {W : World} (hL0 : laidMetH Tryz.prog tables W) : (∃ x, W.var? Tryz.prog "strconv.ErrRange" = some #[.iface 87 (.pointer (some x))]) ∧ TabIs Tryz.prog W powName .u64 pow10Tab := by
  have hL := hL0
  rw [MakeChecks.laidMetH_plain _ _ _ (by kernel_rfl)] at hL
  refine ⟨?_, ?_⟩
  · obtain ⟨a, s, hv, _⟩ := laid_sentinel hL.tail.tail.tail.tail global0 global0_type Tryz.underlying25 (fun u h => typeName_ptr_named (nm := "errors.errorString") (by kernel_rfl) (by kernel_rfl) (by decide) u (h.trans (by decide))) Tryz.underlying87 Tryz.underlying89 rfl rfl Tryz.underlying9 cells89 cells9
    exact ⟨a, hv⟩
  · exact tab_from (by kernel_rfl) (tabIs_of_head (zs := pow10Tab) (by kernel_rfl) global2_type Tryz.underlying128 Tryz.underlying94 (by kernel_rfl) (by kernel_rfl) hL.tail.tail)

/-- A slice of bytes that came in: nil, or bytes. -/
def CameIn (w : World) (a : Option Addr) (len : Nat) (s : ByteArray) : Prop :=
  len = s.size ∧ (s.size = 0 ∨ ∃ b o, a = some ⟨b, o, none⟩ ∧ b < w.heap.size ∧ Bytes w b o s)
theorem came_of {H : Type} {enc : TypeId × Value → H} {W : World} {a : Option Addr} {len cap : Nat} {d : DataW H} {p : List MemPlace}
    (h0 : DataW.Trod enc Tryz.prog W 0 (fun _ => true) true 22 (.slice a len cap) d p) : ∃ s, CameIn W a len s := by
  obtain ⟨fuel, hf⟩ := h0
  rcases open_ints Tryz.underlying22 Tryz.underlying5 (by kernel_rfl) hf with ⟨hcs, _⟩ | ⟨x, l, c, zs, hcs, _, hl, hm, hz, _, hcell, hwz⟩
  · simp [Value.cells] at hcs
    obtain ⟨rfl, rfl, rfl⟩ := hcs
    exact ⟨ByteArray.empty, rfl, .inl rfl⟩
  · simp [Value.cells] at hcs
    obtain ⟨rfl, rfl, rfl⟩ := hcs
    have hzl : zs.length = cap := by simpa using hz
    have hlen : (zs.take len).length = len := by simp; omega
    refine ⟨strOfNums (zs.take len), by rw [strOfNums_size, hlen], ?_⟩
    by_cases h0 : len = 0
    · left; rw [strOfNums_size, hlen, h0]
    · right
      obtain ⟨b, off, spot⟩ := x
      have hc := hcell 0 (by omega)
      have hspot : spot = none := by simpa [Addr.add] using World.cell?_spot hc
      subst hspot
      have hb : b < W.heap.size := by
        rcases Nat.lt_or_ge b W.heap.size with h | h
        · exact h
        · simp [World.cell?, Addr.add, Array.getElem?_eq_none h] at hc
      refine ⟨b, off, rfl, hb, bytes_of_nums hlen (fun y hy => ?_) (fun i hi => ?_)⟩
      · have := hwz y (List.mem_of_mem_take hy)
        simp [Lit.wf, IntKind.min, IntKind.max, IntKind.signed, IntKind.bits] at this
        omega
      · have h := hcell i (by omega)
        have e : (⟨b, off, none⟩ : Addr).add i = ⟨b, off + i, none⟩ := by unfold Addr.add; split <;> simp_all
        rw [e] at h
        rw [h]
        simp [List.getD, List.getElem?_take_of_lt hi]
/-- The law, at whatever came in. -/
theorem law_all (a : Option Addr) (len cap : Nat) (line : Int) (s : ByteArray) (w : World) (h : CameIn w a len s) (hL : laidMetH Tryz.prog tables w) :
    Calls Tryz.prog 4 #[.slice a len cap, .int .i64 line] w fun e w' => e = .returned (.bool true) ∧ Below w.heap.size w w' := by
  obtain ⟨rfl, h⟩ := h
  obtain ⟨⟨x, hv⟩, ht⟩ := laid_reads hL
  by_cases hbig : 65536 < s.size
  · exact law_long a _ cap line w hbig
  rcases Nat.eq_zero_or_pos s.size with h0 | h0
  · rw [h0]; exact law_empty a cap line w
  rcases h with h | ⟨b, o, rfl, hb, hc⟩
  · omega
  have hp2 : 2 < w.heap.size := by
    rcases Nat.lt_or_ge 2 w.heap.size with h | h
    · exact h
    · have ht' := ht
      unfold TabIs World.var? at ht'
      rw [global2] at ht'
      simp [Array.getElem?_eq_none h] at ht'
  exact law_any b o cap line s x w hb hc (by omega) h0 hv hp2 ht
set_option maxRecDepth 100000 in
/-- Some start fits. -/
theorem witness_at {os : Os} {f : FuncId} {fn : Func} {H : Type} {enc : TypeId × Value → H} {s : OpenSpec} {T : List (String × DataW Unit)} (w0 : World) (args : Array Value) (hos : w0.os = os)
    (hsh : (w0.forCall (fun _ _ => 0) ⟨#[], args, []⟩).Shaped Tryz.checked.prog)
    (hok : Input.okWideB Tryz.checked.prog (w0.forCall (fun _ _ => 0) ⟨#[], args, []⟩) f ⟨#[], args, []⟩ = true)
    (hrow : s.preRow enc Tryz.checked.prog fn [] false T (w0.forCall (fun _ _ => 0) ⟨#[], args, []⟩).memory args) (F : Interp) :
    ∃ (w : World) (tape : Tape) (i : Input), w.os = os ∧ (w.forCall tape i).Shaped Tryz.checked.prog ∧ i.vars = [] ∧ Input.okWide Tryz.checked.prog (w.forCall tape i) .any w.heap.size f i ∧
      s.preRow enc Tryz.checked.prog fn [] false T (w.forCall tape i).memory i.args ∧ ({} : Assume).holds Tryz.checked.prog (lone (Frame.enter Tryz.checked.prog f i.args .normal) [] (w.forCall tape i)) ∧ F.answers tape :=
  ⟨w0, F.over fun _ _ => 0, ⟨#[], args, []⟩, hos, hsh, (Input.okWide_of_okWideB (base := 0) hok).1, (Input.okWide_of_okWideB hok).2, hrow, by
    simp only [Assume.holds]
    exact ⟨by simp, by simp, by simp, by simp, by simp⟩, F.over_answers _⟩
end Go.Proofs.Qxb6613685aGreatFmt
