/-
  The walk of keyword at a fresh map.
-/
import Derived.Test.Qxb6613685aGreatFmtSmall
import Derived.BigQuiet
import Derived.Deep.QuietTactic
import Derived.Maps.Own
import Derived.Maps.OwnSet
import Derived.WalkKit
namespace Go.Proofs.Qxb6613685aGreatFmt
open Go.RowKit Go.Maps
open Go.Lib hiding intOf

theorem keyLaw : Keyed Tryz.prog 9 := string_keyed Tryz.underlying9
theorem zero9 (w : World) : (zeroValue 9).run Tryz.prog w = .ok (.string ⟨#[]⟩) w := by kernel_rfl
theorem look_empty (M : Nat) (k : ByteArray) (w : World) (hs : k.size ≤ maxLen) (hM : w.heap[M]? = some (.map #[] 0)) : (Instr.lookup 33 (.map (some M)) (.string k) true).run Tryz.prog w = .ok (.tuple #[.string ⟨#[]⟩, .bool false]) w := by
  rcases fit_look (H := Unit) (R := plainElem Tryz.prog 9) true keyLaw Tryz.underlying33 (zero9 w) hM ⟨by simp, MapKept.stamped_empty 0, by simp⟩ (WideMaps.keyOf_string_mk Tryz.underlying9 hs) with ⟨h, _⟩ | ⟨e0, _, h, _⟩
  · exact h
  · simp at h
theorem quiet_conv {P : Program} {ops : Array Oper} {rest : List Oper} {C : World → Prop} {Q : Act → Prop} {a : Act} {o : Oper} (v : Value) (hg : o.guard = none) (x : Operand) (t1 t2 : TypeId) (hop : o.op = Op.convert t1 t2 x)
    (hrun : ∀ w, C w → (convert t1 t2 (a.eval x)).run P w = .ok v w) (h : wpQuiet P ops C Q rest (a.put o.dst v)) : wpQuiet P ops C Q (o :: rest) a := by
  unfold wpQuiet
  rw [if_pos (by simp [Region.wanted, hg])]
  refine ⟨v, fun w hw => ?_, h⟩
  unfold Oper.quietAt
  simp [execOp, hop, hrun w hw, Oper.quietUpon, Result.andThen]
theorem owns_empty {M : Nat} {w : World} (hM : w.heap[M]? = some (.map #[] 0)) : w.ownsMap (H := Unit) Tryz.prog 9 (plainElem Tryz.prog 9) M 0 (.map []) :=
  ⟨#[], 0, hM, ⟨by simp, MapKept.stamped_empty 0, by simp⟩, Nat.le_refl _, rfl⟩
/-- keyword: the name, as a string; the map alone has turned. -/
theorem keyword_any (B M b o cap : Nat) (s : ByteArray) (w : World) (hs : s.size ≤ 131072) (hM : w.heap[M]? = some (.map #[] 0)) (hk : w.cell? ⟨B, 11, none⟩ = some (.map (some M))) (hc : Bytes w b o s) :
    Calls Tryz.prog 14 #[.pointer (some ⟨B, 0, none⟩), .slice (some ⟨b, o, none⟩) s.size cap] w fun e w' => e = .returned (.string s) ∧ w.grownBy w' (some M) := by
  have hmax : s.size ≤ maxLen := Nat.le_trans hs (by decide)
  have hcv : ∀ n, (convert 22 9 (.slice (some ⟨b, o, none⟩) s.size cap)).run Tryz.prog (w.drewN n) = .ok (.string s) (w.drewN n) := fun n =>
    run_convert_whole (P := Tryz.prog) (w.drewN n) 22 5 9 Tryz.underlying22 Tryz.underlying5 Tryz.underlying9 b o s hc cap
  have hlk : ∀ n, (Instr.lookup 33 (.map (some M)) (.string s) true).run Tryz.prog (w.drewN n) = .ok (.tuple #[.string ⟨#[]⟩, .bool false]) (w.drewN n) := fun n => look_empty M s _ hmax hM
  have HM : Hid (w.heap[M]? = some (.map #[] 0)) := hideP hM
  clear hM hc
  go_enter Tryz.func14, Tryz.ntmps14
  go_wp2
  refine wp_region_quiet_lit (by kernel_rfl) (by kernel_rfl) ?_
  iterate 5 (quiet_step (fail))
  refine quiet_conv (.string s) rfl _ 22 9 rfl ?_ ?_
  · rintro w' ⟨n, hn⟩
    rw [hn]
    exact hcv n
  repeat (quiet_step (fail))
  refine wpQuiet_nil ?_
  intro _ hw'
  obtain ⟨nq, hw2⟩ := hw'
  rw [hw2]
  clear hw2
  have hcv1 := hcv nq
  clear hcv hlk
  have hown : (w.drewN nq).ownsMap (H := Unit) Tryz.prog 9 (plainElem Tryz.prog 9) M 0 (.map []) := owns_empty HM.out
  have hlen : ∀ ty, (Builtin.len_ #[33] ty #[.map (some M)]).run Tryz.prog (w.drewN nq) = .ok (.int .i64 0) (w.drewN nq) := fun ty => hown.len Tryz.underlying33 ty
  obtain ⟨w1, hup, _, hgrow⟩ := hown.update keyLaw Tryz.underlying33 (by decide) (WideMaps.keyOf_string_mk Tryz.underlying9 hmax) (plainElem_string Tryz.underlying9 hmax)
  have HG : Hid (World.grownBy (w.drewN nq) w1 (some M)) := hideP hgrow
  clear hown hgrow
  go_wp2
  go_ret
  exact ⟨rfl, HG.out.os, HG.out.tape, HG.out.output, HG.out.size, HG.out.block⟩
end Go.Proofs.Qxb6613685aGreatFmt
