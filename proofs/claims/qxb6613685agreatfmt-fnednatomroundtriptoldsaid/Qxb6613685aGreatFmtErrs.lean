/-
  The walks of fmt.Errorf at a literal format with no operand, errors.New, ednError, errors.Is at a *strconv.NumError that wraps the sentinel itself (after the guide's Sentry).
-/
import Derived.Test.Qxb6613685aGreatFmtFloat
import Derived.Stop.CallBack
import Derived.Stop.IfaceNil
import Derived.LaidEql
import Derived.Stop.Asserts
import Derived.RowKitTokens
import GoSem.ClaimData
namespace Go.Proofs.Qxb6613685aGreatFmt
open Go.RowKit Go.Extern.Stop Go.Stop Go.Extern
open Go.Lib hiding intOf

theorem call31 (args : Array Value) (w : World) : (callFunc 31 args).run Tryz.prog w = (FmtCalls.errorf #[9, 55] #[25] args).run Tryz.prog w :=
  run_callFunc_next Tryz.func31 (by kernel_rfl) (by kernel_rfl) (by kernel_rfl) args w
theorem fmtGuard (name : String) (w : World) : (FmtStop.guard name).run Tryz.prog w = .ok () w := by kernel_rfl
theorem fmtCount (w : World) : (FmtDoors.count (.slice none 0 0)).run Tryz.prog w = .ok 0 w := by kernel_rfl

theorem errorf_nil (f : ByteArray) (w : World) (hf : f.data.contains 37 = false) : (FmtCalls.errorf #[9, 55] #[25] #[.string f, .slice none 0 0]).run Tryz.prog w = .ok (.value .nilIface) w := by
  have h2 : ¬ 37 ∈ f.data := by simpa using hf
  rw [FmtCalls.errorf_lit]
  simp [fmtGuard, fmtCount, h2]
theorem call31n (f : ByteArray) (hf : f.data.contains 37 = false) (w : World) : (callFunc 31 #[.string f, .slice none 0 0]).run Tryz.prog w = .ok (.value .nilIface) w := (call31 _ w).trans (errorf_nil f w hf)

theorem new_any (s : ByteArray) (w : World) : Calls Tryz.prog 32 #[.string s] w fun e w' => (∃ a, e = .returned (.iface 87 (.pointer (some a)))) ∧ Below w.heap.size w w' := by
  go_enter Tryz.func32, Tryz.ntmps32
  go_wp2
  go_ret
  exact ⟨⟨_, rfl⟩, (Below.refl _ _).alloc (Nat.le_refl _) _⟩
theorem errorf_any (f : ByteArray) (w : World) (hf : f.data.contains 37 = false) : Calls Tryz.prog 19 #[.string f, .slice none 0 0] w fun e w' => (∃ a, e = .returned (.iface 87 (.pointer (some a)))) ∧ Below w.heap.size w w' := by
  have hE := call31n f hf
  clear hf
  go_enter Tryz.func19, Tryz.ntmps19
  go_wp2_with (go_at_call 32; refine (new_any _ _).mono ?_; rintro e w1 ⟨⟨a, rfl⟩, hb⟩)
  go_ret
  exact ⟨⟨_, rfl⟩, hb⟩
/-- ednError: some pointer to a new SyntaxError. -/
theorem ednError_any (line : Int) (tok f : ByteArray) (w : World) (hf : f.data.contains 37 = false) (hs : tok.size ≤ 131072) : Calls Tryz.prog 13 #[.int .i64 line, .string tok, .string f, .slice none 0 0] w fun e w' => (∃ a, e = .returned (.pointer (some a))) ∧ Below w.heap.size w w' := by
  by_cases h : tok.size ≤ 128
  · go_enter Tryz.func13, Tryz.ntmps13
    go_wp2_with (go_at_call 19; refine (errorf_any _ _ hf).mono ?_; rintro e w1 ⟨⟨a, rfl⟩, hb⟩)
    go_ret
    exact ⟨⟨_, rfl⟩, hb.alloc hb.size _⟩
  · have h2 : (128 : Int) < tok.size := by omega
    have h3 : 128 ≤ tok.size := by omega
    go_enter Tryz.func13, Tryz.ntmps13
    go_wp2_with (go_at_call 19; refine (errorf_any _ _ hf).mono ?_; rintro e w1 ⟨⟨a, rfl⟩, hb⟩)
    go_ret
    exact ⟨⟨_, rfl⟩, hb.alloc hb.size _⟩

/-! ### errors.Is -/
theorem call40 (v : Value) (w : World) : (callFunc 40 #[.iface 87 v]).run Tryz.prog w = .ok (.value (.iface 103 (.agg #[.pointer (some ⟨13, 87, none⟩)]))) w :=
  (@run_callFunc_extern Tryz.prog 40 _ Extern.ReflectliteType.typeOf Tryz.func40 (by kernel_rfl) (by kernel_rfl) (by kernel_rfl) (by kernel_rfl) _ w).trans (by kernel_rfl)
theorem call124 (w : World) : (callFunc 124 #[.agg #[.pointer (some ⟨13, 87, none⟩)]]).run Tryz.prog w = .ok (.value (.bool true)) w :=
  (@run_callFunc_extern Tryz.prog 124 _ (Extern.ReflectliteType.method fun t => do Extern.Rtype.noPackHeld "Comparable" t; pure (.bool (← typeInfo t).comparable)) Tryz.func124 (by kernel_rfl) (by kernel_rfl) (by kernel_rfl) (by kernel_rfl) _ w).trans (by kernel_rfl)
theorem isMethodComparable (v : Value) (w : World) : (Go.method 189 103 v "Comparable").run Tryz.prog w = .ok (124, v) w := by kernel_rfl
theorem isComp : (Tryz.prog.info? 87).map (·.comparable) = some true := by kernel_rfl
theorem isSize : (Tryz.prog.info? 89).map (·.size) = some 1 := by kernel_rfl
theorem noIsW (v : Value) (xT : TypeId) (w : World) : (Instr.typeAssert (.iface 98 v) xT 105 true).run Tryz.prog w = .ok (.tuple #[.nilIface, .bool false]) w := run_typeAssert_lacksB Tryz.underlying105 (by kernel_rfl) (by kernel_rfl) v xT w
theorem hasUnwrapW (v : Value) (xT : TypeId) (w : World) : (Instr.typeAssert (.iface 98 v) xT 108 true).run Tryz.prog w = .ok (.tuple #[.iface 98 v, .bool true]) w := run_typeAssert_hasB Tryz.underlying108 (by kernel_rfl) v xT w
theorem methodUnwrap (v : Value) (w : World) : (Go.method 189 98 v "Unwrap").run Tryz.prog w = .ok (120, v) w := by kernel_rfl

theorem is_wrap_same (pb po : Nat) (b : Addr) (w : World) (h1 : w.cell? ⟨pb, po + 2, none⟩ = some (.iface 87 (.pointer (some b)))) :
    Calls Tryz.prog 24 #[.iface 98 (.pointer (some ⟨pb, po, none⟩)), .iface 87 (.pointer (some b))] w fun e w' => e = .returned (.bool true) ∧ w' = w := by
  obtain ⟨i, hi, hcmp⟩ := Option.map_eq_some_iff.1 isComp
  obtain ⟨j, hj, hjs⟩ := Option.map_eq_some_iff.1 isSize
  have h8 := call40
  have h32 := call124
  have mR := isMethodComparable
  have nW := noIsW
  have uW := hasUnwrapW
  have mU := methodUnwrap
  have heq := run_eql_iface_ptr_same (P := Tryz.prog) w b Tryz.underlying25 Tryz.underlying87 hi hcmp hj
  have hty := run_eql_iface_types (P := Tryz.prog) 98 87 (.pointer (some ⟨pb, po, none⟩)) (.pointer (some b)) Tryz.underlying25 (by decide) w
  go_enter Tryz.func24, Tryz.ntmps24
  go_wp2
  refine wp_loop_rounds 2 ?_
  rw [rounds_succ]
  go_wp2
  rw [rounds_succ]
  go_wp2
  go_ret
  exact ⟨rfl, rfl⟩
end Go.Proofs.Qxb6613685aGreatFmt
