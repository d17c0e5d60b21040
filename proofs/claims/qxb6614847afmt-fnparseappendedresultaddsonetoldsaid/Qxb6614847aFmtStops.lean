/-
  The closed facts on fmt's stopped front in this program: the call of fmt.errorf, the literal formats, the operands' readings. After the make of the guide's CheckFmt.lean, GuardFmt.lean.
-/
import Derived.Test.Qxb6614847aFmtProg
import Derived.Stop.CallBack
import Derived.Stop.IfaceNil
import GoSem.ClaimData
namespace Go.Proofs
open Go.Extern.Stop Go.Stop Go.Extern

theorem Tryf.call17 (args : Array Value) (w : World) : (callFunc 17 args).run Tryf.prog w = ((FmtStop.errorf #[9, 49] #[27] args).run Tryf.prog w).andThen fun v w' => .ok (.value v) w' :=
  run_callFunc_extern Tryf.func17 (by kernel_rfl) (by kernel_rfl) (by kernel_rfl) (by kernel_rfl) args w
theorem Tryf.guard (name : String) (w : World) : (FmtStop.guard name).run Tryf.prog w = .ok () w := by kernel_rfl
theorem Tryf.fmt0 : FmtStop.printed? ⟨#[110, 111, 32, 97, 117, 116, 104, 115, 101, 114, 118, 45, 105, 100, 58, 32, 37, 119]⟩ 1 = some [(0, 119, false)] := by kernel_rfl
theorem Tryf.fmt0r (w : World) : (FmtDoors.printed ⟨#[110, 111, 32, 97, 117, 116, 104, 115, 101, 114, 118, 45, 105, 100, 58, 32, 37, 119]⟩ 1).run Tryf.prog w = .ok [(0, 119, false)] w := by kernel_rfl
theorem Tryf.fmt1 : FmtStop.printed? ⟨#[119, 97, 110, 116, 32, 37, 115, 32, 97, 116, 32, 116, 104, 101, 32, 101, 110, 100]⟩ 1 = some [(0, 115, false)] := by kernel_rfl
theorem Tryf.fmt1r (w : World) : (FmtDoors.printed ⟨#[119, 97, 110, 116, 32, 37, 115, 32, 97, 116, 32, 116, 104, 101, 32, 101, 110, 100]⟩ 1).run Tryf.prog w = .ok [(0, 115, false)] w := by kernel_rfl
theorem Tryf.fmt2 : FmtStop.printed? ⟨#[119, 97, 110, 116, 32, 37, 115, 32, 97, 116, 32, 98, 121, 116, 101, 32, 37, 100, 44, 32, 110, 111, 116, 32, 37, 113]⟩ 3 = some [(0, 115, false), (1, 100, false), (2, 113, false)] := by kernel_rfl
theorem Tryf.fmt2r (w : World) : (FmtDoors.printed ⟨#[119, 97, 110, 116, 32, 37, 115, 32, 97, 116, 32, 98, 121, 116, 101, 32, 37, 100, 44, 32, 110, 111, 116, 32, 37, 113]⟩ 3).run Tryf.prog w = .ok [(0, 115, false), (1, 100, false), (2, 113, false)] w := by kernel_rfl
theorem Tryf.fmt3 : FmtStop.printed? ⟨#[116, 104, 101, 32, 112, 114, 111, 112, 101, 114, 116, 121, 32, 37, 115, 32, 105, 115, 32, 103, 105, 118, 101, 110, 32, 116, 119, 105, 99, 101]⟩ 1 = some [(0, 115, false)] := by kernel_rfl
theorem Tryf.fmt3r (w : World) : (FmtDoors.printed ⟨#[116, 104, 101, 32, 112, 114, 111, 112, 101, 114, 116, 121, 32, 37, 115, 32, 105, 115, 32, 103, 105, 118, 101, 110, 32, 116, 119, 105, 99, 101]⟩ 1).run Tryf.prog w = .ok [(0, 115, false)] w := by kernel_rfl
theorem Tryf.fmt4 : FmtStop.printed? ⟨#[116, 104, 101, 32, 113, 117, 111, 116, 101, 100, 32, 115, 116, 114, 105, 110, 103, 32, 97, 116, 32, 98, 121, 116, 101, 32, 37, 100, 32, 105, 115, 32, 110, 111, 116, 32, 99, 108, 111, 115, 101, 100]⟩ 1 = some [(0, 100, false)] := by kernel_rfl
theorem Tryf.fmt4r (w : World) : (FmtDoors.printed ⟨#[116, 104, 101, 32, 113, 117, 111, 116, 101, 100, 32, 115, 116, 114, 105, 110, 103, 32, 97, 116, 32, 98, 121, 116, 101, 32, 37, 100, 32, 105, 115, 32, 110, 111, 116, 32, 99, 108, 111, 115, 101, 100]⟩ 1).run Tryf.prog w = .ok [(0, 100, false)] w := by kernel_rfl
theorem Tryf.fmt5 : FmtStop.printed? ⟨#[116, 104, 101, 32, 99, 111, 109, 109, 101, 110, 116, 32, 97, 116, 32, 98, 121, 116, 101, 32, 37, 100, 32, 105, 115, 32, 110, 111, 116, 32, 99, 108, 111, 115, 101, 100]⟩ 1 = some [(0, 100, false)] := by kernel_rfl
theorem Tryf.fmt5r (w : World) : (FmtDoors.printed ⟨#[116, 104, 101, 32, 99, 111, 109, 109, 101, 110, 116, 32, 97, 116, 32, 98, 121, 116, 101, 32, 37, 100, 32, 105, 115, 32, 110, 111, 116, 32, 99, 108, 111, 115, 101, 100]⟩ 1).run Tryf.prog w = .ok [(0, 100, false)] w := by kernel_rfl
def Tryf.shape9 : List UInt8 := [12, 6, 0, 0, 0, 0, 0, 0, 0, 115, 116, 114, 105, 110, 103]
def Tryf.shape3 : List UInt8 := [5, 3, 0, 0, 0, 0, 0, 0, 0, 105, 110, 116]
theorem Tryf.op9_115 (name : String) (x : ByteArray) (w : World) : (FmtStop.operand name false 115 false (.iface 9 (.string x))).run Tryf.prog w = .ok (Tryf.shape9, FmtStop.pack x.data.toList) w := by kernel_rfl
theorem Tryf.op9_115w (name : String) (x : ByteArray) (w : World) : (FmtStop.operand name true 115 false (.iface 9 (.string x))).run Tryf.prog w = .ok (Tryf.shape9, FmtStop.pack x.data.toList) w := by kernel_rfl
theorem Tryf.op3_100 (name : String) (x : Int) (w : World) : (FmtStop.operand name false 100 false (.iface 3 (.int .i64 x))).run Tryf.prog w = .ok (Tryf.shape3, Go.Extern.Stop.digits 8 (x % 2 ^ 64).toNat) w := by kernel_rfl
theorem Tryf.op3_100w (name : String) (x : Int) (w : World) : (FmtStop.operand name true 100 false (.iface 3 (.int .i64 x))).run Tryf.prog w = .ok (Tryf.shape3, Go.Extern.Stop.digits 8 (x % 2 ^ 64).toNat) w := by kernel_rfl
def Tryf.shape5 : List UInt8 := [6, 5, 0, 0, 0, 0, 0, 0, 0, 117, 105, 110, 116, 56]
theorem Tryf.op5_113 (name : String) (x : Int) (w : World) : (FmtStop.operand name false 113 false (.iface 5 (.int .u8 x))).run Tryf.prog w = .ok (Tryf.shape5, Go.Extern.Stop.digits 8 (x % 2 ^ 64).toNat) w := by kernel_rfl
theorem Tryf.op5_113w (name : String) (x : Int) (w : World) : (FmtStop.operand name true 113 false (.iface 5 (.int .u8 x))).run Tryf.prog w = .ok (Tryf.shape5, Go.Extern.Stop.digits 8 (x % 2 ^ 64).toNat) w := by kernel_rfl
theorem Tryf.ptr59 (w : World) : (FmtStop.ptrTo "errors.errorString").run Tryf.prog w = .ok 59 w := by kernel_rfl
theorem Tryf.elem59 (w : World) : (elemOf 59).run Tryf.prog w = .ok 61 w := by kernel_rfl
theorem Tryf.isError59 (w : World) : (FmtDoors.textMethod 59 "Error").run Tryf.prog w = .ok true w := by kernel_rfl
theorem Tryf.ptr50 (w : World) : (FmtStop.ptrTo "fmt.wrapError").run Tryf.prog w = .ok 50 w := by kernel_rfl
theorem Tryf.elem50 (w : World) : (elemOf 50).run Tryf.prog w = .ok 115 w := by kernel_rfl
theorem Tryf.isError50 (w : World) : (FmtDoors.textMethod 50 "Error").run Tryf.prog w = .ok true w := by kernel_rfl
theorem Tryf.str59 : ∃ nm, ∀ w, (typeStr 59).run Tryf.prog w = .ok nm w := by
  exact ⟨Tryf.t59.str, fun w => by kernel_rfl⟩
/-- An error of errors.New's make as an operand under w: it has some reading, out of memory. -/
theorem Tryf.opPlain59_119w (name : String) (a : Addr) (s : ByteArray) (w : World) (hc : w.cell? a = some (.string s)) :
    ∃ r, (FmtStop.operand name true 119 false (.iface 59 (.pointer (some a)))).run Tryf.prog w = .ok (r, s.data.toList) w := by
  obtain ⟨nm, h1⟩ := Tryf.str59
  have d2 : Tryf.t59.desc = .pointer 61 := rfl
  have d3 : Tryf.t61.desc = .named "errors.errorString" 60 := rfl
  exact ⟨14 :: FmtStop.pack nm.toUTF8.data.toList, by simp [FmtStop.operand, h1, d2, d3, run_load, hc]⟩
end Go.Proofs
