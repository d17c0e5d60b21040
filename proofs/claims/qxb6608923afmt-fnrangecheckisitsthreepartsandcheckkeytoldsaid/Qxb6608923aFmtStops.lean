/-
  The closed facts on fmt's stopped front in this program: the call of fmt.errorf, the literal formats, the operands' readings. After the make of the guide's CheckFmt.lean, GuardFmt.lean.
-/
import Derived.Test.Qxb6608923aFmtProg
import Derived.Stop.CallBack
import Derived.Stop.IfaceNil
import GoSem.ClaimData
namespace Go.Proofs
open Go.Extern.Stop Go.Stop Go.Extern

theorem Tryf.call13 (args : Array Value) (w : World) : (callFunc 13 args).run Tryf.prog w = ((FmtStop.errorf #[9, 31] #[24] args).run Tryf.prog w).andThen fun v w' => .ok (.value v) w' :=
  run_callFunc_extern Tryf.func13 (by kernel_rfl) (by kernel_rfl) (by kernel_rfl) (by kernel_rfl) args w
theorem Tryf.guard (name : String) (w : World) : (FmtStop.guard name).run Tryf.prog w = .ok () w := by kernel_rfl
theorem Tryf.fmt0 : FmtStop.printed? ⟨#[115, 116, 97, 114, 116, 32, 107, 101, 121, 58, 32, 37, 119]⟩ 1 = some [(0, 119, false)] := by kernel_rfl
theorem Tryf.fmt0r (w : World) : (FmtDoors.printed ⟨#[115, 116, 97, 114, 116, 32, 107, 101, 121, 58, 32, 37, 119]⟩ 1).run Tryf.prog w = .ok [(0, 119, false)] w := by kernel_rfl
theorem Tryf.fmt1 : FmtStop.printed? ⟨#[115, 116, 97, 114, 116, 32, 107, 101, 121, 58, 32, 37, 119]⟩ 0 = some [] := by kernel_rfl
theorem Tryf.fmt1r (w : World) : (FmtDoors.printed ⟨#[115, 116, 97, 114, 116, 32, 107, 101, 121, 58, 32, 37, 119]⟩ 0).run Tryf.prog w = .ok [] w := by kernel_rfl
theorem Tryf.fmt2 : FmtStop.printed? ⟨#[112, 114, 101, 102, 105, 120, 32, 111, 102, 32, 37, 100, 32, 98, 121, 116, 101, 115, 32, 105, 115, 32, 108, 111, 110, 103, 101, 114, 32, 116, 104, 97, 110, 32, 97, 110, 121, 32, 107, 101, 121, 44, 32, 37, 100, 32, 98, 121, 116, 101, 115, 32, 97, 116, 32, 109, 111, 115, 116]⟩ 2 = some [(0, 100, false), (1, 100, false)] := by kernel_rfl
theorem Tryf.fmt2r (w : World) : (FmtDoors.printed ⟨#[112, 114, 101, 102, 105, 120, 32, 111, 102, 32, 37, 100, 32, 98, 121, 116, 101, 115, 32, 105, 115, 32, 108, 111, 110, 103, 101, 114, 32, 116, 104, 97, 110, 32, 97, 110, 121, 32, 107, 101, 121, 44, 32, 37, 100, 32, 98, 121, 116, 101, 115, 32, 97, 116, 32, 109, 111, 115, 116]⟩ 2).run Tryf.prog w = .ok [(0, 100, false), (1, 100, false)] w := by kernel_rfl
theorem Tryf.fmt3 : FmtStop.printed? ⟨#[112, 114, 101, 102, 105, 120, 32, 111, 102, 32, 37, 100, 32, 98, 121, 116, 101, 115, 32, 105, 115, 32, 108, 111, 110, 103, 101, 114, 32, 116, 104, 97, 110, 32, 97, 110, 121, 32, 107, 101, 121, 44, 32, 37, 100, 32, 98, 121, 116, 101, 115, 32, 97, 116, 32, 109, 111, 115, 116]⟩ 0 = some [] := by kernel_rfl
theorem Tryf.fmt3r (w : World) : (FmtDoors.printed ⟨#[112, 114, 101, 102, 105, 120, 32, 111, 102, 32, 37, 100, 32, 98, 121, 116, 101, 115, 32, 105, 115, 32, 108, 111, 110, 103, 101, 114, 32, 116, 104, 97, 110, 32, 97, 110, 121, 32, 107, 101, 121, 44, 32, 37, 100, 32, 98, 121, 116, 101, 115, 32, 97, 116, 32, 109, 111, 115, 116]⟩ 0).run Tryf.prog w = .ok [] w := by kernel_rfl
theorem Tryf.fmt4 : FmtStop.printed? ⟨#[108, 105, 109, 105, 116, 32, 111, 102, 32, 37, 100, 32, 114, 101, 99, 111, 114, 100, 115, 44, 32, 98, 101, 108, 111, 119, 32, 48]⟩ 1 = some [(0, 100, false)] := by kernel_rfl
theorem Tryf.fmt4r (w : World) : (FmtDoors.printed ⟨#[108, 105, 109, 105, 116, 32, 111, 102, 32, 37, 100, 32, 114, 101, 99, 111, 114, 100, 115, 44, 32, 98, 101, 108, 111, 119, 32, 48]⟩ 1).run Tryf.prog w = .ok [(0, 100, false)] w := by kernel_rfl
theorem Tryf.fmt5 : FmtStop.printed? ⟨#[108, 105, 109, 105, 116, 32, 111, 102, 32, 37, 100, 32, 114, 101, 99, 111, 114, 100, 115, 44, 32, 98, 101, 108, 111, 119, 32, 48]⟩ 0 = some [] := by kernel_rfl
theorem Tryf.fmt5r (w : World) : (FmtDoors.printed ⟨#[108, 105, 109, 105, 116, 32, 111, 102, 32, 37, 100, 32, 114, 101, 99, 111, 114, 100, 115, 44, 32, 98, 101, 108, 111, 119, 32, 48]⟩ 0).run Tryf.prog w = .ok [] w := by kernel_rfl
theorem Tryf.fmt6 : FmtStop.printed? ⟨#[107, 101, 121, 32, 104, 111, 108, 100, 115, 32, 97, 32, 78, 85, 76, 32, 98, 121, 116, 101, 32, 97, 116, 32, 111, 102, 102, 115, 101, 116, 32, 37, 100]⟩ 1 = some [(0, 100, false)] := by kernel_rfl
theorem Tryf.fmt6r (w : World) : (FmtDoors.printed ⟨#[107, 101, 121, 32, 104, 111, 108, 100, 115, 32, 97, 32, 78, 85, 76, 32, 98, 121, 116, 101, 32, 97, 116, 32, 111, 102, 102, 115, 101, 116, 32, 37, 100]⟩ 1).run Tryf.prog w = .ok [(0, 100, false)] w := by kernel_rfl
theorem Tryf.fmt7 : FmtStop.printed? ⟨#[107, 101, 121, 32, 104, 111, 108, 100, 115, 32, 97, 32, 78, 85, 76, 32, 98, 121, 116, 101, 32, 97, 116, 32, 111, 102, 102, 115, 101, 116, 32, 37, 100]⟩ 0 = some [] := by kernel_rfl
theorem Tryf.fmt7r (w : World) : (FmtDoors.printed ⟨#[107, 101, 121, 32, 104, 111, 108, 100, 115, 32, 97, 32, 78, 85, 76, 32, 98, 121, 116, 101, 32, 97, 116, 32, 111, 102, 102, 115, 101, 116, 32, 37, 100]⟩ 0).run Tryf.prog w = .ok [] w := by kernel_rfl
theorem Tryf.fmt8 : FmtStop.printed? ⟨#[37, 115, 32, 111, 102, 32, 37, 100, 32, 98, 121, 116, 101, 115, 32, 105, 115, 32, 108, 111, 110, 103, 101, 114, 32, 116, 104, 97, 110, 32, 37, 100, 32, 98, 121, 116, 101, 115]⟩ 3 = some [(0, 115, false), (1, 100, false), (2, 100, false)] := by kernel_rfl
theorem Tryf.fmt8r (w : World) : (FmtDoors.printed ⟨#[37, 115, 32, 111, 102, 32, 37, 100, 32, 98, 121, 116, 101, 115, 32, 105, 115, 32, 108, 111, 110, 103, 101, 114, 32, 116, 104, 97, 110, 32, 37, 100, 32, 98, 121, 116, 101, 115]⟩ 3).run Tryf.prog w = .ok [(0, 115, false), (1, 100, false), (2, 100, false)] w := by kernel_rfl
theorem Tryf.fmt9 : FmtStop.printed? ⟨#[37, 115, 32, 111, 102, 32, 37, 100, 32, 98, 121, 116, 101, 115, 32, 105, 115, 32, 108, 111, 110, 103, 101, 114, 32, 116, 104, 97, 110, 32, 37, 100, 32, 98, 121, 116, 101, 115]⟩ 0 = some [] := by kernel_rfl
theorem Tryf.fmt9r (w : World) : (FmtDoors.printed ⟨#[37, 115, 32, 111, 102, 32, 37, 100, 32, 98, 121, 116, 101, 115, 32, 105, 115, 32, 108, 111, 110, 103, 101, 114, 32, 116, 104, 97, 110, 32, 37, 100, 32, 98, 121, 116, 101, 115]⟩ 0).run Tryf.prog w = .ok [] w := by kernel_rfl
def Tryf.shape9 : List UInt8 := [12, 6, 0, 0, 0, 0, 0, 0, 0, 115, 116, 114, 105, 110, 103]
def Tryf.shape3 : List UInt8 := [5, 3, 0, 0, 0, 0, 0, 0, 0, 105, 110, 116]
theorem Tryf.op9_115 (name : String) (x : ByteArray) (w : World) : (FmtStop.operand name false 115 false (.iface 9 (.string x))).run Tryf.prog w = .ok (Tryf.shape9, FmtStop.pack x.data.toList) w := by kernel_rfl
theorem Tryf.op3_115 (name : String) (x : Int) (w : World) : (FmtStop.operand name false 115 false (.iface 3 (.int .i64 x))).run Tryf.prog w = .ok (Tryf.shape3, Go.Extern.Stop.digits 8 (x % 2 ^ 64).toNat) w := by kernel_rfl
theorem Tryf.op9_115w (name : String) (x : ByteArray) (w : World) : (FmtStop.operand name true 115 false (.iface 9 (.string x))).run Tryf.prog w = .ok (Tryf.shape9, FmtStop.pack x.data.toList) w := by kernel_rfl
theorem Tryf.op3_115w (name : String) (x : Int) (w : World) : (FmtStop.operand name true 115 false (.iface 3 (.int .i64 x))).run Tryf.prog w = .ok (Tryf.shape3, Go.Extern.Stop.digits 8 (x % 2 ^ 64).toNat) w := by kernel_rfl
theorem Tryf.op9_100 (name : String) (x : ByteArray) (w : World) : (FmtStop.operand name false 100 false (.iface 9 (.string x))).run Tryf.prog w = .ok (Tryf.shape9, FmtStop.pack x.data.toList) w := by kernel_rfl
theorem Tryf.op3_100 (name : String) (x : Int) (w : World) : (FmtStop.operand name false 100 false (.iface 3 (.int .i64 x))).run Tryf.prog w = .ok (Tryf.shape3, Go.Extern.Stop.digits 8 (x % 2 ^ 64).toNat) w := by kernel_rfl
theorem Tryf.op9_100w (name : String) (x : ByteArray) (w : World) : (FmtStop.operand name true 100 false (.iface 9 (.string x))).run Tryf.prog w = .ok (Tryf.shape9, FmtStop.pack x.data.toList) w := by kernel_rfl
theorem Tryf.op3_100w (name : String) (x : Int) (w : World) : (FmtStop.operand name true 100 false (.iface 3 (.int .i64 x))).run Tryf.prog w = .ok (Tryf.shape3, Go.Extern.Stop.digits 8 (x % 2 ^ 64).toNat) w := by kernel_rfl
theorem Tryf.op9_119w (name : String) (x : ByteArray) (w : World) : (FmtStop.operand name true 119 false (.iface 9 (.string x))).run Tryf.prog w = .ok (Tryf.shape9, FmtStop.pack x.data.toList) w := by kernel_rfl
theorem Tryf.op3_119w (name : String) (x : Int) (w : World) : (FmtStop.operand name true 119 false (.iface 3 (.int .i64 x))).run Tryf.prog w = .ok (Tryf.shape3, Go.Extern.Stop.digits 8 (x % 2 ^ 64).toNat) w := by kernel_rfl
theorem Tryf.strict9 (name : String) (x : ByteArray) (w : World) : (FmtStop.strict name (.iface 9 (.string x))).run Tryf.prog w = .ok (Tryf.shape9, FmtStop.pack x.data.toList) w := by kernel_rfl
theorem Tryf.strict3 (name : String) (x : Int) (w : World) : (FmtStop.strict name (.iface 3 (.int .i64 x))).run Tryf.prog w = .ok (Tryf.shape3, Go.Extern.Stop.digits 8 (x % 2 ^ 64).toNat) w := by kernel_rfl
theorem Tryf.ptr35 (w : World) : (FmtStop.ptrTo "errors.errorString").run Tryf.prog w = .ok 35 w := by kernel_rfl
theorem Tryf.elem35 (w : World) : (elemOf 35).run Tryf.prog w = .ok 37 w := by kernel_rfl
theorem Tryf.isError35' (w : World) : (FmtDoors.textMethod 35 "Error").run Tryf.prog w = .ok true w := by kernel_rfl
theorem Tryf.ptr32 (w : World) : (FmtStop.ptrTo "fmt.wrapError").run Tryf.prog w = .ok 32 w := by kernel_rfl
theorem Tryf.elem32 (w : World) : (elemOf 32).run Tryf.prog w = .ok 62 w := by kernel_rfl
theorem Tryf.isError32' (w : World) : (FmtDoors.textMethod 32 "Error").run Tryf.prog w = .ok true w := by kernel_rfl
theorem Tryf.str35 : ∃ nm, ∀ w, (typeStr 35).run Tryf.prog w = .ok nm w := by
  exact ⟨Tryf.t35.str, fun w => by kernel_rfl⟩
/-- An error of errors.New's make as an operand under w: it has some reading, out of memory. -/
theorem Tryf.opPlain35_119w (name : String) (a : Addr) (s : ByteArray) (w : World) (hc : w.cell? a = some (.string s)) :
    ∃ r, (FmtStop.operand name true 119 false (.iface 35 (.pointer (some a)))).run Tryf.prog w = .ok (r, s.data.toList) w := by
  obtain ⟨nm, h1⟩ := Tryf.str35
  have d2 : Tryf.t35.desc = .pointer 37 := rfl
  have d3 : Tryf.t37.desc = .named "errors.errorString" 36 := rfl
  exact ⟨14 :: FmtStop.pack nm.toUTF8.data.toList, by simp [FmtStop.operand, h1, d2, d3, run_load, hc]⟩
end Go.Proofs
