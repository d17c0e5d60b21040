/-
  Two contracts of the guide's shelf at this program, in plain words (written by the guide's lay-plain.mjs): utf8.ValidString, strings.IndexByte.
-/
import Derived.Ground.NamesProg
import Derived.Shelf.Unicode.ValidAny
import Derived.Shelf.Small.Strs
import Derived.Test.Qxb6608923aFmtProg
namespace Go.Proofs
open Go.Shelf
def Tryf.laysValid_ren : Go.Shelf.Ren := ⟨fun | 196 => 16 | 259 => 18 | n => n, fun | 9 => 9 | 4 => 4 | 3 => 3 | 5 => 5 | 12 => 12 | 119 => 39 | 0 => 0 | 46 => 43 | 139 => 42 | 138 => 41 | 53 => 44 | n => n, fun | 3 => 0 | 4 => 1 | n => n⟩
theorem Tryf.laysValid : Go.Proofs.Lays.n196 Tryf.prog Tryf.laysValid_ren := {
  mixed := by kernel_rfl
  f196 := Tryf.func16.trans (congrArg some (by kernel_rfl))
  f259 := Tryf.func18.trans (congrArg some (by kernel_rfl))
  t0 := Tryf.underlying0
  a0 := Tryf.isAgg0
  z0 := Tryf.sizeOf0
  v0 := Tryf.zeroValue0
  t3 := Tryf.underlying3
  a3 := Tryf.isAgg3
  z3 := Tryf.sizeOf3
  v3 := Tryf.zeroValue3
  t4 := Tryf.underlying4
  a4 := Tryf.isAgg4
  z4 := Tryf.sizeOf4
  v4 := Tryf.zeroValue4
  t5 := Tryf.underlying5
  a5 := Tryf.isAgg5
  z5 := Tryf.sizeOf5
  v5 := Tryf.zeroValue5
  t9 := Tryf.underlying9
  a9 := Tryf.isAgg9
  z9 := Tryf.sizeOf9
  v9 := Tryf.zeroValue9
  t12 := Tryf.underlying12
  a12 := Tryf.isAgg12
  z12 := Tryf.sizeOf12
  v12 := Tryf.zeroValue12
  t46 := Tryf.underlying43
  a46 := Tryf.isAgg43
  z46 := Tryf.sizeOf43
  v46 := Tryf.zeroValue43
  t53 := Tryf.underlying44
  a53 := Tryf.isAgg44
  z53 := Tryf.sizeOf44
  v53 := Tryf.zeroValue44
  t119 := Tryf.underlying39
  a119 := Tryf.isAgg39
  z119 := Tryf.sizeOf39
  t138 := Tryf.underlying41
  a138 := Tryf.isAgg41
  z138 := Tryf.sizeOf41
  v138 := Tryf.zeroValue41
  t139 := Tryf.underlying42
  a139 := Tryf.isAgg42
  z139 := Tryf.sizeOf42
  v139 := Tryf.zeroValue42
  g3 := by kernel_rfl
  g4 := by kernel_rfl }
def Tryf.laysIndex_ren : Go.Shelf.Ren := ⟨fun | 137 => 17 | 217 => 19 | 266 => 20 | n => n, fun | 9 => 9 | 5 => 5 | 3 => 3 | n => n, fun | n => n⟩
theorem Tryf.laysIndex : Go.Proofs.Lays.n137 Tryf.prog Tryf.laysIndex_ren := {
  mixed := by kernel_rfl
  f137 := Tryf.func17.trans (congrArg some (by kernel_rfl))
  f217 := Tryf.func19.trans (congrArg some (by kernel_rfl))
  f266 := Tryf.func20.trans (congrArg some (by kernel_rfl))
  t3 := Tryf.underlying3
  a3 := Tryf.isAgg3
  z3 := Tryf.sizeOf3
  v3 := Tryf.zeroValue3
  t5 := Tryf.underlying5
  a5 := Tryf.isAgg5
  z5 := Tryf.sizeOf5
  v5 := Tryf.zeroValue5
  t9 := Tryf.underlying9
  a9 := Tryf.isAgg9
  z9 := Tryf.sizeOf9
  v9 := Tryf.zeroValue9 }
end Go.Proofs
