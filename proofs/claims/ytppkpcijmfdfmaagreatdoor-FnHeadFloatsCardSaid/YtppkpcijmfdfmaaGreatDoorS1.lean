/-
  The contract of utf8.ValidString at this program, laid by the tool for the shelf in plain words.
-/
import Derived.Shelf.Unicode.ValidAny
import Derived.Ground.NamesProg
import Derived.Test.YtppkpcijmfdfmaaGreatDoorProg
namespace Go.Proofs
open Go.Shelf
def Tryz.laysValid_ren : Go.Shelf.Ren := ⟨fun | 196 => 23 | 259 => 56 | n => n, fun | 9 => 9 | 4 => 4 | 3 => 3 | 5 => 5 | 12 => 12 | 119 => 90 | 0 => 0 | 46 => 94 | 139 => 93 | 138 => 92 | 53 => 23 | n => n, fun | 3 => 0 | 4 => 1 | n => n⟩
theorem Tryz.laysValid : Go.Proofs.Lays.n196 Tryz.prog Tryz.laysValid_ren := {
  mixed := by kernel_rfl
  f196 := Tryz.func23.trans (congrArg some (by kernel_rfl))
  f259 := Tryz.func56.trans (congrArg some (by kernel_rfl))
  t0 := Tryz.underlying0
  a0 := Tryz.isAgg0
  z0 := Tryz.sizeOf0
  v0 := Tryz.zeroValue0
  t3 := Tryz.underlying3
  a3 := Tryz.isAgg3
  z3 := Tryz.sizeOf3
  v3 := Tryz.zeroValue3
  t4 := Tryz.underlying4
  a4 := Tryz.isAgg4
  z4 := Tryz.sizeOf4
  v4 := Tryz.zeroValue4
  t5 := Tryz.underlying5
  a5 := Tryz.isAgg5
  z5 := Tryz.sizeOf5
  v5 := Tryz.zeroValue5
  t9 := Tryz.underlying9
  a9 := Tryz.isAgg9
  z9 := Tryz.sizeOf9
  v9 := Tryz.zeroValue9
  t12 := Tryz.underlying12
  a12 := Tryz.isAgg12
  z12 := Tryz.sizeOf12
  v12 := Tryz.zeroValue12
  t46 := Tryz.underlying94
  a46 := Tryz.isAgg94
  z46 := Tryz.sizeOf94
  v46 := Tryz.zeroValue94
  t53 := Tryz.underlying23
  a53 := Tryz.isAgg23
  z53 := Tryz.sizeOf23
  v53 := Tryz.zeroValue23
  t119 := Tryz.underlying90
  a119 := Tryz.isAgg90
  z119 := Tryz.sizeOf90
  t138 := Tryz.underlying92
  a138 := Tryz.isAgg92
  z138 := Tryz.sizeOf92
  v138 := Tryz.zeroValue92
  t139 := Tryz.underlying93
  a139 := Tryz.isAgg93
  z139 := Tryz.sizeOf93
  v139 := Tryz.zeroValue93
  g3 := by kernel_rfl
  g4 := by kernel_rfl }
end Go.Proofs
