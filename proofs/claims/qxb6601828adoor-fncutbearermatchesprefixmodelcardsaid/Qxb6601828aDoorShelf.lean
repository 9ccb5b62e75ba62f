/-
  Contracts of the shelf, laid at this dump in plain words by the kit's two tools (lay-shelf, lay-plain): a table of numbers and one theorem a function.
-/
import Derived.Shelf.Strings.Trim
import Derived.Shelf.Strings.Search1
import Derived.Test.Qxb6601828aDoorProg
namespace Go.Proofs
open Go.Shelf
def Tryd.lays161_ren : Go.Shelf.Ren := ⟨fun | 161 => 11 | 231 => 16 | 227 => 17 | 233 => 18 | 235 => 19 | 228 => 24 | 197 => 14 | 151 => 25 | 260 => 21 | 152 => 30 | 137 => 33 | 119 => 34 | 224 => 28 | 225 => 27 | 217 => 26 | 266 => 31 | n => n, fun | 9 => 9 | 4 => 4 | 3 => 3 | 5 => 5 | 117 => 39 | 116 => 38 | 0 => 0 | 124 => 42 | 105 => 33 | 21 => 21 | 119 => 57 | 46 => 27 | 139 => 60 | 138 => 59 | n => n, fun | 3 => 4 | 4 => 5 | n => n⟩
theorem Tryd.lays161 : Go.Proofs.Lays.n161 Tryd.prog Tryd.lays161_ren := {
  mixed := by kernel_rfl
  f119 := Tryd.func34.trans (congrArg some (by kernel_rfl))
  f137 := Tryd.func33.trans (congrArg some (by kernel_rfl))
  f151 := Tryd.func25.trans (congrArg some (by kernel_rfl))
  f152 := Tryd.func30.trans (congrArg some (by kernel_rfl))
  f161 := Tryd.func11.trans (congrArg some (by kernel_rfl))
  f197 := Tryd.func14.trans (congrArg some (by kernel_rfl))
  f217 := Tryd.func26.trans (congrArg some (by kernel_rfl))
  f224 := Tryd.func28.trans (congrArg some (by kernel_rfl))
  f225 := Tryd.func27.trans (congrArg some (by kernel_rfl))
  f227 := Tryd.func17.trans (congrArg some (by kernel_rfl))
  f228 := Tryd.func24.trans (congrArg some (by kernel_rfl))
  f231 := Tryd.func16.trans (congrArg some (by kernel_rfl))
  f233 := Tryd.func18.trans (congrArg some (by kernel_rfl))
  f235 := Tryd.func19.trans (congrArg some (by kernel_rfl))
  f260 := Tryd.func21.trans (congrArg some (by kernel_rfl))
  f266 := Tryd.func31.trans (congrArg some (by kernel_rfl))
  t0 := Tryd.underlying0
  a0 := Tryd.isAgg0
  z0 := Tryd.sizeOf0
  v0 := Tryd.zeroValue0
  t3 := Tryd.underlying3
  a3 := Tryd.isAgg3
  z3 := Tryd.sizeOf3
  v3 := Tryd.zeroValue3
  t4 := Tryd.underlying4
  a4 := Tryd.isAgg4
  z4 := Tryd.sizeOf4
  v4 := Tryd.zeroValue4
  t5 := Tryd.underlying5
  a5 := Tryd.isAgg5
  z5 := Tryd.sizeOf5
  v5 := Tryd.zeroValue5
  t9 := Tryd.underlying9
  a9 := Tryd.isAgg9
  z9 := Tryd.sizeOf9
  v9 := Tryd.zeroValue9
  t21 := Tryd.underlying21
  a21 := Tryd.isAgg21
  z21 := Tryd.sizeOf21
  v21 := Tryd.zeroValue21
  t46 := Tryd.underlying27
  a46 := Tryd.isAgg27
  z46 := Tryd.sizeOf27
  v46 := Tryd.zeroValue27
  t105 := Tryd.underlying33
  a105 := Tryd.isAgg33
  z105 := Tryd.sizeOf33
  v105 := Tryd.zeroValue33
  t116 := Tryd.underlying38
  a116 := Tryd.isAgg38
  z116 := Tryd.sizeOf38
  t117 := Tryd.underlying39
  a117 := Tryd.isAgg39
  z117 := Tryd.sizeOf39
  v117 := Tryd.zeroValue39
  t119 := Tryd.underlying57
  a119 := Tryd.isAgg57
  z119 := Tryd.sizeOf57
  t124 := Tryd.underlying42
  a124 := Tryd.isAgg42
  z124 := Tryd.sizeOf42
  v124 := Tryd.zeroValue42
  t138 := Tryd.underlying59
  a138 := Tryd.isAgg59
  z138 := Tryd.sizeOf59
  v138 := Tryd.zeroValue59
  t139 := Tryd.underlying60
  a139 := Tryd.isAgg60
  z139 := Tryd.sizeOf60
  v139 := Tryd.zeroValue60
  g3 := by kernel_rfl
  g4 := by kernel_rfl }
def Tryd.lays217_ren : Go.Shelf.Ren := ⟨fun | 217 => 26 | 266 => 31 | n => n, fun | 9 => 9 | 5 => 5 | 3 => 3 | n => n, fun | n => n⟩
theorem Tryd.lays217 : Go.Proofs.Lays.n217 Tryd.prog Tryd.lays217_ren := {
  mixed := by kernel_rfl
  f217 := Tryd.func26.trans (congrArg some (by kernel_rfl))
  f266 := Tryd.func31.trans (congrArg some (by kernel_rfl))
  t3 := Tryd.underlying3
  a3 := Tryd.isAgg3
  z3 := Tryd.sizeOf3
  v3 := Tryd.zeroValue3
  t5 := Tryd.underlying5
  a5 := Tryd.isAgg5
  z5 := Tryd.sizeOf5
  v5 := Tryd.zeroValue5
  t9 := Tryd.underlying9
  a9 := Tryd.isAgg9
  z9 := Tryd.sizeOf9
  v9 := Tryd.zeroValue9 }
end Go.Proofs
