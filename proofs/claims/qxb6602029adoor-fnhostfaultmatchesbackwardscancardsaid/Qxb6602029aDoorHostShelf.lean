/-
  THE SHELF CONTRACTS of strings.LastIndexByte and strings.Trim, laid at this dump in plain words by the kit (lay-shelf, lay-plain).
-/
import Derived.Ground.NamesProg
import Derived.Shelf.Strings.SlTrimAscii
import Derived.Shelf.Strings.LastIndex
import Derived.Test.Qxb6602029aDoorProg
namespace Go.Proofs
open Go.Shelf
def Tryd.lays149_ren : Go.Shelf.Ren := ⟨fun | 149 => 31 | 222 => 42 | n => n, fun | 9 => 9 | 5 => 5 | 3 => 3 | 4 => 4 | n => n, fun | n => n⟩
theorem Tryd.lays149 : Go.Proofs.Lays.n149 Tryd.prog Tryd.lays149_ren := {
  mixed := by kernel_rfl
  f149 := Tryd.func31.trans (congrArg some (by kernel_rfl))
  f222 := Tryd.func42.trans (congrArg some (by kernel_rfl))
  t3 := Tryd.underlying3
  a3 := Tryd.isAgg3
  z3 := Tryd.sizeOf3
  v3 := Tryd.zeroValue3
  t4 := Tryd.underlying4
  a4 := Tryd.isAgg4
  z4 := Tryd.sizeOf4
  v4 := Tryd.zeroValue4
  t5 := Tryd.underlying5
  a5 := Tryd.isAgg5
  z5 := Tryd.sizeOf5
  v5 := Tryd.zeroValue5
  t9 := Tryd.underlying9
  a9 := Tryd.isAgg9
  z9 := Tryd.sizeOf9
  v9 := Tryd.zeroValue9 }
def Tryd.lays160_ren : Go.Shelf.Ren := ⟨fun | 160 => 32 | 232 => 44 | 231 => 43 | 227 => 45 | 234 => 47 | 233 => 46 | 236 => 49 | 235 => 48 | 228 => 58 | 271 => 60 | 151 => 59 | 197 => 35 | 120 => 69 | 152 => 56 | 260 => 52 | 137 => 65 | 119 => 66 | 224 => 67 | 225 => 68 | 217 => 70 | 266 => 72 | n => n, fun | 9 => 9 | 4 => 4 | 3 => 3 | 5 => 5 | 117 => 73 | 116 => 72 | 0 => 0 | 124 => 76 | 21 => 21 | 105 => 62 | 46 => 89 | 119 => 88 | 139 => 92 | 138 => 91 | n => n, fun | 3 => 2 | 4 => 3 | n => n⟩
theorem Tryd.lays160 : Go.Proofs.Lays.n160 Tryd.prog Tryd.lays160_ren := {
  mixed := by kernel_rfl
  f119 := Tryd.func66.trans (congrArg some (by kernel_rfl))
  f120 := Tryd.func69.trans (congrArg some (by kernel_rfl))
  f137 := Tryd.func65.trans (congrArg some (by kernel_rfl))
  f151 := Tryd.func59.trans (congrArg some (by kernel_rfl))
  f152 := Tryd.func56.trans (congrArg some (by kernel_rfl))
  f160 := Tryd.func32.trans (congrArg some (by kernel_rfl))
  f197 := Tryd.func35.trans (congrArg some (by kernel_rfl))
  f217 := Tryd.func70.trans (congrArg some (by kernel_rfl))
  f224 := Tryd.func67.trans (congrArg some (by kernel_rfl))
  f225 := Tryd.func68.trans (congrArg some (by kernel_rfl))
  f227 := Tryd.func45.trans (congrArg some (by kernel_rfl))
  f228 := Tryd.func58.trans (congrArg some (by kernel_rfl))
  f231 := Tryd.func43.trans (congrArg some (by kernel_rfl))
  f232 := Tryd.func44.trans (congrArg some (by kernel_rfl))
  f233 := Tryd.func46.trans (congrArg some (by kernel_rfl))
  f234 := Tryd.func47.trans (congrArg some (by kernel_rfl))
  f235 := Tryd.func48.trans (congrArg some (by kernel_rfl))
  f236 := Tryd.func49.trans (congrArg some (by kernel_rfl))
  f260 := Tryd.func52.trans (congrArg some (by kernel_rfl))
  f266 := Tryd.func72.trans (congrArg some (by kernel_rfl))
  f271 := Tryd.func60.trans (congrArg some (by kernel_rfl))
  t0 := Tryd.underlying0
  a0 := Tryd.isAgg0
  z0 := Tryd.sizeOf0
  v0 := Tryd.zeroValue0
  t3 := Tryd.underlying3
  a3 := Tryd.isAgg3
  z3 := Tryd.sizeOf3
  v3 := Tryd.zeroValue3
  t4 := Tryd.underlying4
  a4 := Tryd.isAgg4
  z4 := Tryd.sizeOf4
  v4 := Tryd.zeroValue4
  t5 := Tryd.underlying5
  a5 := Tryd.isAgg5
  z5 := Tryd.sizeOf5
  v5 := Tryd.zeroValue5
  t9 := Tryd.underlying9
  a9 := Tryd.isAgg9
  z9 := Tryd.sizeOf9
  v9 := Tryd.zeroValue9
  t21 := Tryd.underlying21
  a21 := Tryd.isAgg21
  z21 := Tryd.sizeOf21
  v21 := Tryd.zeroValue21
  t46 := Tryd.underlying89
  a46 := Tryd.isAgg89
  z46 := Tryd.sizeOf89
  v46 := Tryd.zeroValue89
  t105 := Tryd.underlying62
  a105 := Tryd.isAgg62
  z105 := Tryd.sizeOf62
  v105 := Tryd.zeroValue62
  t116 := Tryd.underlying72
  a116 := Tryd.isAgg72
  z116 := Tryd.sizeOf72
  t117 := Tryd.underlying73
  a117 := Tryd.isAgg73
  z117 := Tryd.sizeOf73
  v117 := Tryd.zeroValue73
  t119 := Tryd.underlying88
  a119 := Tryd.isAgg88
  z119 := Tryd.sizeOf88
  t124 := Tryd.underlying76
  a124 := Tryd.isAgg76
  z124 := Tryd.sizeOf76
  v124 := Tryd.zeroValue76
  t138 := Tryd.underlying91
  a138 := Tryd.isAgg91
  z138 := Tryd.sizeOf91
  v138 := Tryd.zeroValue91
  t139 := Tryd.underlying92
  a139 := Tryd.isAgg92
  z139 := Tryd.sizeOf92
  v139 := Tryd.zeroValue92
  g3 := by kernel_rfl
  g4 := by kernel_rfl }
end Go.Proofs
