/-
  The shelf's contracts laid at this program, in plain words: written by the kit's lay-plain.mjs; one option row added.
-/
import Derived.Shelf.Sort.Plain
import Derived.Shelf.Slices.Turned
import Derived.Shelf.Slices.Equal
import Derived.Ground.Names2Prog
import Derived.Shelf.Slices.Clone
import Derived.Shelf.Slices.In.SortNone
import Derived.Ground.SlgnProg
import Derived.Shelf.SlicesE.Equal
import Derived.Shelf.SlicesE.Clone
import Derived.Test.YbulkqpuProg
set_option maxRecDepth 100000
namespace Go.Proofs
open Go.Shelf
def Yba.lays189_ren : Go.Shelf.Ren := ⟨fun | 189 => 11 | 125 => 14 | 257 => 13 | 128 => 24 | 129 => 25 | 294 => 15 | 295 => 16 | 296 => 17 | 297 => 18 | 298 => 19 | 299 => 20 | 216 => 21 | 300 => 22 | 301 => 23 | 328 => 26 | 329 => 27 | 330 => 28 | 331 => 29 | 332 => 30 | 215 => 31 | 343 => 32 | n => n, fun | 28 => 32 | 3 => 3 | 46 => 24 | 0 => 0 | 51 => 59 | 53 => 61 | 4 => 4 | 183 => 51 | 182 => 50 | 131 => 56 | 5 => 5 | 9 => 9 | 218 => 62 | 222 => 66 | 228 => 69 | 229 => 70 | n => n, fun | n => n⟩
theorem Yba.lays189 : Go.Proofs.Lays.n189 Yba.prog Yba.lays189_ren := {
  mixed := by kernel_rfl
  f125 := Yba.func14.trans (congrArg some (by kernel_rfl))
  f128 := Yba.func24.trans (congrArg some (by kernel_rfl))
  f129 := Yba.func25.trans (congrArg some (by kernel_rfl))
  f189 := Yba.func11.trans (congrArg some (by kernel_rfl))
  f215 := Yba.func31.trans (congrArg some (by kernel_rfl))
  f216 := Yba.func21.trans (congrArg some (by kernel_rfl))
  f257 := Yba.func13.trans (congrArg some (by kernel_rfl))
  f294 := Yba.func15.trans (congrArg some (by kernel_rfl))
  f295 := Yba.func16.trans (congrArg some (by kernel_rfl))
  f296 := Yba.func17.trans (congrArg some (by kernel_rfl))
  f297 := Yba.func18.trans (congrArg some (by kernel_rfl))
  f298 := Yba.func19.trans (congrArg some (by kernel_rfl))
  f299 := Yba.func20.trans (congrArg some (by kernel_rfl))
  f300 := Yba.func22.trans (congrArg some (by kernel_rfl))
  f301 := Yba.func23.trans (congrArg some (by kernel_rfl))
  f328 := Yba.func26.trans (congrArg some (by kernel_rfl))
  f329 := Yba.func27.trans (congrArg some (by kernel_rfl))
  f330 := Yba.func28.trans (congrArg some (by kernel_rfl))
  f331 := Yba.func29.trans (congrArg some (by kernel_rfl))
  f332 := Yba.func30.trans (congrArg some (by kernel_rfl))
  f343 := Yba.func32.trans (congrArg some (by kernel_rfl))
  t0 := Yba.underlying0
  a0 := Yba.isAgg0
  z0 := Yba.sizeOf0
  v0 := Yba.zeroValue0
  t3 := Yba.underlying3
  a3 := Yba.isAgg3
  z3 := Yba.sizeOf3
  v3 := Yba.zeroValue3
  t4 := Yba.underlying4
  a4 := Yba.isAgg4
  z4 := Yba.sizeOf4
  v4 := Yba.zeroValue4
  t5 := Yba.underlying5
  a5 := Yba.isAgg5
  z5 := Yba.sizeOf5
  v5 := Yba.zeroValue5
  t9 := Yba.underlying9
  a9 := Yba.isAgg9
  z9 := Yba.sizeOf9
  v9 := Yba.zeroValue9
  t28 := Yba.underlying32
  a28 := Yba.isAgg32
  z28 := Yba.sizeOf32
  v28 := Yba.zeroValue32
  t46 := Yba.underlying24
  a46 := Yba.isAgg24
  z46 := Yba.sizeOf24
  v46 := Yba.zeroValue24
  t51 := Yba.underlying59
  a51 := Yba.isAgg59
  z51 := Yba.sizeOf59
  v51 := Yba.zeroValue59
  t53 := Yba.underlying61
  a53 := Yba.isAgg61
  z53 := Yba.sizeOf61
  v53 := Yba.zeroValue61
  t131 := Yba.underlying56
  a131 := Yba.isAgg56
  z131 := Yba.sizeOf56
  v131 := Yba.zeroValue56
  t182 := Yba.underlying50
  a182 := Yba.isAgg50
  z182 := Yba.sizeOf50
  v182 := Yba.zeroValue50
  t183 := Yba.underlying51
  a183 := Yba.isAgg51
  z183 := Yba.sizeOf51
  v183 := Yba.zeroValue51
  t218 := Yba.underlying62
  a218 := Yba.isAgg62
  z218 := Yba.sizeOf62
  v218 := Yba.zeroValue62
  t222 := Yba.underlying66
  a222 := Yba.isAgg66
  z222 := Yba.sizeOf66
  v222 := Yba.zeroValue66
  t228 := Yba.underlying69
  a228 := Yba.isAgg69
  z228 := Yba.sizeOf69
  v228 := Yba.zeroValue69
  t229 := Yba.underlying70
  a229 := Yba.isAgg70
  z229 := Yba.sizeOf70
  v229 := Yba.zeroValue70 }
def Yba.lays108_ren : Go.Shelf.Ren := ⟨fun | 108 => 12 | n => n, fun | 28 => 32 | 3 => 3 | 0 => 0 | 4 => 4 | n => n, fun | n => n⟩
theorem Yba.lays108 : Go.Proofs.Lays.n108 Yba.prog Yba.lays108_ren := {
  mixed := by kernel_rfl
  f108 := Yba.func12.trans (congrArg some (by kernel_rfl))
  t0 := Yba.underlying0
  a0 := Yba.isAgg0
  z0 := Yba.sizeOf0
  v0 := Yba.zeroValue0
  t3 := Yba.underlying3
  a3 := Yba.isAgg3
  z3 := Yba.sizeOf3
  v3 := Yba.zeroValue3
  t4 := Yba.underlying4
  a4 := Yba.isAgg4
  z4 := Yba.sizeOf4
  v4 := Yba.zeroValue4
  t28 := Yba.underlying32
  a28 := Yba.isAgg32
  z28 := Yba.sizeOf32
  v28 := Yba.zeroValue32 }
def Yba.lays111_ren : Go.Shelf.Ren := ⟨fun | 111 => 10 | n => n, fun | 28 => 32 | 3 => 3 | 4 => 4 | 0 => 0 | n => n, fun | n => n⟩
theorem Yba.lays111 : Go.Proofs.Lays.n111 Yba.prog Yba.lays111_ren := {
  mixed := by kernel_rfl
  f111 := Yba.func10.trans (congrArg some (by kernel_rfl))
  t0 := Yba.underlying0
  a0 := Yba.isAgg0
  z0 := Yba.sizeOf0
  v0 := Yba.zeroValue0
  t3 := Yba.underlying3
  a3 := Yba.isAgg3
  z3 := Yba.sizeOf3
  v3 := Yba.zeroValue3
  t4 := Yba.underlying4
  a4 := Yba.isAgg4
  z4 := Yba.sizeOf4
  v4 := Yba.zeroValue4
  t28 := Yba.underlying32
  a28 := Yba.isAgg32
  z28 := Yba.sizeOf32
  v28 := Yba.zeroValue32 }
def Yba.laysNm215_ren : Go.Shelf.Ren := ⟨fun | 15 => 5 | n => n, fun | 22 => 32 | 3 => 3 | 4 => 4 | n => n, fun | n => n⟩
theorem Yba.laysNm215 : Go.Proofs.Lays2.n15 Yba.prog Yba.laysNm215_ren := {
  mixed := by kernel_rfl
  f15 := Yba.func5.trans (congrArg some (by kernel_rfl))
  t3 := Yba.underlying3
  a3 := Yba.isAgg3
  z3 := Yba.sizeOf3
  v3 := Yba.zeroValue3
  t4 := Yba.underlying4
  a4 := Yba.isAgg4
  z4 := Yba.sizeOf4
  v4 := Yba.zeroValue4
  t22 := Yba.underlying32
  a22 := Yba.isAgg32
  z22 := Yba.sizeOf32
  v22 := Yba.zeroValue32
  i3 := by kernel_rfl }
def Yba.laysSlE041_f6_ren : Go.Shelf.Ren := ⟨fun | 41 => 6 | n => n, fun | 22 => 22 | 23 => 5 | 4 => 4 | n => n, fun | n => n⟩
theorem Yba.laysSlE041_f6 : Go.Proofs.SlLaysE0.n41 Yba.prog Yba.laysSlE041_f6_ren := {
  mixed := by kernel_rfl
  f41 := ⟨Yba.f6.name, by decide, Yba.func6.trans (congrArg some (by kernel_rfl))⟩
  t4 := Yba.underlying4
  a4 := Yba.isAgg4
  z4 := Yba.sizeOf4
  v4 := Yba.zeroValue4
  t22 := Yba.underlying22
  a22 := Yba.isAgg22
  z22 := Yba.sizeOf22
  v22 := Yba.zeroValue22 }
def Yba.laysSlE041_f4_ren : Go.Shelf.Ren := ⟨fun | 41 => 4 | n => n, fun | 22 => 26 | 23 => 29 | 4 => 4 | n => n, fun | n => n⟩
theorem Yba.laysSlE041_f4 : Go.Proofs.SlLaysE0.n41 Yba.prog Yba.laysSlE041_f4_ren := {
  mixed := by kernel_rfl
  f41 := ⟨Yba.f4.name, by decide, Yba.func4.trans (congrArg some (by kernel_rfl))⟩
  t4 := Yba.underlying4
  a4 := Yba.isAgg4
  z4 := Yba.sizeOf4
  v4 := Yba.zeroValue4
  t22 := Yba.underlying26
  a22 := Yba.isAgg26
  z22 := Yba.sizeOf26
  v22 := Yba.zeroValue26 }
def Yba.laysSlE33_f8_ren : Go.Shelf.Ren := ⟨fun | 33 => 8 | n => n, fun | 22 => 26 | 23 => 29 | 4 => 4 | 3 => 3 | 0 => 0 | n => n, fun | n => n⟩
theorem Yba.laysSlE33_f8 : Go.Proofs.SlLaysE.n33 Yba.prog Yba.laysSlE33_f8_ren := {
  mixed := by kernel_rfl
  f33 := ⟨Yba.f8.name, by decide, Yba.func8.trans (congrArg some (by kernel_rfl))⟩
  t0 := Yba.underlying0
  a0 := Yba.isAgg0
  z0 := Yba.sizeOf0
  v0 := Yba.zeroValue0
  t3 := Yba.underlying3
  a3 := Yba.isAgg3
  z3 := Yba.sizeOf3
  v3 := Yba.zeroValue3
  t4 := Yba.underlying4
  a4 := Yba.isAgg4
  z4 := Yba.sizeOf4
  v4 := Yba.zeroValue4
  t22 := Yba.underlying26
  a22 := Yba.isAgg26
  z22 := Yba.sizeOf26
  v22 := Yba.zeroValue26
  a23 := Yba.isAgg29
  z23 := Yba.sizeOf29 }
end Go.Proofs
