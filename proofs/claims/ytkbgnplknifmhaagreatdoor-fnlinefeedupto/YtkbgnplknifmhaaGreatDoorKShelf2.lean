/-
  DERIVED: THE SHELF's CONTRACTS AT THIS DUMP, IN PLAIN WORDS (tools/lay-plain.mjs out of 'TryzShelf2.lean', which tools/lay-shelf.mjs wrote): THE SAME DECLARATIONS UNDER THE SAME NAMES: 'import', 'namespace', 'open', 'def', 'theorem' AND NOTHING ELSE: no command of the shelf's: FOR A HAND-IN. Each laying: the table of numbers ('.._ren') and one theorem, a field a fact of the dump's own or the kernel's comparison; each contract: ONE APPLICATION.
-/
import Derived.Shelf.SlGeneric
import Derived.Ground.SlsfProg
import Derived.Shelf.SlSortCmp.WholeK
import Derived.Test.YtkbgnplknifmhaaGreatDoorProg
namespace Go.Proofs
open Go.Shelf
def Tryz.sort6_ren : Go.Shelf.Ren := ⟨fun | 6 => 77 | 15 => 92 | 14 => 91 | 28 => 115 | 29 => 116 | 20 => 107 | 21 => 108 | 22 => 109 | 23 => 110 | 24 => 111 | 25 => 112 | 26 => 113 | 27 => 114 | 46 => 126 | 47 => 127 | 48 => 128 | 49 => 129 | 50 => 130 | 57 => 138 | n => n, fun | 22 => 27 | 24 => 43 | 25 => 120 | 3 => 3 | 39 => 141 | 0 => 0 | 53 => 164 | 55 => 166 | 4 => 4 | 46 => 157 | 45 => 156 | 50 => 161 | 5 => 5 | 9 => 9 | 66 => 180 | 70 => 184 | 76 => 200 | 77 => 201 | n => n, fun | n => n⟩
theorem Tryz.sort6 : Go.Proofs.SlLaysF0.n6 Tryz.prog Tryz.sort6_ren := {
  mixed := by kernel_rfl
  f6 := ⟨Tryz.f77.name, by decide, Tryz.func77.trans (congrArg some (by kernel_rfl))⟩
  f14 := ⟨Tryz.f91.name, by decide, Tryz.func91.trans (congrArg some (by kernel_rfl))⟩
  f15 := Tryz.func92.trans (congrArg some (by kernel_rfl))
  f20 := ⟨Tryz.f107.name, by decide, Tryz.func107.trans (congrArg some (by kernel_rfl))⟩
  f21 := ⟨Tryz.f108.name, by decide, Tryz.func108.trans (congrArg some (by kernel_rfl))⟩
  f22 := ⟨Tryz.f109.name, by decide, Tryz.func109.trans (congrArg some (by kernel_rfl))⟩
  f23 := ⟨Tryz.f110.name, by decide, Tryz.func110.trans (congrArg some (by kernel_rfl))⟩
  f24 := ⟨Tryz.f111.name, by decide, Tryz.func111.trans (congrArg some (by kernel_rfl))⟩
  f25 := ⟨Tryz.f112.name, by decide, Tryz.func112.trans (congrArg some (by kernel_rfl))⟩
  f26 := ⟨Tryz.f113.name, by decide, Tryz.func113.trans (congrArg some (by kernel_rfl))⟩
  f27 := ⟨Tryz.f114.name, by decide, Tryz.func114.trans (congrArg some (by kernel_rfl))⟩
  f28 := Tryz.func115.trans (congrArg some (by kernel_rfl))
  f29 := Tryz.func116.trans (congrArg some (by kernel_rfl))
  f46 := ⟨Tryz.f126.name, by decide, Tryz.func126.trans (congrArg some (by kernel_rfl))⟩
  f47 := Tryz.func127.trans (congrArg some (by kernel_rfl))
  f48 := Tryz.func128.trans (congrArg some (by kernel_rfl))
  f49 := ⟨Tryz.f129.name, by decide, Tryz.func129.trans (congrArg some (by kernel_rfl))⟩
  f50 := ⟨Tryz.f130.name, by decide, Tryz.func130.trans (congrArg some (by kernel_rfl))⟩
  f57 := ⟨Tryz.f138.name, by decide, Tryz.func138.trans (congrArg some (by kernel_rfl))⟩
  t0 := Tryz.underlying0
  a0 := Tryz.isAgg0
  z0 := Tryz.sizeOf0
  v0 := Tryz.zeroValue0
  t3 := Tryz.underlying3
  a3 := Tryz.isAgg3
  z3 := Tryz.sizeOf3
  v3 := Tryz.zeroValue3
  t4 := Tryz.underlying4
  a4 := Tryz.isAgg4
  z4 := Tryz.sizeOf4
  v4 := Tryz.zeroValue4
  t5 := Tryz.underlying5
  a5 := Tryz.isAgg5
  z5 := Tryz.sizeOf5
  v5 := Tryz.zeroValue5
  t9 := Tryz.underlying9
  a9 := Tryz.isAgg9
  z9 := Tryz.sizeOf9
  v9 := Tryz.zeroValue9
  t22 := Tryz.underlying27
  a22 := Tryz.isAgg27
  z22 := Tryz.sizeOf27
  v22 := Tryz.zeroValue27
  t25 := Tryz.underlying120
  a25 := Tryz.isAgg120
  z25 := Tryz.sizeOf120
  v25 := Tryz.zeroValue120
  t39 := Tryz.underlying141
  a39 := Tryz.isAgg141
  z39 := Tryz.sizeOf141
  v39 := Tryz.zeroValue141
  t45 := Tryz.underlying156
  a45 := Tryz.isAgg156
  z45 := Tryz.sizeOf156
  v45 := Tryz.zeroValue156
  t46 := Tryz.underlying157
  a46 := Tryz.isAgg157
  z46 := Tryz.sizeOf157
  v46 := Tryz.zeroValue157
  t50 := Tryz.underlying161
  a50 := Tryz.isAgg161
  z50 := Tryz.sizeOf161
  v50 := Tryz.zeroValue161
  t53 := Tryz.underlying164
  a53 := Tryz.isAgg164
  z53 := Tryz.sizeOf164
  v53 := Tryz.zeroValue164
  t55 := Tryz.underlying166
  a55 := Tryz.isAgg166
  z55 := Tryz.sizeOf166
  v55 := Tryz.zeroValue166
  t66 := Tryz.underlying180
  a66 := Tryz.isAgg180
  z66 := Tryz.sizeOf180
  v66 := Tryz.zeroValue180
  t70 := Tryz.underlying184
  a70 := Tryz.isAgg184
  z70 := Tryz.sizeOf184
  v70 := Tryz.zeroValue184
  t76 := Tryz.underlying200
  a76 := Tryz.isAgg200
  z76 := Tryz.sizeOf200
  v76 := Tryz.zeroValue200
  t77 := Tryz.underlying201
  a77 := Tryz.isAgg201
  z77 := Tryz.sizeOf201
  v77 := Tryz.zeroValue201 }
end Go.Proofs
