/-
  DERIVED: THE SHELF's CONTRACTS AT THIS DUMP, IN PLAIN WORDS (tools/lay-plain.mjs out of 'TryzShelf.lean', which tools/lay-shelf.mjs wrote): THE SAME DECLARATIONS UNDER THE SAME NAMES: 'import', 'namespace', 'open', 'def', 'theorem' AND NOTHING ELSE: no command of the shelf's: FOR A HAND-IN. Each laying: the table of numbers ('.._ren') and one theorem, a field a fact of the dump's own or the kernel's comparison; each contract: ONE APPLICATION.
-/
import Derived.Test.YtkbgnplknifmhaaGreatDoorProg
import Derived.Ground.SlbvProg
import Derived.Shelf.Bytes.SlTrim
namespace Go.Proofs
open Go.Shelf
def Tryz.lays8_ren : Go.Shelf.Ren := ⟨fun | 8 => 147 | 9 => 154 | 11 => 155 | 12 => 156 | 14 => 157 | 16 => 161 | 17 => 162 | 18 => 163 | 20 => 164 | n => n, fun | 22 => 22 | 9 => 9 | 3 => 3 | 4 => 4 | 5 => 5 | 28 => 224 | 27 => 223 | 0 => 0 | 31 => 227 | 33 => 174 | 21 => 21 | 36 => 203 | 37 => 141 | 40 => 206 | 39 => 205 | n => n, fun | 0 => 9 | 1 => 10 | n => n⟩
theorem Tryz.lays8 : Go.Proofs.SlLaysV.n8 Tryz.prog Tryz.lays8_ren := {
  mixed := by kernel_rfl
  f8 := Tryz.func147.trans (congrArg some (by kernel_rfl))
  f9 := Tryz.func154.trans (congrArg some (by kernel_rfl))
  f11 := Tryz.func155.trans (congrArg some (by kernel_rfl))
  f12 := Tryz.func156.trans (congrArg some (by kernel_rfl))
  f14 := Tryz.func157.trans (congrArg some (by kernel_rfl))
  f16 := Tryz.func161.trans (congrArg some (by kernel_rfl))
  f17 := Tryz.func162.trans (congrArg some (by kernel_rfl))
  f18 := Tryz.func163.trans (congrArg some (by kernel_rfl))
  f20 := Tryz.func164.trans (congrArg some (by kernel_rfl))
  t0 := Tryz.underlying0
  a0 := Tryz.isAgg0
  z0 := Tryz.sizeOf0
  v0 := Tryz.zeroValue0
  t3 := Tryz.underlying3
  a3 := Tryz.isAgg3
  z3 := Tryz.sizeOf3
  v3 := Tryz.zeroValue3
  t4 := Tryz.underlying4
  a4 := Tryz.isAgg4
  z4 := Tryz.sizeOf4
  v4 := Tryz.zeroValue4
  t5 := Tryz.underlying5
  a5 := Tryz.isAgg5
  z5 := Tryz.sizeOf5
  v5 := Tryz.zeroValue5
  t9 := Tryz.underlying9
  a9 := Tryz.isAgg9
  z9 := Tryz.sizeOf9
  v9 := Tryz.zeroValue9
  t21 := Tryz.underlying21
  a21 := Tryz.isAgg21
  z21 := Tryz.sizeOf21
  v21 := Tryz.zeroValue21
  t22 := Tryz.underlying22
  a22 := Tryz.isAgg22
  z22 := Tryz.sizeOf22
  v22 := Tryz.zeroValue22
  t27 := Tryz.underlying223
  a27 := Tryz.isAgg223
  z27 := Tryz.sizeOf223
  t28 := Tryz.underlying224
  a28 := Tryz.isAgg224
  z28 := Tryz.sizeOf224
  v28 := Tryz.zeroValue224
  t31 := Tryz.underlying227
  a31 := Tryz.isAgg227
  z31 := Tryz.sizeOf227
  v31 := Tryz.zeroValue227
  t33 := Tryz.underlying174
  a33 := Tryz.isAgg174
  z33 := Tryz.sizeOf174
  v33 := Tryz.zeroValue174
  t36 := Tryz.underlying203
  a36 := Tryz.isAgg203
  z36 := Tryz.sizeOf203
  t37 := Tryz.underlying141
  a37 := Tryz.isAgg141
  z37 := Tryz.sizeOf141
  v37 := Tryz.zeroValue141
  t39 := Tryz.underlying205
  a39 := Tryz.isAgg205
  z39 := Tryz.sizeOf205
  v39 := Tryz.zeroValue205
  t40 := Tryz.underlying206
  a40 := Tryz.isAgg206
  z40 := Tryz.sizeOf206
  v40 := Tryz.zeroValue206 }
end Go.Proofs
