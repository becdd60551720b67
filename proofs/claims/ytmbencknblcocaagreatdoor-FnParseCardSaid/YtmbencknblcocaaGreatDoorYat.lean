/-
  DERIVED: THE SHELF's CONTRACTS AT THIS DUMP, IN PLAIN WORDS (tools/lay-plain.mjs out of 'TryzSk.lean', which tools/lay-shelf.mjs wrote): THE SAME DECLARATIONS UNDER THE SAME NAMES: 'import', 'namespace', 'open', 'def', 'theorem' AND NOTHING ELSE: no command of the shelf's: FOR A HAND-IN. Each laying: the table of numbers ('.._ren') and one theorem, a field a fact of the dump's own or the kernel's comparison; each contract: ONE APPLICATION.
-/
import Derived.Shelf.Bytes.WriteAny
import Derived.Test.YtmbencknblcocaaGreatDoorProg
namespace Go.Proofs
open Go.Shelf
def Tryz.lays180_ren : Go.Shelf.Ren := ⟨fun | 180 => 105 | 251 => 129 | 252 => 130 | 181 => 145 | 184 => 146 | 290 => 147 | 324 => 163 | n => n, fun | 130 => 132 | 37 => 42 | 3 => 3 | 75 => 53 | 0 => 0 | 93 => 117 | 91 => 115 | 131 => 133 | 4 => 4 | 20 => 20 | 5 => 5 | 80 => 166 | 9 => 9 | n => n, fun | 14 => 4 | n => n⟩
theorem Tryz.lays180 : Go.Proofs.LaysM.n180 Tryz.prog Tryz.lays180_ren := {
  mixed := by kernel_rfl
  f180 := Tryz.func105.trans (congrArg some (by kernel_rfl))
  f181 := Tryz.func145.trans (congrArg some (by kernel_rfl))
  f184 := Tryz.func146.trans (congrArg some (by kernel_rfl))
  f251 := Tryz.func129.trans (congrArg some (by kernel_rfl))
  f252 := Tryz.func130.trans (congrArg some (by kernel_rfl))
  f290 := Tryz.func147.trans (congrArg some (by kernel_rfl))
  f324 := Tryz.func163.trans (congrArg some (by kernel_rfl))
  t0 := Tryz.underlying0
  a0 := Tryz.isAgg0
  z0 := Tryz.sizeOf0
  v0 := Tryz.zeroValue0
  t3 := Tryz.underlying3
  a3 := Tryz.isAgg3
  z3 := Tryz.sizeOf3
  v3 := Tryz.zeroValue3
  t4 := Tryz.underlying4
  a4 := Tryz.isAgg4
  z4 := Tryz.sizeOf4
  v4 := Tryz.zeroValue4
  t20 := Tryz.underlying20
  a20 := Tryz.isAgg20
  z20 := Tryz.sizeOf20
  v20 := Tryz.zeroValue20
  t37 := Tryz.underlying42
  a37 := Tryz.isAgg42
  z37 := Tryz.sizeOf42
  v37 := Tryz.zeroValue42
  t75 := Tryz.underlying53
  a75 := Tryz.isAgg53
  z75 := Tryz.sizeOf53
  v75 := Tryz.zeroValue53
  t91 := Tryz.underlying115
  a91 := Tryz.isAgg115
  z91 := Tryz.sizeOf115
  v91 := Tryz.zeroValue115
  t93 := Tryz.underlying117
  a93 := Tryz.isAgg117
  z93 := Tryz.sizeOf117
  v93 := Tryz.zeroValue117
  t130 := Tryz.underlying132
  a130 := Tryz.isAgg132
  z130 := Tryz.sizeOf132
  v130 := Tryz.zeroValue132
  t131 := Tryz.underlying133
  a131 := Tryz.isAgg133
  z131 := Tryz.sizeOf133
  v131 := Tryz.zeroValue133
  g14 := by kernel_rfl
  t5 := Tryz.underlying5
  a5 := Tryz.isAgg5
  z5 := Tryz.sizeOf5
  v5 := Tryz.zeroValue5
  t9 := Tryz.underlying9
  a9 := Tryz.isAgg9
  z9 := Tryz.sizeOf9
  v9 := Tryz.zeroValue9
  t80 := Tryz.underlying166
  a80 := Tryz.isAgg166
  z80 := Tryz.sizeOf166
  v80 := Tryz.zeroValue166
  i0 := by kernel_rfl
  i3 := by kernel_rfl
  i4 := by kernel_rfl
  i5 := by kernel_rfl
  i9 := by kernel_rfl
  i20 := by kernel_rfl
  i37 := by kernel_rfl
  i75 := by kernel_rfl
  i80 := by kernel_rfl
  i91 := by kernel_rfl
  i93 := by kernel_rfl
  i130 := by kernel_rfl
  i131 := by kernel_rfl
  m14 := by kernel_rfl }
end Go.Proofs
