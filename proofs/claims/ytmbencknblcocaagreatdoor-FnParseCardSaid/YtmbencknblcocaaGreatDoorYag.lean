/-
  DERIVED: THE SHELF's CONTRACTS AT THIS DUMP, IN PLAIN WORDS (tools/lay-plain.mjs out of 'TryzSj.lean', which tools/lay-shelf.mjs wrote): THE SAME DECLARATIONS UNDER THE SAME NAMES: 'import', 'namespace', 'open', 'def', 'theorem' AND NOTHING ELSE: no command of the shelf's: FOR A HAND-IN. Each laying: the table of numbers ('.._ren') and one theorem, a field a fact of the dump's own or the kernel's comparison; each contract: ONE APPLICATION.
-/
import Derived.Shelf.Spec.BytesTrimFunc
import Derived.Test.YtmbencknblcocaaGreatDoorProg
namespace Go.Proofs
open Go.Shelf
def Tryz.lays42_ren : Go.Shelf.Ren := ⟨fun | 42 => 107 | 43 => 132 | 44 => 131 | 55 => 149 | 56 => 148 | 32 => 92 | 33 => 164 | 49 => 112 | 50 => 176 | n => n, fun | 30 => 42 | 48 => 89 | 4 => 4 | 3 => 3 | 0 => 0 | 5 => 5 | 33 => 98 | 21 => 21 | 66 => 121 | 25 => 138 | 69 => 141 | 68 => 140 | n => n, fun | 2 => 2 | 3 => 3 | n => n⟩
theorem Tryz.lays42 : Go.Proofs.Lays7.n42 Tryz.prog Tryz.lays42_ren := {
  mixed := by kernel_rfl
  f32 := Tryz.func92.trans (congrArg some (by kernel_rfl))
  f33 := Tryz.func164.trans (congrArg some (by kernel_rfl))
  f42 := Tryz.func107.trans (congrArg some (by kernel_rfl))
  f43 := Tryz.func132.trans (congrArg some (by kernel_rfl))
  f44 := Tryz.func131.trans (congrArg some (by kernel_rfl))
  f49 := Tryz.func112.trans (congrArg some (by kernel_rfl))
  f50 := Tryz.func176.trans (congrArg some (by kernel_rfl))
  f55 := Tryz.func149.trans (congrArg some (by kernel_rfl))
  f56 := Tryz.func148.trans (congrArg some (by kernel_rfl))
  t0 := Tryz.underlying0
  a0 := Tryz.isAgg0
  z0 := Tryz.sizeOf0
  v0 := Tryz.zeroValue0
  i0 := by kernel_rfl
  t3 := Tryz.underlying3
  a3 := Tryz.isAgg3
  z3 := Tryz.sizeOf3
  v3 := Tryz.zeroValue3
  i3 := by kernel_rfl
  t4 := Tryz.underlying4
  a4 := Tryz.isAgg4
  z4 := Tryz.sizeOf4
  v4 := Tryz.zeroValue4
  i4 := by kernel_rfl
  t5 := Tryz.underlying5
  a5 := Tryz.isAgg5
  z5 := Tryz.sizeOf5
  v5 := Tryz.zeroValue5
  i5 := by kernel_rfl
  t21 := Tryz.underlying21
  a21 := Tryz.isAgg21
  z21 := Tryz.sizeOf21
  v21 := Tryz.zeroValue21
  i21 := by kernel_rfl
  t25 := Tryz.underlying138
  a25 := Tryz.isAgg138
  z25 := Tryz.sizeOf138
  v25 := Tryz.zeroValue138
  i25 := by kernel_rfl
  t30 := Tryz.underlying42
  a30 := Tryz.isAgg42
  z30 := Tryz.sizeOf42
  v30 := Tryz.zeroValue42
  i30 := by kernel_rfl
  t33 := Tryz.underlying98
  a33 := Tryz.isAgg98
  z33 := Tryz.sizeOf98
  v33 := Tryz.zeroValue98
  i33 := by kernel_rfl
  t48 := Tryz.underlying89
  a48 := Tryz.isAgg89
  z48 := Tryz.sizeOf89
  v48 := Tryz.zeroValue89
  i48 := by kernel_rfl
  t66 := Tryz.underlying121
  a66 := Tryz.isAgg121
  z66 := Tryz.sizeOf121
  t68 := Tryz.underlying140
  a68 := Tryz.isAgg140
  z68 := Tryz.sizeOf140
  v68 := Tryz.zeroValue140
  i68 := by kernel_rfl
  t69 := Tryz.underlying141
  a69 := Tryz.isAgg141
  z69 := Tryz.sizeOf141
  v69 := Tryz.zeroValue141
  i69 := by kernel_rfl
  g2 := by kernel_rfl
  g3 := by kernel_rfl }
end Go.Proofs
