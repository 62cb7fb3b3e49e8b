/-
  DERIVED: THE SHELF's CONTRACTS AT THIS DUMP, IN PLAIN WORDS (tools/lay-plain.mjs out of 'TrydD.lean', which tools/lay-shelf.mjs wrote): THE SAME DECLARATIONS UNDER THE SAME NAMES: 'import', 'namespace', 'open', 'def', 'theorem' AND NOTHING ELSE: no command of the shelf's: FOR A HAND-IN. Each laying: the table of numbers ('.._ren') and one theorem, a field a fact of the dump's own or the kernel's comparison; each contract: ONE APPLICATION.
-/
import Derived.Shelf.LaysM
import Derived.Shelf.Bytes.IndexByte
import Derived.Shelf.Bytes.SlSmallAll
import Derived.Shelf.Spec.DecodeRune
import Derived.Test.YtnnbhklkakhkkaaDoorProg
namespace Go.Proofs
open Go.Shelf
def Tryd.lays187_ren : Go.Shelf.Ren := ⟨fun | 187 => 64 | 255 => 84 | n => n, fun | 37 => 68 | 5 => 5 | 3 => 3 | n => n, fun | n => n⟩
theorem Tryd.lays187 : Go.Proofs.Lays.n187 Tryd.prog Tryd.lays187_ren := {
  mixed := by kernel_rfl
  f187 := Tryd.func64.trans (congrArg some (by kernel_rfl))
  f255 := Tryd.func84.trans (congrArg some (by kernel_rfl))
  t3 := Tryd.underlying3
  a3 := Tryd.isAgg3
  z3 := Tryd.sizeOf3
  v3 := Tryd.zeroValue3
  t5 := Tryd.underlying5
  a5 := Tryd.isAgg5
  z5 := Tryd.sizeOf5
  v5 := Tryd.zeroValue5
  t37 := Tryd.underlying68
  a37 := Tryd.isAgg68
  z37 := Tryd.sizeOf68
  v37 := Tryd.zeroValue68 }
def Tryd.laysb116_ren : Go.Shelf.Ren := ⟨fun | 116 => 65 | 115 => 82 | n => n, fun | 37 => 68 | 4 => 4 | 3 => 3 | 9 => 9 | 5 => 5 | n => n, fun | n => n⟩
theorem Tryd.laysb116 : Go.Proofs.Lays.nb116 Tryd.prog Tryd.laysb116_ren := {
  mixed := by kernel_rfl
  f115 := Tryd.func82.trans (congrArg some (by kernel_rfl))
  f116 := Tryd.func65.trans (congrArg some (by kernel_rfl))
  t3 := Tryd.underlying3
  a3 := Tryd.isAgg3
  z3 := Tryd.sizeOf3
  v3 := Tryd.zeroValue3
  t4 := Tryd.underlying4
  a4 := Tryd.isAgg4
  z4 := Tryd.sizeOf4
  v4 := Tryd.zeroValue4
  t9 := Tryd.underlying9
  a9 := Tryd.isAgg9
  z9 := Tryd.sizeOf9
  v9 := Tryd.zeroValue9
  t37 := Tryd.underlying68
  a37 := Tryd.isAgg68
  z37 := Tryd.sizeOf68
  v37 := Tryd.zeroValue68
  t5 := Tryd.underlying5
  a5 := Tryd.isAgg5
  z5 := Tryd.sizeOf5
  v5 := Tryd.zeroValue5 }
def Tryd.lays7n32_ren : Go.Shelf.Ren := ⟨fun | 32 => 62 | 49 => 80 | n => n, fun | 30 => 68 | 21 => 21 | 3 => 3 | 0 => 0 | 5 => 5 | 4 => 4 | 33 => 141 | 66 => 170 | 25 => 139 | 69 => 173 | 68 => 172 | n => n, fun | 2 => 3 | 3 => 4 | n => n⟩
theorem Tryd.lays7n32 : Go.Proofs.Lays7.n32 Tryd.prog Tryd.lays7n32_ren := {
  mixed := by kernel_rfl
  f32 := Tryd.func62.trans (congrArg some (by kernel_rfl))
  f49 := Tryd.func80.trans (congrArg some (by kernel_rfl))
  t0 := Tryd.underlying0
  a0 := Tryd.isAgg0
  z0 := Tryd.sizeOf0
  v0 := Tryd.zeroValue0
  i0 := by kernel_rfl
  t3 := Tryd.underlying3
  a3 := Tryd.isAgg3
  z3 := Tryd.sizeOf3
  v3 := Tryd.zeroValue3
  i3 := by kernel_rfl
  t4 := Tryd.underlying4
  a4 := Tryd.isAgg4
  z4 := Tryd.sizeOf4
  v4 := Tryd.zeroValue4
  i4 := by kernel_rfl
  t5 := Tryd.underlying5
  a5 := Tryd.isAgg5
  z5 := Tryd.sizeOf5
  v5 := Tryd.zeroValue5
  i5 := by kernel_rfl
  t21 := Tryd.underlying21
  a21 := Tryd.isAgg21
  z21 := Tryd.sizeOf21
  v21 := Tryd.zeroValue21
  i21 := by kernel_rfl
  t25 := Tryd.underlying139
  a25 := Tryd.isAgg139
  z25 := Tryd.sizeOf139
  v25 := Tryd.zeroValue139
  i25 := by kernel_rfl
  t30 := Tryd.underlying68
  a30 := Tryd.isAgg68
  z30 := Tryd.sizeOf68
  v30 := Tryd.zeroValue68
  i30 := by kernel_rfl
  t33 := Tryd.underlying141
  a33 := Tryd.isAgg141
  z33 := Tryd.sizeOf141
  v33 := Tryd.zeroValue141
  i33 := by kernel_rfl
  t66 := Tryd.underlying170
  a66 := Tryd.isAgg170
  z66 := Tryd.sizeOf170
  t68 := Tryd.underlying172
  a68 := Tryd.isAgg172
  z68 := Tryd.sizeOf172
  v68 := Tryd.zeroValue172
  i68 := by kernel_rfl
  t69 := Tryd.underlying173
  a69 := Tryd.isAgg173
  z69 := Tryd.sizeOf173
  v69 := Tryd.zeroValue173
  i69 := by kernel_rfl
  g2 := by kernel_rfl
  g3 := by kernel_rfl }
end Go.Proofs
