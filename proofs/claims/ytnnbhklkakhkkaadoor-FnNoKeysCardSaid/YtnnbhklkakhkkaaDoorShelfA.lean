/-
  DERIVED: THE SHELF's CONTRACTS AT THIS DUMP, IN PLAIN WORDS (tools/lay-plain.mjs out of 'TrydA.lean', which tools/lay-shelf.mjs wrote): THE SAME DECLARATIONS UNDER THE SAME NAMES: 'import', 'namespace', 'open', 'def', 'theorem' AND NOTHING ELSE: no command of the shelf's: FOR A HAND-IN. Each laying: the table of numbers ('.._ren') and one theorem, a field a fact of the dump's own or the kernel's comparison; each contract: ONE APPLICATION.
-/
import Derived.Shelf.LaysM
import Derived.Ground.GgwProg
import Derived.Shelf.GgClosure.StringsIndexFuncTop
import Derived.Shelf.Unicode.IsSpaceAny
import Derived.Shelf.Strings.FuncGrows
import Derived.Shelf.Unicode.ValidAny
import Derived.Test.YtnnbhklkakhkkaaDoorProg
namespace Go.Proofs
open Go.Shelf
def Tryd.laysGw15_ren : Go.Shelf.Ren := ⟨fun | 15 => 69 | 20 => 87 | n => n, fun | 9 => 9 | 23 => 62 | 3 => 3 | 4 => 4 | 0 => 0 | 21 => 21 | n => n, fun | n => n⟩
theorem Tryd.laysGw15 : Go.Proofs.LaysGw.n15 Tryd.prog Tryd.laysGw15_ren := {
  mixed := by kernel_rfl
  f15 := Tryd.func69.trans (congrArg some (by kernel_rfl))
  f20 := Tryd.func87.trans (congrArg some (by kernel_rfl))
  t0 := Tryd.underlying0
  a0 := Tryd.isAgg0
  z0 := Tryd.sizeOf0
  v0 := Tryd.zeroValue0
  i0 := by kernel_rfl
  t3 := Tryd.underlying3
  a3 := Tryd.isAgg3
  z3 := Tryd.sizeOf3
  v3 := Tryd.zeroValue3
  i3 := by kernel_rfl
  t4 := Tryd.underlying4
  a4 := Tryd.isAgg4
  z4 := Tryd.sizeOf4
  v4 := Tryd.zeroValue4
  i4 := by kernel_rfl
  t9 := Tryd.underlying9
  a9 := Tryd.isAgg9
  z9 := Tryd.sizeOf9
  v9 := Tryd.zeroValue9
  i9 := by kernel_rfl
  t21 := Tryd.underlying21
  a21 := Tryd.isAgg21
  z21 := Tryd.sizeOf21
  v21 := Tryd.zeroValue21
  i21 := by kernel_rfl
  t23 := Tryd.underlying62
  a23 := Tryd.isAgg62
  z23 := Tryd.sizeOf62
  v23 := Tryd.zeroValue62
  i23 := by kernel_rfl }
def Tryd.lays199_ren : Go.Shelf.Ren := ⟨fun | 199 => 70 | 261 => 88 | 311 => 99 | 312 => 100 | n => n, fun | 21 => 21 | 4 => 4 | 51 => 23 | 141 => 176 | 0 => 0 | 196 => 196 | 193 => 193 | 3 => 3 | 198 => 199 | 49 => 197 | 194 => 194 | 201 => 202 | 226 => 205 | 46 => 139 | 227 => 206 | n => n, fun | 6 => 5 | n => n⟩
theorem Tryd.lays199 : Go.Proofs.Lays.n199 Tryd.prog Tryd.lays199_ren := {
  mixed := by kernel_rfl
  f199 := Tryd.func70.trans (congrArg some (by kernel_rfl))
  f261 := Tryd.func88.trans (congrArg some (by kernel_rfl))
  f311 := Tryd.func99.trans (congrArg some (by kernel_rfl))
  f312 := Tryd.func100.trans (congrArg some (by kernel_rfl))
  t0 := Tryd.underlying0
  a0 := Tryd.isAgg0
  z0 := Tryd.sizeOf0
  v0 := Tryd.zeroValue0
  t3 := Tryd.underlying3
  a3 := Tryd.isAgg3
  z3 := Tryd.sizeOf3
  v3 := Tryd.zeroValue3
  t4 := Tryd.underlying4
  a4 := Tryd.isAgg4
  z4 := Tryd.sizeOf4
  v4 := Tryd.zeroValue4
  t21 := Tryd.underlying21
  a21 := Tryd.isAgg21
  z21 := Tryd.sizeOf21
  v21 := Tryd.zeroValue21
  t46 := Tryd.underlying139
  a46 := Tryd.isAgg139
  z46 := Tryd.sizeOf139
  v46 := Tryd.zeroValue139
  t49 := Tryd.underlying197
  a49 := Tryd.isAgg197
  z49 := Tryd.sizeOf197
  v49 := Tryd.zeroValue197
  t51 := Tryd.underlying23
  a51 := Tryd.isAgg23
  z51 := Tryd.sizeOf23
  v51 := Tryd.zeroValue23
  t141 := Tryd.underlying176
  a141 := Tryd.isAgg176
  z141 := Tryd.sizeOf176
  v141 := Tryd.zeroValue176
  t193 := Tryd.underlying193
  a193 := Tryd.isAgg193
  z193 := Tryd.sizeOf193
  v193 := Tryd.zeroValue193
  t194 := Tryd.underlying194
  a194 := Tryd.isAgg194
  z194 := Tryd.sizeOf194
  v194 := Tryd.zeroValue194
  t196 := Tryd.underlying196
  a196 := Tryd.isAgg196
  z196 := Tryd.sizeOf196
  v196 := Tryd.zeroValue196
  t198 := Tryd.underlying199
  a198 := Tryd.isAgg199
  z198 := Tryd.sizeOf199
  v198 := Tryd.zeroValue199
  t201 := Tryd.underlying202
  a201 := Tryd.isAgg202
  z201 := Tryd.sizeOf202
  v201 := Tryd.zeroValue202
  t226 := Tryd.underlying205
  a226 := Tryd.isAgg205
  z226 := Tryd.sizeOf205
  v226 := Tryd.zeroValue205
  t227 := Tryd.underlying206
  a227 := Tryd.isAgg206
  z227 := Tryd.sizeOf206
  v227 := Tryd.zeroValue206
  g6 := by kernel_rfl }
def Tryd.lays196_ren : Go.Shelf.Ren := ⟨fun | 196 => 68 | 259 => 86 | n => n, fun | 9 => 9 | 4 => 4 | 3 => 3 | 5 => 5 | 12 => 12 | 119 => 170 | 0 => 0 | 46 => 139 | 139 => 173 | 138 => 172 | 53 => 183 | n => n, fun | 3 => 3 | 4 => 4 | n => n⟩
theorem Tryd.lays196 : Go.Proofs.Lays.n196 Tryd.prog Tryd.lays196_ren := {
  mixed := by kernel_rfl
  f196 := Tryd.func68.trans (congrArg some (by kernel_rfl))
  f259 := Tryd.func86.trans (congrArg some (by kernel_rfl))
  t0 := Tryd.underlying0
  a0 := Tryd.isAgg0
  z0 := Tryd.sizeOf0
  v0 := Tryd.zeroValue0
  t3 := Tryd.underlying3
  a3 := Tryd.isAgg3
  z3 := Tryd.sizeOf3
  v3 := Tryd.zeroValue3
  t4 := Tryd.underlying4
  a4 := Tryd.isAgg4
  z4 := Tryd.sizeOf4
  v4 := Tryd.zeroValue4
  t5 := Tryd.underlying5
  a5 := Tryd.isAgg5
  z5 := Tryd.sizeOf5
  v5 := Tryd.zeroValue5
  t9 := Tryd.underlying9
  a9 := Tryd.isAgg9
  z9 := Tryd.sizeOf9
  v9 := Tryd.zeroValue9
  t12 := Tryd.underlying12
  a12 := Tryd.isAgg12
  z12 := Tryd.sizeOf12
  v12 := Tryd.zeroValue12
  t46 := Tryd.underlying139
  a46 := Tryd.isAgg139
  z46 := Tryd.sizeOf139
  v46 := Tryd.zeroValue139
  t53 := Tryd.underlying183
  a53 := Tryd.isAgg183
  z53 := Tryd.sizeOf183
  v53 := Tryd.zeroValue183
  t119 := Tryd.underlying170
  a119 := Tryd.isAgg170
  z119 := Tryd.sizeOf170
  t138 := Tryd.underlying172
  a138 := Tryd.isAgg172
  z138 := Tryd.sizeOf172
  v138 := Tryd.zeroValue172
  t139 := Tryd.underlying173
  a139 := Tryd.isAgg173
  z139 := Tryd.sizeOf173
  v139 := Tryd.zeroValue173
  g3 := by kernel_rfl
  g4 := by kernel_rfl }
end Go.Proofs
