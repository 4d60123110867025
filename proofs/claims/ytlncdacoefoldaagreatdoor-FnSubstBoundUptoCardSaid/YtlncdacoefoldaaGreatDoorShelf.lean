/-
  DERIVED: THE SHELF's CONTRACTS AT THIS DUMP, IN PLAIN WORDS (tools/lay-plain.mjs out of 'TryzShelf.lean', which tools/lay-shelf.mjs wrote): THE SAME DECLARATIONS UNDER THE SAME NAMES: 'import', 'namespace', 'open', 'def', 'theorem' AND NOTHING ELSE: no command of the shelf's: FOR A HAND-IN. Each laying: the table of numbers ('.._ren') and one theorem, a field a fact of the dump's own or the kernel's comparison; each contract: ONE APPLICATION.
-/
import Derived.Shelf.Small.Bits
import Derived.Shelf.Strconv.Itoa0
import Derived.Ground.GgsProg
import Derived.Shelf.GgSortFunc.Insertion
import Derived.Shelf.GgSortFunc.Small
import Derived.Shelf.GgSortFunc.InsertionK
import Derived.Shelf.GgSortFunc.SmallK
import Derived.Shelf.GgSortFunc.Tiny
import Derived.Shelf.GgSortFunc.Compose
import Derived.Shelf.GgSortFunc.LotD
import Derived.Shelf.GgSortFunc.Pivot
import Derived.Shelf.GgSortFunc.Partition
import Derived.Shelf.GgSortFunc.Pdq
import Derived.Shelf.GgSortFunc.Whole
import Derived.Shelf.SlSortFunc.Xorshift
import Derived.Shelf.SlSortFuncK.ComposeK
import Derived.Shelf.SlSortFuncK.SiftDownK
import Derived.Shelf.SlSortFuncK.HeapSortK
import Derived.Shelf.SlSortFuncK.PartialInsertionK
import Derived.Shelf.SlSortFuncK.LotDK
import Derived.Shelf.SlSortFuncK.PivotK
import Derived.Shelf.SlSortFuncK.PartitionK
import Derived.Shelf.SlSortFunc.SiftDown
import Derived.Shelf.SlSortFunc.HeapSort
import Derived.Shelf.SlSortFunc.PartialInsertion
import Derived.Shelf.SlSortFuncK.PdqK
import Derived.Shelf.SlSortFuncK.WholeK
import Derived.Test.YtlncdacoefoldaaGreatDoorProg
namespace Go.Proofs
open Go.Shelf
def Tryz.laysGg6_ren : Go.Shelf.Ren := ⟨fun | 6 => 45 | 10 => 58 | 11 => 59 | 12 => 60 | 13 => 61 | 14 => 62 | 24 => 82 | 25 => 83 | 26 => 84 | 27 => 85 | 28 => 86 | 29 => 87 | 30 => 88 | 31 => 89 | 32 => 90 | 33 => 91 | 34 => 107 | 35 => 108 | 36 => 109 | 37 => 110 | 38 => 111 | 39 => 117 | n => n, fun | 20 => 20 | 26 => 88 | 35 => 108 | 0 => 0 | 37 => 110 | 3 => 3 | 41 => 114 | 44 => 117 | 49 => 144 | 51 => 146 | 4 => 4 | 54 => 149 | 53 => 148 | 58 => 91 | 5 => 5 | 9 => 9 | 60 => 181 | 64 => 185 | 66 => 193 | 67 => 194 | 17 => 17 | 32 => 105 | 33 => 106 | 82 => 219 | 12 => 12 | 75 => 213 | 76 => 130 | 77 => 214 | 78 => 215 | 79 => 216 | 80 => 217 | n => n, fun | n => n⟩
theorem Tryz.laysGg6 : Go.Proofs.LaysGg.n6 Tryz.prog Tryz.laysGg6_ren := {
  mixed := by kernel_rfl
  f6 := Tryz.func45.trans (congrArg some (by kernel_rfl))
  f10 := Tryz.func58.trans (congrArg some (by kernel_rfl))
  f11 := Tryz.func59.trans (congrArg some (by kernel_rfl))
  f12 := Tryz.func60.trans (congrArg some (by kernel_rfl))
  f13 := Tryz.func61.trans (congrArg some (by kernel_rfl))
  f14 := Tryz.func62.trans (congrArg some (by kernel_rfl))
  f24 := Tryz.func82.trans (congrArg some (by kernel_rfl))
  f25 := Tryz.func83.trans (congrArg some (by kernel_rfl))
  f26 := Tryz.func84.trans (congrArg some (by kernel_rfl))
  f27 := Tryz.func85.trans (congrArg some (by kernel_rfl))
  f28 := Tryz.func86.trans (congrArg some (by kernel_rfl))
  f29 := Tryz.func87.trans (congrArg some (by kernel_rfl))
  f30 := Tryz.func88.trans (congrArg some (by kernel_rfl))
  f31 := Tryz.func89.trans (congrArg some (by kernel_rfl))
  f32 := Tryz.func90.trans (congrArg some (by kernel_rfl))
  f33 := Tryz.func91.trans (congrArg some (by kernel_rfl))
  f34 := Tryz.func107.trans (congrArg some (by kernel_rfl))
  f35 := Tryz.func108.trans (congrArg some (by kernel_rfl))
  f36 := Tryz.func109.trans (congrArg some (by kernel_rfl))
  f37 := Tryz.func110.trans (congrArg some (by kernel_rfl))
  f38 := Tryz.func111.trans (congrArg some (by kernel_rfl))
  f39 := Tryz.func117.trans (congrArg some (by kernel_rfl))
  t0 := Tryz.underlying0
  a0 := Tryz.isAgg0
  z0 := Tryz.sizeOf0
  v0 := Tryz.zeroValue0
  i0 := by kernel_rfl
  t3 := Tryz.underlying3
  a3 := Tryz.isAgg3
  z3 := Tryz.sizeOf3
  v3 := Tryz.zeroValue3
  i3 := by kernel_rfl
  t4 := Tryz.underlying4
  a4 := Tryz.isAgg4
  z4 := Tryz.sizeOf4
  v4 := Tryz.zeroValue4
  i4 := by kernel_rfl
  t5 := Tryz.underlying5
  a5 := Tryz.isAgg5
  z5 := Tryz.sizeOf5
  v5 := Tryz.zeroValue5
  i5 := by kernel_rfl
  t9 := Tryz.underlying9
  a9 := Tryz.isAgg9
  z9 := Tryz.sizeOf9
  v9 := Tryz.zeroValue9
  i9 := by kernel_rfl
  t12 := Tryz.underlying12
  a12 := Tryz.isAgg12
  z12 := Tryz.sizeOf12
  v12 := Tryz.zeroValue12
  i12 := by kernel_rfl
  t17 := Tryz.underlying17
  a17 := Tryz.isAgg17
  z17 := Tryz.sizeOf17
  v17 := Tryz.zeroValue17
  i17 := by kernel_rfl
  t20 := Tryz.underlying20
  a20 := Tryz.isAgg20
  z20 := Tryz.sizeOf20
  v20 := Tryz.zeroValue20
  i20 := by kernel_rfl
  t26 := Tryz.underlying88
  a26 := Tryz.isAgg88
  z26 := Tryz.sizeOf88
  v26 := Tryz.zeroValue88
  i26 := by kernel_rfl
  t32 := Tryz.underlying105
  a32 := Tryz.isAgg105
  z32 := Tryz.sizeOf105
  v32 := Tryz.zeroValue105
  i32 := by kernel_rfl
  t33 := Tryz.underlying106
  a33 := Tryz.isAgg106
  z33 := Tryz.sizeOf106
  v33 := Tryz.zeroValue106
  i33 := by kernel_rfl
  t35 := Tryz.underlying108
  a35 := Tryz.isAgg108
  z35 := Tryz.sizeOf108
  v35 := Tryz.zeroValue108
  i35 := by kernel_rfl
  t37 := Tryz.underlying110
  a37 := Tryz.isAgg110
  z37 := Tryz.sizeOf110
  v37 := Tryz.zeroValue110
  i37 := by kernel_rfl
  t41 := Tryz.underlying114
  a41 := Tryz.isAgg114
  z41 := Tryz.sizeOf114
  v41 := Tryz.zeroValue114
  i41 := by kernel_rfl
  t44 := Tryz.underlying117
  a44 := Tryz.isAgg117
  z44 := Tryz.sizeOf117
  v44 := Tryz.zeroValue117
  i44 := by kernel_rfl
  t49 := Tryz.underlying144
  a49 := Tryz.isAgg144
  z49 := Tryz.sizeOf144
  v49 := Tryz.zeroValue144
  i49 := by kernel_rfl
  t51 := Tryz.underlying146
  a51 := Tryz.isAgg146
  z51 := Tryz.sizeOf146
  v51 := Tryz.zeroValue146
  i51 := by kernel_rfl
  t53 := Tryz.underlying148
  a53 := Tryz.isAgg148
  z53 := Tryz.sizeOf148
  v53 := Tryz.zeroValue148
  i53 := by kernel_rfl
  t54 := Tryz.underlying149
  a54 := Tryz.isAgg149
  z54 := Tryz.sizeOf149
  v54 := Tryz.zeroValue149
  i54 := by kernel_rfl
  t58 := Tryz.underlying91
  a58 := Tryz.isAgg91
  z58 := Tryz.sizeOf91
  v58 := Tryz.zeroValue91
  i58 := by kernel_rfl
  t60 := Tryz.underlying181
  a60 := Tryz.isAgg181
  z60 := Tryz.sizeOf181
  v60 := Tryz.zeroValue181
  i60 := by kernel_rfl
  t64 := Tryz.underlying185
  a64 := Tryz.isAgg185
  z64 := Tryz.sizeOf185
  v64 := Tryz.zeroValue185
  i64 := by kernel_rfl
  t66 := Tryz.underlying193
  a66 := Tryz.isAgg193
  z66 := Tryz.sizeOf193
  v66 := Tryz.zeroValue193
  i66 := by kernel_rfl
  t67 := Tryz.underlying194
  a67 := Tryz.isAgg194
  z67 := Tryz.sizeOf194
  v67 := Tryz.zeroValue194
  i67 := by kernel_rfl
  t75 := Tryz.underlying213
  a75 := Tryz.isAgg213
  z75 := Tryz.sizeOf213
  v75 := Tryz.zeroValue213
  i75 := by kernel_rfl
  t76 := Tryz.underlying130
  a76 := Tryz.isAgg130
  z76 := Tryz.sizeOf130
  v76 := Tryz.zeroValue130
  i76 := by kernel_rfl
  t77 := Tryz.underlying214
  a77 := Tryz.isAgg214
  z77 := Tryz.sizeOf214
  v77 := Tryz.zeroValue214
  i77 := by kernel_rfl
  t78 := Tryz.underlying215
  a78 := Tryz.isAgg215
  z78 := Tryz.sizeOf215
  v78 := Tryz.zeroValue215
  i78 := by kernel_rfl
  t79 := Tryz.underlying216
  a79 := Tryz.isAgg216
  z79 := Tryz.sizeOf216
  v79 := Tryz.zeroValue216
  i79 := by kernel_rfl
  t80 := Tryz.underlying217
  a80 := Tryz.isAgg217
  z80 := Tryz.sizeOf217
  v80 := Tryz.zeroValue217
  i80 := by kernel_rfl
  t82 := Tryz.underlying219
  a82 := Tryz.isAgg219
  z82 := Tryz.sizeOf219
  v82 := Tryz.zeroValue219
  i82 := by kernel_rfl }
end Go.Proofs
