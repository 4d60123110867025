/-
  DERIVED: THE SHELF's CONTRACTS AT THIS DUMP, IN PLAIN WORDS (tools/lay-plain.mjs out of 'TryShelf.lean', which tools/lay-shelf.mjs wrote): THE SAME DECLARATIONS UNDER THE SAME NAMES: 'import', 'namespace', 'open', 'def', 'theorem' AND NOTHING ELSE: no command of the shelf's: FOR A HAND-IN. Each laying: the table of numbers ('.._ren') and one theorem, a field a fact of the dump's own or the kernel's comparison; each contract: ONE APPLICATION.
-/
import Derived.Shelf.Strings.Builder1
import Derived.Shelf.Strings.Builder2
import Derived.Shelf.Strings.OnBuilder
import Derived.Shelf.Small.Bits
import Derived.Shelf.Strconv.Itoa0
import Derived.Shelf.Sort.Plain
import Derived.Shelf.Slices.In.SortNone
import Derived.Shelf.Slices.In.SortNone2
import Derived.Test.YtadcdjiahekkgaaProg
namespace Go.Proofs
open Go.Shelf
def Try.lays156_ren : Go.Shelf.Ren := ⟨fun | 156 => 58 | 165 => 62 | 166 => 63 | 169 => 64 | 240 => 67 | 241 => 68 | 276 => 70 | 277 => 71 | n => n, fun | 31 => 25 | 9 => 9 | 3 => 3 | 4 => 4 | 0 => 0 | 20 => 20 | 72 => 88 | 76 => 90 | 70 => 86 | 37 => 70 | 75 => 52 | 127 => 95 | 164 => 96 | 5 => 5 | 80 => 92 | n => n, fun | n => n⟩
theorem Try.lays156 : Go.Proofs.Lays.n156 Try.prog Try.lays156_ren := {
  mixed := by kernel_rfl
  f156 := Try.func58.trans (congrArg some (by kernel_rfl))
  f165 := Try.func62.trans (congrArg some (by kernel_rfl))
  f166 := Try.func63.trans (congrArg some (by kernel_rfl))
  f169 := Try.func64.trans (congrArg some (by kernel_rfl))
  f240 := Try.func67.trans (congrArg some (by kernel_rfl))
  f241 := Try.func68.trans (congrArg some (by kernel_rfl))
  f276 := Try.func70.trans (congrArg some (by kernel_rfl))
  f277 := Try.func71.trans (congrArg some (by kernel_rfl))
  t0 := Try.underlying0
  a0 := Try.isAgg0
  z0 := Try.sizeOf0
  v0 := Try.zeroValue0
  t3 := Try.underlying3
  a3 := Try.isAgg3
  z3 := Try.sizeOf3
  v3 := Try.zeroValue3
  t4 := Try.underlying4
  a4 := Try.isAgg4
  z4 := Try.sizeOf4
  v4 := Try.zeroValue4
  t9 := Try.underlying9
  a9 := Try.isAgg9
  z9 := Try.sizeOf9
  v9 := Try.zeroValue9
  t20 := Try.underlying20
  a20 := Try.isAgg20
  z20 := Try.sizeOf20
  v20 := Try.zeroValue20
  t31 := Try.underlying25
  a31 := Try.isAgg25
  z31 := Try.sizeOf25
  v31 := Try.zeroValue25
  t37 := Try.underlying70
  a37 := Try.isAgg70
  z37 := Try.sizeOf70
  v37 := Try.zeroValue70
  t70 := Try.underlying86
  a70 := Try.isAgg86
  z70 := Try.sizeOf86
  v70 := Try.zeroValue86
  t72 := Try.underlying88
  a72 := Try.isAgg88
  z72 := Try.sizeOf88
  v72 := Try.zeroValue88
  t75 := Try.underlying52
  a75 := Try.isAgg52
  z75 := Try.sizeOf52
  v75 := Try.zeroValue52
  t76 := Try.underlying90
  a76 := Try.isAgg90
  z76 := Try.sizeOf90
  v76 := Try.zeroValue90
  t127 := Try.underlying95
  a127 := Try.isAgg95
  z127 := Try.sizeOf95
  v127 := Try.zeroValue95
  t164 := Try.underlying96
  a164 := Try.isAgg96
  z164 := Try.sizeOf96
  v164 := Try.zeroValue96 }
theorem Try.Builder_Extra_156 : Builder.Extra Try.prog Try.lays156_ren := {
  sizeBuilder := by kernel_rfl
  liesBuilder := by kernel_rfl
  t5 := Try.underlying5
  a5 := Try.isAgg5
  z5 := Try.sizeOf5
  v5 := Try.zeroValue5
  infoByte := by kernel_rfl
  cellsByte := by kernel_rfl
  sizeByte := by kernel_rfl
  neB5 := by decide }
open Go.RowKit in
/-- No element: the empty string; the world is as it was. (Whatever the slice's address and capacity: a nil slice too.) (LAID: no walk: one application.) -/
theorem Try.strings_Join_none (a : Option Addr) (c : Nat) (sep : ByteArray) (w : World) :
    Calls Try.prog 58 #[.slice a 0 c, .string sep] w fun e w' => e = .returned (.string ⟨#[]⟩) ∧ w' = w := Any.strings_Join_none Try.lays156 Try.Builder_Extra_156 a c sep w
open Go.RowKit in
/-- strings.Join: "Join concatenates the elements of its first argument to create a single string. The separator string sep is placed between elements in the resulting string.": HOWEVER MANY ELEMENTS. Below the heap's end the world is as it was. (LAID: no walk: one application.) -/
theorem Try.strings_Join (bk o c : Nat) (xs : List ByteArray) (sep : ByteArray) (w : World) (hcells : ∀ (j : Nat) x, xs[j]? = some x → w.cell? ⟨bk, o + j, none⟩ = some (.string x)) (hbk : bk < w.heap.size) (hN : xs.length ≤ 140737488355328) (hcap : xs.length ≤ c) (hlen : (Lib.join (xs.map (·.data.toList)) sep.data.toList).length ≤ 140737488355328) :
    Calls Try.prog 58 #[.slice (some ⟨bk, o, none⟩) xs.length c, .string sep] w fun e w' => e = .returned (.string ⟨(Lib.join (xs.map (·.data.toList)) sep.data.toList).toArray⟩) ∧ Below w.heap.size w w' := Any.strings_Join Try.lays156 Try.Builder_Extra_156 bk o c xs sep w hcells hbk hN hcap hlen
def Try.lays192_ren : Go.Shelf.Ren := ⟨fun | 192 => 65 | 190 => 69 | 125 => 73 | 258 => 72 | 128 => 83 | 129 => 84 | 302 => 74 | 303 => 75 | 304 => 76 | 305 => 77 | 306 => 78 | 307 => 79 | 308 => 80 | 309 => 81 | 310 => 82 | 333 => 85 | 329 => 86 | 330 => 87 | 334 => 88 | 335 => 89 | 336 => 90 | 344 => 91 | n => n, fun | 31 => 25 | 0 => 0 | 9 => 9 | 3 => 3 | 46 => 101 | 51 => 111 | 53 => 79 | 4 => 4 | 183 => 104 | 182 => 103 | 131 => 67 | 5 => 5 | 218 => 113 | 222 => 117 | 228 => 119 | 229 => 120 | n => n, fun | n => n⟩
theorem Try.lays192 : Go.Proofs.Lays.n192 Try.prog Try.lays192_ren := {
  mixed := by kernel_rfl
  f125 := Try.func73.trans (congrArg some (by kernel_rfl))
  f128 := Try.func83.trans (congrArg some (by kernel_rfl))
  f129 := Try.func84.trans (congrArg some (by kernel_rfl))
  f190 := Try.func69.trans (congrArg some (by kernel_rfl))
  f192 := Try.func65.trans (congrArg some (by kernel_rfl))
  f258 := Try.func72.trans (congrArg some (by kernel_rfl))
  f302 := Try.func74.trans (congrArg some (by kernel_rfl))
  f303 := Try.func75.trans (congrArg some (by kernel_rfl))
  f304 := Try.func76.trans (congrArg some (by kernel_rfl))
  f305 := Try.func77.trans (congrArg some (by kernel_rfl))
  f306 := Try.func78.trans (congrArg some (by kernel_rfl))
  f307 := Try.func79.trans (congrArg some (by kernel_rfl))
  f308 := Try.func80.trans (congrArg some (by kernel_rfl))
  f309 := Try.func81.trans (congrArg some (by kernel_rfl))
  f310 := Try.func82.trans (congrArg some (by kernel_rfl))
  f329 := Try.func86.trans (congrArg some (by kernel_rfl))
  f330 := Try.func87.trans (congrArg some (by kernel_rfl))
  f333 := Try.func85.trans (congrArg some (by kernel_rfl))
  f334 := Try.func88.trans (congrArg some (by kernel_rfl))
  f335 := Try.func89.trans (congrArg some (by kernel_rfl))
  f336 := Try.func90.trans (congrArg some (by kernel_rfl))
  f344 := Try.func91.trans (congrArg some (by kernel_rfl))
  t0 := Try.underlying0
  a0 := Try.isAgg0
  z0 := Try.sizeOf0
  v0 := Try.zeroValue0
  t3 := Try.underlying3
  a3 := Try.isAgg3
  z3 := Try.sizeOf3
  v3 := Try.zeroValue3
  t4 := Try.underlying4
  a4 := Try.isAgg4
  z4 := Try.sizeOf4
  v4 := Try.zeroValue4
  t5 := Try.underlying5
  a5 := Try.isAgg5
  z5 := Try.sizeOf5
  v5 := Try.zeroValue5
  t9 := Try.underlying9
  a9 := Try.isAgg9
  z9 := Try.sizeOf9
  v9 := Try.zeroValue9
  t31 := Try.underlying25
  a31 := Try.isAgg25
  z31 := Try.sizeOf25
  v31 := Try.zeroValue25
  t46 := Try.underlying101
  a46 := Try.isAgg101
  z46 := Try.sizeOf101
  v46 := Try.zeroValue101
  t51 := Try.underlying111
  a51 := Try.isAgg111
  z51 := Try.sizeOf111
  v51 := Try.zeroValue111
  t53 := Try.underlying79
  a53 := Try.isAgg79
  z53 := Try.sizeOf79
  v53 := Try.zeroValue79
  t131 := Try.underlying67
  a131 := Try.isAgg67
  z131 := Try.sizeOf67
  v131 := Try.zeroValue67
  t182 := Try.underlying103
  a182 := Try.isAgg103
  z182 := Try.sizeOf103
  v182 := Try.zeroValue103
  t183 := Try.underlying104
  a183 := Try.isAgg104
  z183 := Try.sizeOf104
  v183 := Try.zeroValue104
  t218 := Try.underlying113
  a218 := Try.isAgg113
  z218 := Try.sizeOf113
  v218 := Try.zeroValue113
  t222 := Try.underlying117
  a222 := Try.isAgg117
  z222 := Try.sizeOf117
  v222 := Try.zeroValue117
  t228 := Try.underlying119
  a228 := Try.isAgg119
  z228 := Try.sizeOf119
  v228 := Try.zeroValue119
  t229 := Try.underlying120
  a229 := Try.isAgg120
  z229 := Try.sizeOf120
  v229 := Try.zeroValue120 }
open Go.Sort Go.RowKit in
theorem Try.sort_Strings (blk off cap : Nat) (ss : List (List UInt8)) (w : World) (hH : Holds encStr w blk off ss.toArray) (hblk : blk < w.heap.size) (hsz : ss.length < 4611686018427387904) :
    Calls Try.prog 65 #[.slice (some ⟨blk, off, none⟩) ss.length cap] w fun e w' =>
      e = .returned (.tuple #[]) ∧ ∃ n os, w' = grow (putRow encStr (Sort.ahead w n) blk off (ss.mergeSort fun x y => decide (x ≤ y)).toArray) os := Any.sort_Strings Try.lays192 blk off cap ss w hH hblk hsz
open Go.RowKit Go.Sort in
/-- .. and plain. (LAID: no walk: one application.) -/
theorem Try.sort_Strings_none (p : Option Addr) (cap : Nat) (w : World) :
    Calls Try.prog 65 #[.slice p 0 cap] w fun e w' => e = .returned (.tuple #[]) ∧ w' = w := Any.sort_Strings_none Try.lays192 p cap w
end Go.Proofs
