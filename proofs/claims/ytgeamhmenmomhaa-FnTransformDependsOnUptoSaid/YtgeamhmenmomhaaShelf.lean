/-
  DERIVED: THE SHELF's CONTRACTS AT THIS DUMP, IN PLAIN WORDS (tools/lay-plain.mjs out of 'TryShelf.lean', which tools/lay-shelf.mjs wrote): THE SAME DECLARATIONS UNDER THE SAME NAMES: 'import', 'namespace', 'open', 'def', 'theorem' AND NOTHING ELSE: no command of the shelf's: FOR A HAND-IN. Each laying: the table of numbers ('.._ren') and one theorem, a field a fact of the dump's own or the kernel's comparison; each contract: ONE APPLICATION.
-/
import Derived.Shelf.Strings.Builder1
import Derived.Shelf.Strings.Builder2
import Derived.Shelf.Strings.OnBuilder
import Derived.Shelf.Small.Bits
import Derived.Shelf.Strings.BuilderF
import Derived.Shelf.Strings.BuilderK
import Derived.Shelf.Strings.Builder2Cap
import Derived.Shelf.Strconv.Itoa0
import Derived.Shelf.Sort.Plain
import Derived.Shelf.Slices.In.SortNone
import Derived.Shelf.Slices.In.SortNone2
import Derived.Test.YtgeamhmenmomhaaProg
namespace Go.Proofs
open Go.Shelf
def Try.lays156_ren : Go.Shelf.Ren := ⟨fun | 156 => 40 | 165 => 43 | 166 => 44 | 169 => 45 | 240 => 47 | 241 => 48 | 276 => 51 | 277 => 52 | n => n, fun | 31 => 22 | 9 => 9 | 3 => 3 | 4 => 4 | 0 => 0 | 20 => 20 | 72 => 80 | 76 => 82 | 70 => 77 | 37 => 78 | 75 => 48 | 127 => 85 | 164 => 89 | 5 => 5 | 80 => 84 | n => n, fun | n => n⟩
theorem Try.lays156 : Go.Proofs.Lays.n156 Try.prog Try.lays156_ren := {
  mixed := by kernel_rfl
  f156 := Try.func40.trans (congrArg some (by kernel_rfl))
  f165 := Try.func43.trans (congrArg some (by kernel_rfl))
  f166 := Try.func44.trans (congrArg some (by kernel_rfl))
  f169 := Try.func45.trans (congrArg some (by kernel_rfl))
  f240 := Try.func47.trans (congrArg some (by kernel_rfl))
  f241 := Try.func48.trans (congrArg some (by kernel_rfl))
  f276 := Try.func51.trans (congrArg some (by kernel_rfl))
  f277 := Try.func52.trans (congrArg some (by kernel_rfl))
  t0 := Try.underlying0
  a0 := Try.isAgg0
  z0 := Try.sizeOf0
  v0 := Try.zeroValue0
  t3 := Try.underlying3
  a3 := Try.isAgg3
  z3 := Try.sizeOf3
  v3 := Try.zeroValue3
  t4 := Try.underlying4
  a4 := Try.isAgg4
  z4 := Try.sizeOf4
  v4 := Try.zeroValue4
  t9 := Try.underlying9
  a9 := Try.isAgg9
  z9 := Try.sizeOf9
  v9 := Try.zeroValue9
  t20 := Try.underlying20
  a20 := Try.isAgg20
  z20 := Try.sizeOf20
  v20 := Try.zeroValue20
  t31 := Try.underlying22
  a31 := Try.isAgg22
  z31 := Try.sizeOf22
  v31 := Try.zeroValue22
  t37 := Try.underlying78
  a37 := Try.isAgg78
  z37 := Try.sizeOf78
  v37 := Try.zeroValue78
  t70 := Try.underlying77
  a70 := Try.isAgg77
  z70 := Try.sizeOf77
  v70 := Try.zeroValue77
  t72 := Try.underlying80
  a72 := Try.isAgg80
  z72 := Try.sizeOf80
  v72 := Try.zeroValue80
  t75 := Try.underlying48
  a75 := Try.isAgg48
  z75 := Try.sizeOf48
  v75 := Try.zeroValue48
  t76 := Try.underlying82
  a76 := Try.isAgg82
  z76 := Try.sizeOf82
  v76 := Try.zeroValue82
  t127 := Try.underlying85
  a127 := Try.isAgg85
  z127 := Try.sizeOf85
  v127 := Try.zeroValue85
  t164 := Try.underlying89
  a164 := Try.isAgg89
  z164 := Try.sizeOf89
  v164 := Try.zeroValue89 }
theorem Try.Builder_Extra_156 : Builder.Extra Try.prog Try.lays156_ren := {
  sizeBuilder := by kernel_rfl
  liesBuilder := by kernel_rfl
  t5 := Try.underlying5
  a5 := Try.isAgg5
  z5 := Try.sizeOf5
  v5 := Try.zeroValue5
  infoByte := by kernel_rfl
  cellsByte := by kernel_rfl
  sizeByte := by kernel_rfl
  neB5 := by decide }
open Go.RowKit in
/-- No element: the empty string; the world is as it was. (Whatever the slice's address and capacity: a nil slice too.) (LAID: no walk: one application.) -/
theorem Try.strings_Join_none (a : Option Addr) (c : Nat) (sep : ByteArray) (w : World) :
    Calls Try.prog 40 #[.slice a 0 c, .string sep] w fun e w' => e = .returned (.string ⟨#[]⟩) ∧ w' = w := Any.strings_Join_none Try.lays156 Try.Builder_Extra_156 a c sep w
open Go.RowKit in
/-- strings.Join: "Join concatenates the elements of its first argument to create a single string. The separator string sep is placed between elements in the resulting string.": HOWEVER MANY ELEMENTS. Below the heap's end the world is as it was. (LAID: no walk: one application.) -/
theorem Try.strings_Join (bk o c : Nat) (xs : List ByteArray) (sep : ByteArray) (w : World) (hcells : ∀ (j : Nat) x, xs[j]? = some x → w.cell? ⟨bk, o + j, none⟩ = some (.string x)) (hbk : bk < w.heap.size) (hN : xs.length ≤ 140737488355328) (hcap : xs.length ≤ c) (hlen : (Lib.join (xs.map (·.data.toList)) sep.data.toList).length ≤ 140737488355328) :
    Calls Try.prog 40 #[.slice (some ⟨bk, o, none⟩) xs.length c, .string sep] w fun e w' => e = .returned (.string ⟨(Lib.join (xs.map (·.data.toList)) sep.data.toList).toArray⟩) ∧ Below w.heap.size w w' := Any.strings_Join Try.lays156 Try.Builder_Extra_156 bk o c xs sep w hcells hbk hN hcap hlen
def Try.lays192_ren : Go.Shelf.Ren := ⟨fun | 192 => 42 | 190 => 46 | 125 => 50 | 258 => 49 | 128 => 62 | 129 => 63 | 302 => 53 | 303 => 54 | 304 => 55 | 305 => 56 | 306 => 57 | 307 => 58 | 308 => 59 | 309 => 60 | 310 => 61 | 333 => 64 | 329 => 65 | 330 => 66 | 334 => 67 | 335 => 68 | 336 => 69 | 344 => 70 | n => n, fun | 31 => 22 | 0 => 0 | 9 => 9 | 3 => 3 | 46 => 88 | 51 => 101 | 53 => 67 | 4 => 4 | 183 => 94 | 182 => 93 | 131 => 54 | 5 => 5 | 218 => 103 | 222 => 107 | 228 => 109 | 229 => 110 | n => n, fun | n => n⟩
theorem Try.lays192 : Go.Proofs.Lays.n192 Try.prog Try.lays192_ren := {
  mixed := by kernel_rfl
  f125 := Try.func50.trans (congrArg some (by kernel_rfl))
  f128 := Try.func62.trans (congrArg some (by kernel_rfl))
  f129 := Try.func63.trans (congrArg some (by kernel_rfl))
  f190 := Try.func46.trans (congrArg some (by kernel_rfl))
  f192 := Try.func42.trans (congrArg some (by kernel_rfl))
  f258 := Try.func49.trans (congrArg some (by kernel_rfl))
  f302 := Try.func53.trans (congrArg some (by kernel_rfl))
  f303 := Try.func54.trans (congrArg some (by kernel_rfl))
  f304 := Try.func55.trans (congrArg some (by kernel_rfl))
  f305 := Try.func56.trans (congrArg some (by kernel_rfl))
  f306 := Try.func57.trans (congrArg some (by kernel_rfl))
  f307 := Try.func58.trans (congrArg some (by kernel_rfl))
  f308 := Try.func59.trans (congrArg some (by kernel_rfl))
  f309 := Try.func60.trans (congrArg some (by kernel_rfl))
  f310 := Try.func61.trans (congrArg some (by kernel_rfl))
  f329 := Try.func65.trans (congrArg some (by kernel_rfl))
  f330 := Try.func66.trans (congrArg some (by kernel_rfl))
  f333 := Try.func64.trans (congrArg some (by kernel_rfl))
  f334 := Try.func67.trans (congrArg some (by kernel_rfl))
  f335 := Try.func68.trans (congrArg some (by kernel_rfl))
  f336 := Try.func69.trans (congrArg some (by kernel_rfl))
  f344 := Try.func70.trans (congrArg some (by kernel_rfl))
  t0 := Try.underlying0
  a0 := Try.isAgg0
  z0 := Try.sizeOf0
  v0 := Try.zeroValue0
  t3 := Try.underlying3
  a3 := Try.isAgg3
  z3 := Try.sizeOf3
  v3 := Try.zeroValue3
  t4 := Try.underlying4
  a4 := Try.isAgg4
  z4 := Try.sizeOf4
  v4 := Try.zeroValue4
  t5 := Try.underlying5
  a5 := Try.isAgg5
  z5 := Try.sizeOf5
  v5 := Try.zeroValue5
  t9 := Try.underlying9
  a9 := Try.isAgg9
  z9 := Try.sizeOf9
  v9 := Try.zeroValue9
  t31 := Try.underlying22
  a31 := Try.isAgg22
  z31 := Try.sizeOf22
  v31 := Try.zeroValue22
  t46 := Try.underlying88
  a46 := Try.isAgg88
  z46 := Try.sizeOf88
  v46 := Try.zeroValue88
  t51 := Try.underlying101
  a51 := Try.isAgg101
  z51 := Try.sizeOf101
  v51 := Try.zeroValue101
  t53 := Try.underlying67
  a53 := Try.isAgg67
  z53 := Try.sizeOf67
  v53 := Try.zeroValue67
  t131 := Try.underlying54
  a131 := Try.isAgg54
  z131 := Try.sizeOf54
  v131 := Try.zeroValue54
  t182 := Try.underlying93
  a182 := Try.isAgg93
  z182 := Try.sizeOf93
  v182 := Try.zeroValue93
  t183 := Try.underlying94
  a183 := Try.isAgg94
  z183 := Try.sizeOf94
  v183 := Try.zeroValue94
  t218 := Try.underlying103
  a218 := Try.isAgg103
  z218 := Try.sizeOf103
  v218 := Try.zeroValue103
  t222 := Try.underlying107
  a222 := Try.isAgg107
  z222 := Try.sizeOf107
  v222 := Try.zeroValue107
  t228 := Try.underlying109
  a228 := Try.isAgg109
  z228 := Try.sizeOf109
  v228 := Try.zeroValue109
  t229 := Try.underlying110
  a229 := Try.isAgg110
  z229 := Try.sizeOf110
  v229 := Try.zeroValue110 }
open Go.Sort Go.RowKit in
theorem Try.sort_Strings (blk off cap : Nat) (ss : List (List UInt8)) (w : World) (hH : Holds encStr w blk off ss.toArray) (hblk : blk < w.heap.size) (hsz : ss.length < 4611686018427387904) :
    Calls Try.prog 42 #[.slice (some ⟨blk, off, none⟩) ss.length cap] w fun e w' =>
      e = .returned (.tuple #[]) ∧ ∃ n os, w' = grow (putRow encStr (Sort.ahead w n) blk off (ss.mergeSort fun x y => decide (x ≤ y)).toArray) os := Any.sort_Strings Try.lays192 blk off cap ss w hH hblk hsz
open Go.RowKit Go.Sort in
/-- .. and plain. (LAID: no walk: one application.) -/
theorem Try.sort_Strings_none (p : Option Addr) (cap : Nat) (w : World) :
    Calls Try.prog 42 #[.slice p 0 cap] w fun e w' => e = .returned (.tuple #[]) ∧ w' = w := Any.sort_Strings_none Try.lays192 p cap w
end Go.Proofs
