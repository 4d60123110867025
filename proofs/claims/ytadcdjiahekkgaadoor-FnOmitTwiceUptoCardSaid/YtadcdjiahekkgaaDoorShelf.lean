/-
  DERIVED: THE SHELF's CONTRACTS AT THIS DUMP, IN PLAIN WORDS (tools/lay-plain.mjs out of 'TrydShelf.lean', which tools/lay-shelf.mjs wrote): THE SAME DECLARATIONS UNDER THE SAME NAMES: 'import', 'namespace', 'open', 'def', 'theorem' AND NOTHING ELSE: no command of the shelf's: FOR A HAND-IN. Each laying: the table of numbers ('.._ren') and one theorem, a field a fact of the dump's own or the kernel's comparison; each contract: ONE APPLICATION.
-/
import Derived.Shelf.Strings.Builder1
import Derived.Shelf.Strings.Builder2
import Derived.Shelf.Strings.OnBuilder
import Derived.Shelf.Small.Utf8
import Derived.Shelf.Small.Bits
import Derived.Shelf.Strings.BuilderF
import Derived.Shelf.Strings.BuilderK
import Derived.Shelf.Strings.Builder2Cap
import Derived.Shelf.Strconv.Itoa0
import Derived.Shelf.Sort.Plain
import Derived.Shelf.Unicode.Latin
import Derived.Shelf.Unicode.Decode
import Derived.Shelf.Unicode.DecodeSlow
import Derived.Shelf.Unicode.DecodeAny
import Derived.Shelf.Unicode.CaseLookup
import Derived.Shelf.Unicode.CaseConvert
import Derived.Shelf.Unicode.CaseTo
import Derived.Shelf.Unicode.CaseLaid
import Derived.Shelf.Slices.In.SortNone
import Derived.Shelf.Slices.In.SortNone2
import Derived.Test.YtadcdjiahekkgaaDoorProg
namespace Go.Proofs
open Go.Shelf
def Tryd.lays159_ren : Go.Shelf.Ren := ⟨fun | 159 => 59 | 165 => 68 | 166 => 69 | 167 => 70 | 169 => 71 | 230 => 72 | 204 => 73 | 240 => 80 | 241 => 81 | 197 => 82 | 118 => 83 | 168 => 84 | 270 => 85 | 262 => 86 | 276 => 100 | 277 => 101 | 260 => 102 | 242 => 103 | 313 => 104 | 278 => 112 | 274 => 113 | 275 => 114 | n => n, fun | 9 => 9 | 4 => 4 | 3 => 3 | 5 => 5 | 72 => 104 | 0 => 0 | 76 => 108 | 75 => 107 | 107 => 113 | 70 => 101 | 20 => 20 | 37 => 102 | 127 => 121 | 21 => 21 | 105 => 122 | 164 => 139 | 162 => 145 | 203 => 143 | 119 => 153 | 46 => 117 | 139 => 156 | 138 => 155 | 51 => 136 | 160 => 157 | 208 => 166 | 206 => 164 | 80 => 111 | n => n, fun | 13 => 0 | 3 => 2 | 4 => 3 | n => n⟩
theorem Tryd.lays159 : Go.Proofs.Lays.n159 Tryd.prog Tryd.lays159_ren := {
  mixed := by kernel_rfl
  f118 := Tryd.func83.trans (congrArg some (by kernel_rfl))
  f159 := Tryd.func59.trans (congrArg some (by kernel_rfl))
  f165 := Tryd.func68.trans (congrArg some (by kernel_rfl))
  f166 := Tryd.func69.trans (congrArg some (by kernel_rfl))
  f167 := Tryd.func70.trans (congrArg some (by kernel_rfl))
  f168 := Tryd.func84.trans (congrArg some (by kernel_rfl))
  f169 := Tryd.func71.trans (congrArg some (by kernel_rfl))
  f197 := Tryd.func82.trans (congrArg some (by kernel_rfl))
  f204 := Tryd.func73.trans (congrArg some (by kernel_rfl))
  f230 := Tryd.func72.trans (congrArg some (by kernel_rfl))
  f240 := Tryd.func80.trans (congrArg some (by kernel_rfl))
  f241 := Tryd.func81.trans (congrArg some (by kernel_rfl))
  f242 := Tryd.func103.trans (congrArg some (by kernel_rfl))
  f260 := Tryd.func102.trans (congrArg some (by kernel_rfl))
  f262 := Tryd.func86.trans (congrArg some (by kernel_rfl))
  f270 := Tryd.func85.trans (congrArg some (by kernel_rfl))
  f274 := Tryd.func113.trans (congrArg some (by kernel_rfl))
  f275 := Tryd.func114.trans (congrArg some (by kernel_rfl))
  f276 := Tryd.func100.trans (congrArg some (by kernel_rfl))
  f277 := Tryd.func101.trans (congrArg some (by kernel_rfl))
  f278 := Tryd.func112.trans (congrArg some (by kernel_rfl))
  f313 := Tryd.func104.trans (congrArg some (by kernel_rfl))
  t0 := Tryd.underlying0
  a0 := Tryd.isAgg0
  z0 := Tryd.sizeOf0
  v0 := Tryd.zeroValue0
  t3 := Tryd.underlying3
  a3 := Tryd.isAgg3
  z3 := Tryd.sizeOf3
  v3 := Tryd.zeroValue3
  t4 := Tryd.underlying4
  a4 := Tryd.isAgg4
  z4 := Tryd.sizeOf4
  v4 := Tryd.zeroValue4
  t5 := Tryd.underlying5
  a5 := Tryd.isAgg5
  z5 := Tryd.sizeOf5
  v5 := Tryd.zeroValue5
  t9 := Tryd.underlying9
  a9 := Tryd.isAgg9
  z9 := Tryd.sizeOf9
  v9 := Tryd.zeroValue9
  t20 := Tryd.underlying20
  a20 := Tryd.isAgg20
  z20 := Tryd.sizeOf20
  v20 := Tryd.zeroValue20
  t21 := Tryd.underlying21
  a21 := Tryd.isAgg21
  z21 := Tryd.sizeOf21
  v21 := Tryd.zeroValue21
  t37 := Tryd.underlying102
  a37 := Tryd.isAgg102
  z37 := Tryd.sizeOf102
  v37 := Tryd.zeroValue102
  t46 := Tryd.underlying117
  a46 := Tryd.isAgg117
  z46 := Tryd.sizeOf117
  v46 := Tryd.zeroValue117
  t51 := Tryd.underlying136
  a51 := Tryd.isAgg136
  z51 := Tryd.sizeOf136
  v51 := Tryd.zeroValue136
  t70 := Tryd.underlying101
  a70 := Tryd.isAgg101
  z70 := Tryd.sizeOf101
  v70 := Tryd.zeroValue101
  t72 := Tryd.underlying104
  a72 := Tryd.isAgg104
  z72 := Tryd.sizeOf104
  v72 := Tryd.zeroValue104
  t75 := Tryd.underlying107
  a75 := Tryd.isAgg107
  z75 := Tryd.sizeOf107
  v75 := Tryd.zeroValue107
  t76 := Tryd.underlying108
  a76 := Tryd.isAgg108
  z76 := Tryd.sizeOf108
  v76 := Tryd.zeroValue108
  t105 := Tryd.underlying122
  a105 := Tryd.isAgg122
  z105 := Tryd.sizeOf122
  v105 := Tryd.zeroValue122
  t107 := Tryd.underlying113
  a107 := Tryd.isAgg113
  z107 := Tryd.sizeOf113
  v107 := Tryd.zeroValue113
  t119 := Tryd.underlying153
  a119 := Tryd.isAgg153
  z119 := Tryd.sizeOf153
  t127 := Tryd.underlying121
  a127 := Tryd.isAgg121
  z127 := Tryd.sizeOf121
  v127 := Tryd.zeroValue121
  t138 := Tryd.underlying155
  a138 := Tryd.isAgg155
  z138 := Tryd.sizeOf155
  v138 := Tryd.zeroValue155
  t139 := Tryd.underlying156
  a139 := Tryd.isAgg156
  z139 := Tryd.sizeOf156
  v139 := Tryd.zeroValue156
  t160 := Tryd.underlying157
  a160 := Tryd.isAgg157
  z160 := Tryd.sizeOf157
  v160 := Tryd.zeroValue157
  t162 := Tryd.underlying145
  a162 := Tryd.isAgg145
  z162 := Tryd.sizeOf145
  v162 := Tryd.zeroValue145
  t164 := Tryd.underlying139
  a164 := Tryd.isAgg139
  z164 := Tryd.sizeOf139
  v164 := Tryd.zeroValue139
  t203 := Tryd.underlying143
  a203 := Tryd.isAgg143
  z203 := Tryd.sizeOf143
  v203 := Tryd.zeroValue143
  t206 := Tryd.underlying164
  a206 := Tryd.isAgg164
  z206 := Tryd.sizeOf164
  v206 := Tryd.zeroValue164
  t208 := Tryd.underlying166
  a208 := Tryd.isAgg166
  z208 := Tryd.sizeOf166
  v208 := Tryd.zeroValue166
  g3 := by kernel_rfl
  g4 := by kernel_rfl
  g13 := by kernel_rfl }
theorem Tryd.Builder_Extra_159 : Builder.Extra Tryd.prog Tryd.lays159_ren := {
  sizeBuilder := by kernel_rfl
  liesBuilder := by kernel_rfl
  t5 := Tryd.underlying5
  a5 := Tryd.isAgg5
  z5 := Tryd.sizeOf5
  v5 := Tryd.zeroValue5
  infoByte := by kernel_rfl
  cellsByte := by kernel_rfl
  sizeByte := by kernel_rfl
  neB5 := by decide }
open Go.RowKit in
/-- strings.ToLower: "ToLower returns s with all Unicode letters mapped to their lower case.": ON ASCII TEXT OF AT MOST 2^47 BYTES. Below the heap's end the world is as it was: where a letter turns, the call makes a builder and its buffer. (LAID: no walk: one application.) -/
theorem Tryd.strings_ToLower_ascii (s : ByteArray) (w : World) (hs : s.size ≤ 140737488355328) (hascii : ∀ (j : Nat) (b : UInt8), s.data.toList[j]? = some b → b.toNat < 128) :
    Calls Tryd.prog 59 #[.string s] w fun e w' => e = .returned (.string ⟨(Lib.toLowerA s.data.toList).toArray⟩) ∧ Below w.heap.size w w' := Any.strings_ToLower_ascii Tryd.lays159 Tryd.Builder_Extra_159 s w hs hascii
def Tryd.lays192_ren : Go.Shelf.Ren := ⟨fun | 192 => 48 | 190 => 62 | 125 => 76 | 258 => 75 | 128 => 96 | 129 => 97 | 302 => 87 | 303 => 88 | 304 => 89 | 305 => 90 | 306 => 91 | 307 => 92 | 308 => 93 | 309 => 94 | 310 => 95 | 333 => 105 | 329 => 106 | 330 => 107 | 334 => 108 | 335 => 109 | 336 => 110 | 344 => 115 | n => n, fun | 31 => 22 | 0 => 0 | 9 => 9 | 3 => 3 | 46 => 117 | 51 => 136 | 53 => 89 | 4 => 4 | 183 => 130 | 182 => 129 | 131 => 82 | 5 => 5 | 218 => 146 | 222 => 150 | 228 => 160 | 229 => 161 | n => n, fun | n => n⟩
theorem Tryd.lays192 : Go.Proofs.Lays.n192 Tryd.prog Tryd.lays192_ren := {
  mixed := by kernel_rfl
  f125 := Tryd.func76.trans (congrArg some (by kernel_rfl))
  f128 := Tryd.func96.trans (congrArg some (by kernel_rfl))
  f129 := Tryd.func97.trans (congrArg some (by kernel_rfl))
  f190 := Tryd.func62.trans (congrArg some (by kernel_rfl))
  f192 := Tryd.func48.trans (congrArg some (by kernel_rfl))
  f258 := Tryd.func75.trans (congrArg some (by kernel_rfl))
  f302 := Tryd.func87.trans (congrArg some (by kernel_rfl))
  f303 := Tryd.func88.trans (congrArg some (by kernel_rfl))
  f304 := Tryd.func89.trans (congrArg some (by kernel_rfl))
  f305 := Tryd.func90.trans (congrArg some (by kernel_rfl))
  f306 := Tryd.func91.trans (congrArg some (by kernel_rfl))
  f307 := Tryd.func92.trans (congrArg some (by kernel_rfl))
  f308 := Tryd.func93.trans (congrArg some (by kernel_rfl))
  f309 := Tryd.func94.trans (congrArg some (by kernel_rfl))
  f310 := Tryd.func95.trans (congrArg some (by kernel_rfl))
  f329 := Tryd.func106.trans (congrArg some (by kernel_rfl))
  f330 := Tryd.func107.trans (congrArg some (by kernel_rfl))
  f333 := Tryd.func105.trans (congrArg some (by kernel_rfl))
  f334 := Tryd.func108.trans (congrArg some (by kernel_rfl))
  f335 := Tryd.func109.trans (congrArg some (by kernel_rfl))
  f336 := Tryd.func110.trans (congrArg some (by kernel_rfl))
  f344 := Tryd.func115.trans (congrArg some (by kernel_rfl))
  t0 := Tryd.underlying0
  a0 := Tryd.isAgg0
  z0 := Tryd.sizeOf0
  v0 := Tryd.zeroValue0
  t3 := Tryd.underlying3
  a3 := Tryd.isAgg3
  z3 := Tryd.sizeOf3
  v3 := Tryd.zeroValue3
  t4 := Tryd.underlying4
  a4 := Tryd.isAgg4
  z4 := Tryd.sizeOf4
  v4 := Tryd.zeroValue4
  t5 := Tryd.underlying5
  a5 := Tryd.isAgg5
  z5 := Tryd.sizeOf5
  v5 := Tryd.zeroValue5
  t9 := Tryd.underlying9
  a9 := Tryd.isAgg9
  z9 := Tryd.sizeOf9
  v9 := Tryd.zeroValue9
  t31 := Tryd.underlying22
  a31 := Tryd.isAgg22
  z31 := Tryd.sizeOf22
  v31 := Tryd.zeroValue22
  t46 := Tryd.underlying117
  a46 := Tryd.isAgg117
  z46 := Tryd.sizeOf117
  v46 := Tryd.zeroValue117
  t51 := Tryd.underlying136
  a51 := Tryd.isAgg136
  z51 := Tryd.sizeOf136
  v51 := Tryd.zeroValue136
  t53 := Tryd.underlying89
  a53 := Tryd.isAgg89
  z53 := Tryd.sizeOf89
  v53 := Tryd.zeroValue89
  t131 := Tryd.underlying82
  a131 := Tryd.isAgg82
  z131 := Tryd.sizeOf82
  v131 := Tryd.zeroValue82
  t182 := Tryd.underlying129
  a182 := Tryd.isAgg129
  z182 := Tryd.sizeOf129
  v182 := Tryd.zeroValue129
  t183 := Tryd.underlying130
  a183 := Tryd.isAgg130
  z183 := Tryd.sizeOf130
  v183 := Tryd.zeroValue130
  t218 := Tryd.underlying146
  a218 := Tryd.isAgg146
  z218 := Tryd.sizeOf146
  v218 := Tryd.zeroValue146
  t222 := Tryd.underlying150
  a222 := Tryd.isAgg150
  z222 := Tryd.sizeOf150
  v222 := Tryd.zeroValue150
  t228 := Tryd.underlying160
  a228 := Tryd.isAgg160
  z228 := Tryd.sizeOf160
  v228 := Tryd.zeroValue160
  t229 := Tryd.underlying161
  a229 := Tryd.isAgg161
  z229 := Tryd.sizeOf161
  v229 := Tryd.zeroValue161 }
open Go.Sort Go.RowKit in
theorem Tryd.sort_Strings (blk off cap : Nat) (ss : List (List UInt8)) (w : World) (hH : Holds encStr w blk off ss.toArray) (hblk : blk < w.heap.size) (hsz : ss.length < 4611686018427387904) :
    Calls Tryd.prog 48 #[.slice (some ⟨blk, off, none⟩) ss.length cap] w fun e w' =>
      e = .returned (.tuple #[]) ∧ ∃ n os, w' = grow (putRow encStr (Sort.ahead w n) blk off (ss.mergeSort fun x y => decide (x ≤ y)).toArray) os := Any.sort_Strings Tryd.lays192 blk off cap ss w hH hblk hsz
open Go.RowKit Go.Sort in
/-- .. and plain. (LAID: no walk: one application.) -/
theorem Tryd.sort_Strings_none (p : Option Addr) (cap : Nat) (w : World) :
    Calls Tryd.prog 48 #[.slice p 0 cap] w fun e w' => e = .returned (.tuple #[]) ∧ w' = w := Any.sort_Strings_none Tryd.lays192 p cap w
end Go.Proofs
