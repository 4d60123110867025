/-
  DERIVED: THE SHELF's CONTRACTS AT THIS DUMP, IN PLAIN WORDS (tools/lay-plain.mjs out of 'TrydShelf.lean', which tools/lay-shelf.mjs wrote): THE SAME DECLARATIONS UNDER THE SAME NAMES: 'import', 'namespace', 'open', 'def', 'theorem' AND NOTHING ELSE: no command of the shelf's: FOR A HAND-IN. Each laying: the table of numbers ('.._ren') and one theorem, a field a fact of the dump's own or the kernel's comparison; each contract: ONE APPLICATION.
-/
import Derived.Shelf.Strings.Builder1
import Derived.Shelf.Strings.Builder2
import Derived.Shelf.Strings.OnBuilder
import Derived.Shelf.Small.Utf8
import Derived.Shelf.Small.Bits
import Derived.Shelf.Strings.BuilderF
import Derived.Shelf.Strings.BuilderK
import Derived.Shelf.Strconv.Itoa0
import Derived.Shelf.Sort.Plain
import Derived.Shelf.Unicode.Latin
import Derived.Shelf.Unicode.DecodeSlow
import Derived.Shelf.Unicode.DecodeAny
import Derived.Shelf.Unicode.CaseLookup
import Derived.Shelf.Unicode.CaseConvert
import Derived.Shelf.Unicode.CaseTo
import Derived.Shelf.Unicode.CaseLaid
import Derived.Shelf.Slices.In.SortNone
import Derived.Shelf.Slices.In.SortNone2
import Derived.Test.YtgeamhmenmomhaaDoorProg
namespace Go.Proofs
open Go.Shelf
def Tryd.lays159_ren : Go.Shelf.Ren := ⟨fun | 159 => 53 | 165 => 58 | 166 => 59 | 167 => 60 | 169 => 61 | 230 => 62 | 204 => 63 | 240 => 68 | 241 => 69 | 197 => 70 | 118 => 71 | 168 => 72 | 270 => 73 | 262 => 74 | 276 => 86 | 277 => 87 | 260 => 88 | 242 => 89 | 313 => 90 | 278 => 97 | 274 => 98 | 275 => 99 | n => n, fun | 9 => 9 | 4 => 4 | 3 => 3 | 5 => 5 | 72 => 94 | 0 => 0 | 76 => 98 | 75 => 97 | 107 => 103 | 70 => 91 | 20 => 20 | 37 => 92 | 127 => 109 | 21 => 21 | 105 => 110 | 164 => 126 | 162 => 132 | 203 => 130 | 119 => 139 | 46 => 108 | 139 => 142 | 138 => 141 | 51 => 124 | 160 => 143 | 208 => 152 | 206 => 150 | 80 => 101 | n => n, fun | 13 => 0 | 3 => 2 | 4 => 3 | n => n⟩
theorem Tryd.lays159 : Go.Proofs.Lays.n159 Tryd.prog Tryd.lays159_ren := {
  mixed := by kernel_rfl
  f118 := Tryd.func71.trans (congrArg some (by kernel_rfl))
  f159 := Tryd.func53.trans (congrArg some (by kernel_rfl))
  f165 := Tryd.func58.trans (congrArg some (by kernel_rfl))
  f166 := Tryd.func59.trans (congrArg some (by kernel_rfl))
  f167 := Tryd.func60.trans (congrArg some (by kernel_rfl))
  f168 := Tryd.func72.trans (congrArg some (by kernel_rfl))
  f169 := Tryd.func61.trans (congrArg some (by kernel_rfl))
  f197 := Tryd.func70.trans (congrArg some (by kernel_rfl))
  f204 := Tryd.func63.trans (congrArg some (by kernel_rfl))
  f230 := Tryd.func62.trans (congrArg some (by kernel_rfl))
  f240 := Tryd.func68.trans (congrArg some (by kernel_rfl))
  f241 := Tryd.func69.trans (congrArg some (by kernel_rfl))
  f242 := Tryd.func89.trans (congrArg some (by kernel_rfl))
  f260 := Tryd.func88.trans (congrArg some (by kernel_rfl))
  f262 := Tryd.func74.trans (congrArg some (by kernel_rfl))
  f270 := Tryd.func73.trans (congrArg some (by kernel_rfl))
  f274 := Tryd.func98.trans (congrArg some (by kernel_rfl))
  f275 := Tryd.func99.trans (congrArg some (by kernel_rfl))
  f276 := Tryd.func86.trans (congrArg some (by kernel_rfl))
  f277 := Tryd.func87.trans (congrArg some (by kernel_rfl))
  f278 := Tryd.func97.trans (congrArg some (by kernel_rfl))
  f313 := Tryd.func90.trans (congrArg some (by kernel_rfl))
  t0 := Tryd.underlying0
  a0 := Tryd.isAgg0
  z0 := Tryd.sizeOf0
  v0 := Tryd.zeroValue0
  t3 := Tryd.underlying3
  a3 := Tryd.isAgg3
  z3 := Tryd.sizeOf3
  v3 := Tryd.zeroValue3
  t4 := Tryd.underlying4
  a4 := Tryd.isAgg4
  z4 := Tryd.sizeOf4
  v4 := Tryd.zeroValue4
  t5 := Tryd.underlying5
  a5 := Tryd.isAgg5
  z5 := Tryd.sizeOf5
  v5 := Tryd.zeroValue5
  t9 := Tryd.underlying9
  a9 := Tryd.isAgg9
  z9 := Tryd.sizeOf9
  v9 := Tryd.zeroValue9
  t20 := Tryd.underlying20
  a20 := Tryd.isAgg20
  z20 := Tryd.sizeOf20
  v20 := Tryd.zeroValue20
  t21 := Tryd.underlying21
  a21 := Tryd.isAgg21
  z21 := Tryd.sizeOf21
  v21 := Tryd.zeroValue21
  t37 := Tryd.underlying92
  a37 := Tryd.isAgg92
  z37 := Tryd.sizeOf92
  v37 := Tryd.zeroValue92
  t46 := Tryd.underlying108
  a46 := Tryd.isAgg108
  z46 := Tryd.sizeOf108
  v46 := Tryd.zeroValue108
  t51 := Tryd.underlying124
  a51 := Tryd.isAgg124
  z51 := Tryd.sizeOf124
  v51 := Tryd.zeroValue124
  t70 := Tryd.underlying91
  a70 := Tryd.isAgg91
  z70 := Tryd.sizeOf91
  v70 := Tryd.zeroValue91
  t72 := Tryd.underlying94
  a72 := Tryd.isAgg94
  z72 := Tryd.sizeOf94
  v72 := Tryd.zeroValue94
  t75 := Tryd.underlying97
  a75 := Tryd.isAgg97
  z75 := Tryd.sizeOf97
  v75 := Tryd.zeroValue97
  t76 := Tryd.underlying98
  a76 := Tryd.isAgg98
  z76 := Tryd.sizeOf98
  v76 := Tryd.zeroValue98
  t105 := Tryd.underlying110
  a105 := Tryd.isAgg110
  z105 := Tryd.sizeOf110
  v105 := Tryd.zeroValue110
  t107 := Tryd.underlying103
  a107 := Tryd.isAgg103
  z107 := Tryd.sizeOf103
  v107 := Tryd.zeroValue103
  t119 := Tryd.underlying139
  a119 := Tryd.isAgg139
  z119 := Tryd.sizeOf139
  t127 := Tryd.underlying109
  a127 := Tryd.isAgg109
  z127 := Tryd.sizeOf109
  v127 := Tryd.zeroValue109
  t138 := Tryd.underlying141
  a138 := Tryd.isAgg141
  z138 := Tryd.sizeOf141
  v138 := Tryd.zeroValue141
  t139 := Tryd.underlying142
  a139 := Tryd.isAgg142
  z139 := Tryd.sizeOf142
  v139 := Tryd.zeroValue142
  t160 := Tryd.underlying143
  a160 := Tryd.isAgg143
  z160 := Tryd.sizeOf143
  v160 := Tryd.zeroValue143
  t162 := Tryd.underlying132
  a162 := Tryd.isAgg132
  z162 := Tryd.sizeOf132
  v162 := Tryd.zeroValue132
  t164 := Tryd.underlying126
  a164 := Tryd.isAgg126
  z164 := Tryd.sizeOf126
  v164 := Tryd.zeroValue126
  t203 := Tryd.underlying130
  a203 := Tryd.isAgg130
  z203 := Tryd.sizeOf130
  v203 := Tryd.zeroValue130
  t206 := Tryd.underlying150
  a206 := Tryd.isAgg150
  z206 := Tryd.sizeOf150
  v206 := Tryd.zeroValue150
  t208 := Tryd.underlying152
  a208 := Tryd.isAgg152
  z208 := Tryd.sizeOf152
  v208 := Tryd.zeroValue152
  g3 := by kernel_rfl
  g4 := by kernel_rfl
  g13 := by kernel_rfl }
theorem Tryd.Builder_Extra_159 : Builder.Extra Tryd.prog Tryd.lays159_ren := {
  sizeBuilder := by kernel_rfl
  liesBuilder := by kernel_rfl
  t5 := Tryd.underlying5
  a5 := Tryd.isAgg5
  z5 := Tryd.sizeOf5
  v5 := Tryd.zeroValue5
  infoByte := by kernel_rfl
  cellsByte := by kernel_rfl
  sizeByte := by kernel_rfl
  neB5 := by decide }
open Go.RowKit in
/-- strings.ToLower: "ToLower returns s with all Unicode letters mapped to their lower case.": ON ASCII TEXT OF AT MOST 2^47 BYTES. Below the heap's end the world is as it was: where a letter turns, the call makes a builder and its buffer. (LAID: no walk: one application.) -/
theorem Tryd.strings_ToLower_ascii (s : ByteArray) (w : World) (hs : s.size ≤ 140737488355328) (hascii : ∀ (j : Nat) (b : UInt8), s.data.toList[j]? = some b → b.toNat < 128) :
    Calls Tryd.prog 53 #[.string s] w fun e w' => e = .returned (.string ⟨(Lib.toLowerA s.data.toList).toArray⟩) ∧ Below w.heap.size w w' := Any.strings_ToLower_ascii Tryd.lays159 Tryd.Builder_Extra_159 s w hs hascii
def Tryd.lays192_ren : Go.Shelf.Ren := ⟨fun | 192 => 52 | 190 => 57 | 125 => 67 | 258 => 66 | 128 => 84 | 129 => 85 | 302 => 75 | 303 => 76 | 304 => 77 | 305 => 78 | 306 => 79 | 307 => 80 | 308 => 81 | 309 => 82 | 310 => 83 | 333 => 91 | 329 => 92 | 330 => 93 | 334 => 94 | 335 => 95 | 336 => 96 | 344 => 100 | n => n, fun | 31 => 22 | 0 => 0 | 9 => 9 | 3 => 3 | 46 => 108 | 51 => 124 | 53 => 82 | 4 => 4 | 183 => 118 | 182 => 117 | 131 => 79 | 5 => 5 | 218 => 133 | 222 => 137 | 228 => 146 | 229 => 147 | n => n, fun | n => n⟩
theorem Tryd.lays192 : Go.Proofs.Lays.n192 Tryd.prog Tryd.lays192_ren := {
  mixed := by kernel_rfl
  f125 := Tryd.func67.trans (congrArg some (by kernel_rfl))
  f128 := Tryd.func84.trans (congrArg some (by kernel_rfl))
  f129 := Tryd.func85.trans (congrArg some (by kernel_rfl))
  f190 := Tryd.func57.trans (congrArg some (by kernel_rfl))
  f192 := Tryd.func52.trans (congrArg some (by kernel_rfl))
  f258 := Tryd.func66.trans (congrArg some (by kernel_rfl))
  f302 := Tryd.func75.trans (congrArg some (by kernel_rfl))
  f303 := Tryd.func76.trans (congrArg some (by kernel_rfl))
  f304 := Tryd.func77.trans (congrArg some (by kernel_rfl))
  f305 := Tryd.func78.trans (congrArg some (by kernel_rfl))
  f306 := Tryd.func79.trans (congrArg some (by kernel_rfl))
  f307 := Tryd.func80.trans (congrArg some (by kernel_rfl))
  f308 := Tryd.func81.trans (congrArg some (by kernel_rfl))
  f309 := Tryd.func82.trans (congrArg some (by kernel_rfl))
  f310 := Tryd.func83.trans (congrArg some (by kernel_rfl))
  f329 := Tryd.func92.trans (congrArg some (by kernel_rfl))
  f330 := Tryd.func93.trans (congrArg some (by kernel_rfl))
  f333 := Tryd.func91.trans (congrArg some (by kernel_rfl))
  f334 := Tryd.func94.trans (congrArg some (by kernel_rfl))
  f335 := Tryd.func95.trans (congrArg some (by kernel_rfl))
  f336 := Tryd.func96.trans (congrArg some (by kernel_rfl))
  f344 := Tryd.func100.trans (congrArg some (by kernel_rfl))
  t0 := Tryd.underlying0
  a0 := Tryd.isAgg0
  z0 := Tryd.sizeOf0
  v0 := Tryd.zeroValue0
  t3 := Tryd.underlying3
  a3 := Tryd.isAgg3
  z3 := Tryd.sizeOf3
  v3 := Tryd.zeroValue3
  t4 := Tryd.underlying4
  a4 := Tryd.isAgg4
  z4 := Tryd.sizeOf4
  v4 := Tryd.zeroValue4
  t5 := Tryd.underlying5
  a5 := Tryd.isAgg5
  z5 := Tryd.sizeOf5
  v5 := Tryd.zeroValue5
  t9 := Tryd.underlying9
  a9 := Tryd.isAgg9
  z9 := Tryd.sizeOf9
  v9 := Tryd.zeroValue9
  t31 := Tryd.underlying22
  a31 := Tryd.isAgg22
  z31 := Tryd.sizeOf22
  v31 := Tryd.zeroValue22
  t46 := Tryd.underlying108
  a46 := Tryd.isAgg108
  z46 := Tryd.sizeOf108
  v46 := Tryd.zeroValue108
  t51 := Tryd.underlying124
  a51 := Tryd.isAgg124
  z51 := Tryd.sizeOf124
  v51 := Tryd.zeroValue124
  t53 := Tryd.underlying82
  a53 := Tryd.isAgg82
  z53 := Tryd.sizeOf82
  v53 := Tryd.zeroValue82
  t131 := Tryd.underlying79
  a131 := Tryd.isAgg79
  z131 := Tryd.sizeOf79
  v131 := Tryd.zeroValue79
  t182 := Tryd.underlying117
  a182 := Tryd.isAgg117
  z182 := Tryd.sizeOf117
  v182 := Tryd.zeroValue117
  t183 := Tryd.underlying118
  a183 := Tryd.isAgg118
  z183 := Tryd.sizeOf118
  v183 := Tryd.zeroValue118
  t218 := Tryd.underlying133
  a218 := Tryd.isAgg133
  z218 := Tryd.sizeOf133
  v218 := Tryd.zeroValue133
  t222 := Tryd.underlying137
  a222 := Tryd.isAgg137
  z222 := Tryd.sizeOf137
  v222 := Tryd.zeroValue137
  t228 := Tryd.underlying146
  a228 := Tryd.isAgg146
  z228 := Tryd.sizeOf146
  v228 := Tryd.zeroValue146
  t229 := Tryd.underlying147
  a229 := Tryd.isAgg147
  z229 := Tryd.sizeOf147
  v229 := Tryd.zeroValue147 }
open Go.Sort Go.RowKit in
theorem Tryd.sort_Strings (blk off cap : Nat) (ss : List (List UInt8)) (w : World) (hH : Holds encStr w blk off ss.toArray) (hblk : blk < w.heap.size) (hsz : ss.length < 4611686018427387904) :
    Calls Tryd.prog 52 #[.slice (some ⟨blk, off, none⟩) ss.length cap] w fun e w' =>
      e = .returned (.tuple #[]) ∧ ∃ n os, w' = grow (putRow encStr (Sort.ahead w n) blk off (ss.mergeSort fun x y => decide (x ≤ y)).toArray) os := Any.sort_Strings Tryd.lays192 blk off cap ss w hH hblk hsz
open Go.RowKit Go.Sort in
/-- .. and plain. (LAID: no walk: one application.) -/
theorem Tryd.sort_Strings_none (p : Option Addr) (cap : Nat) (w : World) :
    Calls Tryd.prog 52 #[.slice p 0 cap] w fun e w' => e = .returned (.tuple #[]) ∧ w' = w := Any.sort_Strings_none Tryd.lays192 p cap w
end Go.Proofs
