/-
  DERIVED: THE SHELF's CONTRACTS AT THIS DUMP, IN PLAIN WORDS (tools/lay-plain.mjs out of 'TryzShelf.lean', which tools/lay-shelf.mjs wrote): THE SAME DECLARATIONS UNDER THE SAME NAMES: 'import', 'namespace', 'open', 'def', 'theorem' AND NOTHING ELSE: no command of the shelf's: FOR A HAND-IN. Each laying: the table of numbers ('.._ren') and one theorem, a field a fact of the dump's own or the kernel's comparison; each contract: ONE APPLICATION.
-/
import Derived.Shelf.Strings.Builder1
import Derived.Shelf.Strings.Builder2
import Derived.Shelf.Strings.OnBuilder
import Derived.Shelf.Small.Bits
import Derived.Shelf.Strings.BuilderF
import Derived.Shelf.Strings.BuilderK
import Derived.Shelf.Strings.Builder2Cap
import Derived.Shelf.Strconv.Itoa0
import Derived.Shelf.Strconv.Itoa1
import Derived.Shelf.LaysM
import Derived.Shelf.Strconv.Itoa2
import Derived.Shelf.Strconv.Itoa3
import Derived.Shelf.Sort.Plain
import Derived.Shelf.Unicode.Props
import Derived.Shelf.Unicode.Decode
import Derived.Shelf.Unicode.DecodeSlow
import Derived.Shelf.Unicode.DecodeAny
import Derived.Shelf.Unicode.Is16White
import Derived.Shelf.Unicode.IsSpaceAny
import Derived.Shelf.Unicode.Is16Any
import Derived.Shelf.Unicode.Is32Any
import Derived.Shelf.Unicode.ExclAny
import Derived.Shelf.Unicode.PredsAny
import Derived.Shelf.Slices.In.SortNone
import Derived.Shelf.Slices.In.SortNone2
import Derived.Test.YtiamiagjkfioiaaGreatDoorProg
namespace Go.Proofs
open Go.Shelf
def Tryz.laysM171_ren : Go.Shelf.Ren := ⟨fun | 171 => 102 | 243 => 125 | 246 => 152 | 283 => 168 | 284 => 169 | 285 => 170 | 286 => 171 | 129 => 146 | 317 => 187 | 318 => 188 | 319 => 189 | 320 => 190 | 337 => 198 | 338 => 199 | n => n, fun | 3 => 3 | 9 => 9 | 2 => 2 | 4 => 4 | 171 => 190 | 0 => 0 | 53 => 97 | 37 => 115 | 5 => 5 | 173 => 192 | 212 => 210 | 51 => 162 | 20 => 20 | 213 => 211 | 46 => 133 | 232 => 232 | 233 => 233 | n => n, fun | 17 => 3 | 18 => 6 | 19 => 7 | n => n⟩
theorem Tryz.laysM171 : Go.Proofs.LaysM.n171 Tryz.prog Tryz.laysM171_ren := {
  mixed := by kernel_rfl
  f129 := Tryz.func146.trans (congrArg some (by kernel_rfl))
  f171 := Tryz.func102.trans (congrArg some (by kernel_rfl))
  f243 := Tryz.func125.trans (congrArg some (by kernel_rfl))
  f246 := Tryz.func152.trans (congrArg some (by kernel_rfl))
  f283 := Tryz.func168.trans (congrArg some (by kernel_rfl))
  f284 := Tryz.func169.trans (congrArg some (by kernel_rfl))
  f285 := Tryz.func170.trans (congrArg some (by kernel_rfl))
  f286 := Tryz.func171.trans (congrArg some (by kernel_rfl))
  f317 := Tryz.func187.trans (congrArg some (by kernel_rfl))
  f318 := Tryz.func188.trans (congrArg some (by kernel_rfl))
  f319 := Tryz.func189.trans (congrArg some (by kernel_rfl))
  f320 := Tryz.func190.trans (congrArg some (by kernel_rfl))
  f337 := Tryz.func198.trans (congrArg some (by kernel_rfl))
  f338 := Tryz.func199.trans (congrArg some (by kernel_rfl))
  t0 := Tryz.underlying0
  a0 := Tryz.isAgg0
  z0 := Tryz.sizeOf0
  v0 := Tryz.zeroValue0
  t2 := Tryz.underlying2
  a2 := Tryz.isAgg2
  z2 := Tryz.sizeOf2
  v2 := Tryz.zeroValue2
  t3 := Tryz.underlying3
  a3 := Tryz.isAgg3
  z3 := Tryz.sizeOf3
  v3 := Tryz.zeroValue3
  t4 := Tryz.underlying4
  a4 := Tryz.isAgg4
  z4 := Tryz.sizeOf4
  v4 := Tryz.zeroValue4
  t5 := Tryz.underlying5
  a5 := Tryz.isAgg5
  z5 := Tryz.sizeOf5
  v5 := Tryz.zeroValue5
  t9 := Tryz.underlying9
  a9 := Tryz.isAgg9
  z9 := Tryz.sizeOf9
  v9 := Tryz.zeroValue9
  t20 := Tryz.underlying20
  a20 := Tryz.isAgg20
  z20 := Tryz.sizeOf20
  v20 := Tryz.zeroValue20
  t37 := Tryz.underlying115
  a37 := Tryz.isAgg115
  z37 := Tryz.sizeOf115
  v37 := Tryz.zeroValue115
  t46 := Tryz.underlying133
  a46 := Tryz.isAgg133
  z46 := Tryz.sizeOf133
  v46 := Tryz.zeroValue133
  t51 := Tryz.underlying162
  a51 := Tryz.isAgg162
  z51 := Tryz.sizeOf162
  v51 := Tryz.zeroValue162
  t53 := Tryz.underlying97
  a53 := Tryz.isAgg97
  z53 := Tryz.sizeOf97
  v53 := Tryz.zeroValue97
  t171 := Tryz.underlying190
  a171 := Tryz.isAgg190
  z171 := Tryz.sizeOf190
  v171 := Tryz.zeroValue190
  t173 := Tryz.underlying192
  a173 := Tryz.isAgg192
  z173 := Tryz.sizeOf192
  v173 := Tryz.zeroValue192
  t212 := Tryz.underlying210
  a212 := Tryz.isAgg210
  z212 := Tryz.sizeOf210
  v212 := Tryz.zeroValue210
  t213 := Tryz.underlying211
  a213 := Tryz.isAgg211
  z213 := Tryz.sizeOf211
  t232 := Tryz.underlying232
  a232 := Tryz.isAgg232
  z232 := Tryz.sizeOf232
  v232 := Tryz.zeroValue232
  t233 := Tryz.underlying233
  a233 := Tryz.isAgg233
  z233 := Tryz.sizeOf233
  v233 := Tryz.zeroValue233
  g17 := by kernel_rfl
  g18 := by kernel_rfl
  g19 := by kernel_rfl
  i0 := by kernel_rfl
  i2 := by kernel_rfl
  i3 := by kernel_rfl
  i4 := by kernel_rfl
  i5 := by kernel_rfl
  i9 := by kernel_rfl
  i20 := by kernel_rfl
  i37 := by kernel_rfl
  i46 := by kernel_rfl
  i51 := by kernel_rfl
  i53 := by kernel_rfl
  i171 := by kernel_rfl
  i173 := by kernel_rfl
  i212 := by kernel_rfl
  i232 := by kernel_rfl
  i233 := by kernel_rfl
  m17 := by kernel_rfl
  m18 := by kernel_rfl
  m19 := by kernel_rfl }
open Go.RowKit Go.Sort Go.Lib in
/-- strconv.Itoa: "Itoa is equivalent to FormatInt(int64(i), 10).": i's DECIMAL NUMERAL ('Lib.itoa': a '-' where i is negative, then the digits), FOR EVERY int. The world behind the call: the world before it, new blocks behind the heap (the library's 'var a [24]byte'), draws. (LAID: no walk: one application.) -/
theorem Tryz.strconv_Itoa (n : Int) (h0 : -9223372036854775808 ≤ n) (h1 : n ≤ 9223372036854775807) (w : World) (htab : Lib.TabIs Tryz.prog w "internal/strconv.uint64pow10" .u64 Lib.pow10Tab) :
    Calls Tryz.prog 102 #[.int .i64 n] w fun e w' => e = .returned (.string ⟨(Lib.itoa n).toArray⟩) ∧ ∃ k os, w' = grow (w.drewN k) os := Any.strconv_Itoa Tryz.laysM171 n h0 h1 w htab
def Tryz.lays192_ren : Go.Shelf.Ren := ⟨fun | 192 => 68 | 190 => 93 | 125 => 117 | 258 => 116 | 128 => 145 | 129 => 146 | 302 => 136 | 303 => 137 | 304 => 138 | 305 => 139 | 306 => 140 | 307 => 141 | 308 => 142 | 309 => 143 | 310 => 144 | 333 => 157 | 329 => 158 | 330 => 159 | 334 => 160 | 335 => 161 | 336 => 156 | 344 => 180 | n => n, fun | 31 => 22 | 0 => 0 | 9 => 9 | 3 => 3 | 46 => 133 | 51 => 162 | 53 => 97 | 4 => 4 | 183 => 155 | 182 => 154 | 131 => 70 | 5 => 5 | 218 => 175 | 222 => 179 | 228 => 199 | 229 => 200 | n => n, fun | n => n⟩
theorem Tryz.lays192 : Go.Proofs.Lays.n192 Tryz.prog Tryz.lays192_ren := {
  mixed := by kernel_rfl
  f125 := Tryz.func117.trans (congrArg some (by kernel_rfl))
  f128 := Tryz.func145.trans (congrArg some (by kernel_rfl))
  f129 := Tryz.func146.trans (congrArg some (by kernel_rfl))
  f190 := Tryz.func93.trans (congrArg some (by kernel_rfl))
  f192 := Tryz.func68.trans (congrArg some (by kernel_rfl))
  f258 := Tryz.func116.trans (congrArg some (by kernel_rfl))
  f302 := Tryz.func136.trans (congrArg some (by kernel_rfl))
  f303 := Tryz.func137.trans (congrArg some (by kernel_rfl))
  f304 := Tryz.func138.trans (congrArg some (by kernel_rfl))
  f305 := Tryz.func139.trans (congrArg some (by kernel_rfl))
  f306 := Tryz.func140.trans (congrArg some (by kernel_rfl))
  f307 := Tryz.func141.trans (congrArg some (by kernel_rfl))
  f308 := Tryz.func142.trans (congrArg some (by kernel_rfl))
  f309 := Tryz.func143.trans (congrArg some (by kernel_rfl))
  f310 := Tryz.func144.trans (congrArg some (by kernel_rfl))
  f329 := Tryz.func158.trans (congrArg some (by kernel_rfl))
  f330 := Tryz.func159.trans (congrArg some (by kernel_rfl))
  f333 := Tryz.func157.trans (congrArg some (by kernel_rfl))
  f334 := Tryz.func160.trans (congrArg some (by kernel_rfl))
  f335 := Tryz.func161.trans (congrArg some (by kernel_rfl))
  f336 := Tryz.func156.trans (congrArg some (by kernel_rfl))
  f344 := Tryz.func180.trans (congrArg some (by kernel_rfl))
  t0 := Tryz.underlying0
  a0 := Tryz.isAgg0
  z0 := Tryz.sizeOf0
  v0 := Tryz.zeroValue0
  t3 := Tryz.underlying3
  a3 := Tryz.isAgg3
  z3 := Tryz.sizeOf3
  v3 := Tryz.zeroValue3
  t4 := Tryz.underlying4
  a4 := Tryz.isAgg4
  z4 := Tryz.sizeOf4
  v4 := Tryz.zeroValue4
  t5 := Tryz.underlying5
  a5 := Tryz.isAgg5
  z5 := Tryz.sizeOf5
  v5 := Tryz.zeroValue5
  t9 := Tryz.underlying9
  a9 := Tryz.isAgg9
  z9 := Tryz.sizeOf9
  v9 := Tryz.zeroValue9
  t31 := Tryz.underlying22
  a31 := Tryz.isAgg22
  z31 := Tryz.sizeOf22
  v31 := Tryz.zeroValue22
  t46 := Tryz.underlying133
  a46 := Tryz.isAgg133
  z46 := Tryz.sizeOf133
  v46 := Tryz.zeroValue133
  t51 := Tryz.underlying162
  a51 := Tryz.isAgg162
  z51 := Tryz.sizeOf162
  v51 := Tryz.zeroValue162
  t53 := Tryz.underlying97
  a53 := Tryz.isAgg97
  z53 := Tryz.sizeOf97
  v53 := Tryz.zeroValue97
  t131 := Tryz.underlying70
  a131 := Tryz.isAgg70
  z131 := Tryz.sizeOf70
  v131 := Tryz.zeroValue70
  t182 := Tryz.underlying154
  a182 := Tryz.isAgg154
  z182 := Tryz.sizeOf154
  v182 := Tryz.zeroValue154
  t183 := Tryz.underlying155
  a183 := Tryz.isAgg155
  z183 := Tryz.sizeOf155
  v183 := Tryz.zeroValue155
  t218 := Tryz.underlying175
  a218 := Tryz.isAgg175
  z218 := Tryz.sizeOf175
  v218 := Tryz.zeroValue175
  t222 := Tryz.underlying179
  a222 := Tryz.isAgg179
  z222 := Tryz.sizeOf179
  v222 := Tryz.zeroValue179
  t228 := Tryz.underlying199
  a228 := Tryz.isAgg199
  z228 := Tryz.sizeOf199
  v228 := Tryz.zeroValue199
  t229 := Tryz.underlying200
  a229 := Tryz.isAgg200
  z229 := Tryz.sizeOf200
  v229 := Tryz.zeroValue200 }
open Go.Sort Go.RowKit in
theorem Tryz.sort_Strings (blk off cap : Nat) (ss : List (List UInt8)) (w : World) (hH : Holds encStr w blk off ss.toArray) (hblk : blk < w.heap.size) (hsz : ss.length < 4611686018427387904) :
    Calls Tryz.prog 68 #[.slice (some ⟨blk, off, none⟩) ss.length cap] w fun e w' =>
      e = .returned (.tuple #[]) ∧ ∃ n os, w' = grow (putRow encStr (Sort.ahead w n) blk off (ss.mergeSort fun x y => decide (x ≤ y)).toArray) os := Any.sort_Strings Tryz.lays192 blk off cap ss w hH hblk hsz
open Go.RowKit Go.Sort in
/-- .. and plain. (LAID: no walk: one application.) -/
theorem Tryz.sort_Strings_none (p : Option Addr) (cap : Nat) (w : World) :
    Calls Tryz.prog 68 #[.slice p 0 cap] w fun e w' => e = .returned (.tuple #[]) ∧ w' = w := Any.sort_Strings_none Tryz.lays192 p cap w
end Go.Proofs
