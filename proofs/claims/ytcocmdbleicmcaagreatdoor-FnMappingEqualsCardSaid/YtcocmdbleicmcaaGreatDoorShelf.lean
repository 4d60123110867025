/-
  DERIVED: THE SHELF's CONTRACTS AT THIS DUMP, IN PLAIN WORDS (tools/lay-plain.mjs out of 'TryzShelf.lean', which tools/lay-shelf.mjs wrote): THE SAME DECLARATIONS UNDER THE SAME NAMES: 'import', 'namespace', 'open', 'def', 'theorem' AND NOTHING ELSE: no command of the shelf's: FOR A HAND-IN. Each laying: the table of numbers ('.._ren') and one theorem, a field a fact of the dump's own or the kernel's comparison; each contract: ONE APPLICATION.
-/
import Derived.Shelf.Strings.Builder1
import Derived.Shelf.Strings.Builder2
import Derived.Shelf.Strings.OnBuilder
import Derived.Shelf.Strings.TrimSpace
import Derived.Shelf.Small.Utf8
import Derived.Shelf.Small.Bits
import Derived.Shelf.Strconv.ParseBool
import Derived.Shelf.Strconv.Itoa0
import Derived.Shelf.Strconv.Itoa1
import Derived.Shelf.LaysM
import Derived.Shelf.Strconv.Itoa2
import Derived.Shelf.Strconv.Itoa3
import Derived.Shelf.Sort.Plain
import Derived.Ground.GgsProg
import Derived.Shelf.GgSortFunc.Insertion
import Derived.Shelf.GgSortFunc.Small
import Derived.Shelf.GgSortFunc.InsertionK
import Derived.Shelf.GgSortFunc.SmallK
import Derived.Shelf.GgSortFunc.Tiny
import Derived.Shelf.GgSortFunc.Compose
import Derived.Shelf.GgSortFunc.LotD
import Derived.Shelf.Unicode.Latin
import Derived.Shelf.Unicode.Decode
import Derived.Shelf.Unicode.DecodeSlow
import Derived.Shelf.Unicode.DecodeAny
import Derived.Shelf.Unicode.Is16White
import Derived.Shelf.Unicode.IsSpaceAny
import Derived.Shelf.Unicode.DecodeLast
import Derived.Shelf.Unicode.CaseLookup
import Derived.Shelf.Unicode.CaseConvert
import Derived.Shelf.Unicode.CaseTo
import Derived.Shelf.Unicode.CaseLaid
import Derived.Shelf.Unicode.Is16Any
import Derived.Shelf.Unicode.Is32Any
import Derived.Shelf.Unicode.ExclAny
import Derived.Shelf.Slices.Turned
import Derived.Shelf.Slices.In.SortNone
import Derived.Shelf.Slices.In.SortNone2
import Derived.Shelf.SlSortFunc.Xorshift
import Derived.Shelf.SlSortFuncK.ComposeK
import Derived.Shelf.SlSortFuncK.SiftDownK
import Derived.Shelf.SlSortFuncK.HeapSortK
import Derived.Shelf.SlSortFuncK.PartialInsertionK
import Derived.Shelf.SlSortFuncK.LotDK
import Derived.Shelf.SlSortFuncK.PivotK
import Derived.Shelf.SlSortFuncK.PartitionK
import Derived.Shelf.SlSortFuncK.PdqK
import Derived.Shelf.SlSortFuncK.WholeK
import Derived.Test.YtcocmdbleicmcaaGreatDoorProg
namespace Go.Proofs
open Go.Shelf
def Tryz.lays159_ren : Go.Shelf.Ren := ⟨fun | 159 => 108 | 165 => 135 | 166 => 136 | 167 => 137 | 169 => 138 | 230 => 139 | 204 => 140 | 240 => 155 | 241 => 156 | 197 => 157 | 118 => 158 | 168 => 159 | 270 => 160 | 262 => 161 | 276 => 177 | 277 => 178 | 260 => 179 | 242 => 180 | 313 => 181 | 278 => 193 | 274 => 194 | 275 => 195 | n => n, fun | 9 => 9 | 4 => 4 | 3 => 3 | 5 => 5 | 72 => 170 | 0 => 0 | 76 => 172 | 75 => 109 | 107 => 177 | 70 => 167 | 20 => 20 | 37 => 168 | 127 => 192 | 21 => 21 | 105 => 193 | 164 => 129 | 162 => 219 | 203 => 217 | 119 => 180 | 46 => 138 | 139 => 236 | 138 => 235 | 51 => 155 | 160 => 237 | 208 => 249 | 206 => 247 | 80 => 175 | n => n, fun | 13 => 4 | 3 => 6 | 4 => 7 | n => n⟩
theorem Tryz.lays159 : Go.Proofs.Lays.n159 Tryz.prog Tryz.lays159_ren := {
  mixed := by kernel_rfl
  f118 := Tryz.func158.trans (congrArg some (by kernel_rfl))
  f159 := Tryz.func108.trans (congrArg some (by kernel_rfl))
  f165 := Tryz.func135.trans (congrArg some (by kernel_rfl))
  f166 := Tryz.func136.trans (congrArg some (by kernel_rfl))
  f167 := Tryz.func137.trans (congrArg some (by kernel_rfl))
  f168 := Tryz.func159.trans (congrArg some (by kernel_rfl))
  f169 := Tryz.func138.trans (congrArg some (by kernel_rfl))
  f197 := Tryz.func157.trans (congrArg some (by kernel_rfl))
  f204 := Tryz.func140.trans (congrArg some (by kernel_rfl))
  f230 := Tryz.func139.trans (congrArg some (by kernel_rfl))
  f240 := Tryz.func155.trans (congrArg some (by kernel_rfl))
  f241 := Tryz.func156.trans (congrArg some (by kernel_rfl))
  f242 := Tryz.func180.trans (congrArg some (by kernel_rfl))
  f260 := Tryz.func179.trans (congrArg some (by kernel_rfl))
  f262 := Tryz.func161.trans (congrArg some (by kernel_rfl))
  f270 := Tryz.func160.trans (congrArg some (by kernel_rfl))
  f274 := Tryz.func194.trans (congrArg some (by kernel_rfl))
  f275 := Tryz.func195.trans (congrArg some (by kernel_rfl))
  f276 := Tryz.func177.trans (congrArg some (by kernel_rfl))
  f277 := Tryz.func178.trans (congrArg some (by kernel_rfl))
  f278 := Tryz.func193.trans (congrArg some (by kernel_rfl))
  f313 := Tryz.func181.trans (congrArg some (by kernel_rfl))
  t0 := Tryz.underlying0
  a0 := Tryz.isAgg0
  z0 := Tryz.sizeOf0
  v0 := Tryz.zeroValue0
  t3 := Tryz.underlying3
  a3 := Tryz.isAgg3
  z3 := Tryz.sizeOf3
  v3 := Tryz.zeroValue3
  t4 := Tryz.underlying4
  a4 := Tryz.isAgg4
  z4 := Tryz.sizeOf4
  v4 := Tryz.zeroValue4
  t5 := Tryz.underlying5
  a5 := Tryz.isAgg5
  z5 := Tryz.sizeOf5
  v5 := Tryz.zeroValue5
  t9 := Tryz.underlying9
  a9 := Tryz.isAgg9
  z9 := Tryz.sizeOf9
  v9 := Tryz.zeroValue9
  t20 := Tryz.underlying20
  a20 := Tryz.isAgg20
  z20 := Tryz.sizeOf20
  v20 := Tryz.zeroValue20
  t21 := Tryz.underlying21
  a21 := Tryz.isAgg21
  z21 := Tryz.sizeOf21
  v21 := Tryz.zeroValue21
  t37 := Tryz.underlying168
  a37 := Tryz.isAgg168
  z37 := Tryz.sizeOf168
  v37 := Tryz.zeroValue168
  t46 := Tryz.underlying138
  a46 := Tryz.isAgg138
  z46 := Tryz.sizeOf138
  v46 := Tryz.zeroValue138
  t51 := Tryz.underlying155
  a51 := Tryz.isAgg155
  z51 := Tryz.sizeOf155
  v51 := Tryz.zeroValue155
  t70 := Tryz.underlying167
  a70 := Tryz.isAgg167
  z70 := Tryz.sizeOf167
  v70 := Tryz.zeroValue167
  t72 := Tryz.underlying170
  a72 := Tryz.isAgg170
  z72 := Tryz.sizeOf170
  v72 := Tryz.zeroValue170
  t75 := Tryz.underlying109
  a75 := Tryz.isAgg109
  z75 := Tryz.sizeOf109
  v75 := Tryz.zeroValue109
  t76 := Tryz.underlying172
  a76 := Tryz.isAgg172
  z76 := Tryz.sizeOf172
  v76 := Tryz.zeroValue172
  t105 := Tryz.underlying193
  a105 := Tryz.isAgg193
  z105 := Tryz.sizeOf193
  v105 := Tryz.zeroValue193
  t107 := Tryz.underlying177
  a107 := Tryz.isAgg177
  z107 := Tryz.sizeOf177
  v107 := Tryz.zeroValue177
  t119 := Tryz.underlying180
  a119 := Tryz.isAgg180
  z119 := Tryz.sizeOf180
  t127 := Tryz.underlying192
  a127 := Tryz.isAgg192
  z127 := Tryz.sizeOf192
  v127 := Tryz.zeroValue192
  t138 := Tryz.underlying235
  a138 := Tryz.isAgg235
  z138 := Tryz.sizeOf235
  v138 := Tryz.zeroValue235
  t139 := Tryz.underlying236
  a139 := Tryz.isAgg236
  z139 := Tryz.sizeOf236
  v139 := Tryz.zeroValue236
  t160 := Tryz.underlying237
  a160 := Tryz.isAgg237
  z160 := Tryz.sizeOf237
  v160 := Tryz.zeroValue237
  t162 := Tryz.underlying219
  a162 := Tryz.isAgg219
  z162 := Tryz.sizeOf219
  v162 := Tryz.zeroValue219
  t164 := Tryz.underlying129
  a164 := Tryz.isAgg129
  z164 := Tryz.sizeOf129
  v164 := Tryz.zeroValue129
  t203 := Tryz.underlying217
  a203 := Tryz.isAgg217
  z203 := Tryz.sizeOf217
  v203 := Tryz.zeroValue217
  t206 := Tryz.underlying247
  a206 := Tryz.isAgg247
  z206 := Tryz.sizeOf247
  v206 := Tryz.zeroValue247
  t208 := Tryz.underlying249
  a208 := Tryz.isAgg249
  z208 := Tryz.sizeOf249
  v208 := Tryz.zeroValue249
  g3 := by kernel_rfl
  g4 := by kernel_rfl
  g13 := by kernel_rfl }
theorem Tryz.Builder_Extra_159 : Builder.Extra Tryz.prog Tryz.lays159_ren := {
  sizeBuilder := by kernel_rfl
  liesBuilder := by kernel_rfl
  t5 := Tryz.underlying5
  a5 := Tryz.isAgg5
  z5 := Tryz.sizeOf5
  v5 := Tryz.zeroValue5
  infoByte := by kernel_rfl
  cellsByte := by kernel_rfl
  sizeByte := by kernel_rfl
  neB5 := by decide }
open Go.RowKit in
/-- strings.ToLower: "ToLower returns s with all Unicode letters mapped to their lower case.": ON ASCII TEXT OF AT MOST 2^47 BYTES. Below the heap's end the world is as it was: where a letter turns, the call makes a builder and its buffer. (LAID: no walk: one application.) -/
theorem Tryz.strings_ToLower_ascii (s : ByteArray) (w : World) (hs : s.size ≤ 140737488355328) (hascii : ∀ (j : Nat) (b : UInt8), s.data.toList[j]? = some b → b.toNat < 128) :
    Calls Tryz.prog 108 #[.string s] w fun e w' => e = .returned (.string ⟨(Lib.toLowerA s.data.toList).toArray⟩) ∧ Below w.heap.size w w' := Any.strings_ToLower_ascii Tryz.lays159 Tryz.Builder_Extra_159 s w hs hascii
def Tryz.lays163_ren : Go.Shelf.Ren := ⟨fun | 163 => 109 | 237 => 141 | 199 => 142 | 238 => 143 | 272 => 162 | 261 => 163 | 273 => 164 | 197 => 157 | 315 => 182 | 311 => 183 | 312 => 184 | 271 => 185 | 260 => 179 | 120 => 196 | n => n, fun | 9 => 9 | 37 => 168 | 3 => 3 | 0 => 0 | 5 => 5 | 4 => 4 | 40 => 179 | 119 => 180 | 21 => 21 | 51 => 155 | 141 => 199 | 105 => 193 | 196 => 223 | 193 => 220 | 198 => 226 | 49 => 224 | 194 => 221 | 201 => 229 | 226 => 240 | 46 => 138 | 227 => 241 | 139 => 236 | 138 => 235 | n => n, fun | 0 => 0 | 6 => 1 | 3 => 6 | 4 => 7 | n => n⟩
theorem Tryz.lays163 : Go.Proofs.Lays.n163 Tryz.prog Tryz.lays163_ren := {
  mixed := by kernel_rfl
  f120 := Tryz.func196.trans (congrArg some (by kernel_rfl))
  f163 := Tryz.func109.trans (congrArg some (by kernel_rfl))
  f197 := Tryz.func157.trans (congrArg some (by kernel_rfl))
  f199 := Tryz.func142.trans (congrArg some (by kernel_rfl))
  f237 := Tryz.func141.trans (congrArg some (by kernel_rfl))
  f238 := Tryz.func143.trans (congrArg some (by kernel_rfl))
  f260 := Tryz.func179.trans (congrArg some (by kernel_rfl))
  f261 := Tryz.func163.trans (congrArg some (by kernel_rfl))
  f271 := Tryz.func185.trans (congrArg some (by kernel_rfl))
  f272 := Tryz.func162.trans (congrArg some (by kernel_rfl))
  f273 := Tryz.func164.trans (congrArg some (by kernel_rfl))
  f311 := Tryz.func183.trans (congrArg some (by kernel_rfl))
  f312 := Tryz.func184.trans (congrArg some (by kernel_rfl))
  f315 := Tryz.func182.trans (congrArg some (by kernel_rfl))
  t0 := Tryz.underlying0
  a0 := Tryz.isAgg0
  z0 := Tryz.sizeOf0
  v0 := Tryz.zeroValue0
  t3 := Tryz.underlying3
  a3 := Tryz.isAgg3
  z3 := Tryz.sizeOf3
  v3 := Tryz.zeroValue3
  t4 := Tryz.underlying4
  a4 := Tryz.isAgg4
  z4 := Tryz.sizeOf4
  v4 := Tryz.zeroValue4
  t5 := Tryz.underlying5
  a5 := Tryz.isAgg5
  z5 := Tryz.sizeOf5
  v5 := Tryz.zeroValue5
  t9 := Tryz.underlying9
  a9 := Tryz.isAgg9
  z9 := Tryz.sizeOf9
  v9 := Tryz.zeroValue9
  t21 := Tryz.underlying21
  a21 := Tryz.isAgg21
  z21 := Tryz.sizeOf21
  v21 := Tryz.zeroValue21
  t37 := Tryz.underlying168
  a37 := Tryz.isAgg168
  z37 := Tryz.sizeOf168
  v37 := Tryz.zeroValue168
  t40 := Tryz.underlying179
  a40 := Tryz.isAgg179
  z40 := Tryz.sizeOf179
  v40 := Tryz.zeroValue179
  t46 := Tryz.underlying138
  a46 := Tryz.isAgg138
  z46 := Tryz.sizeOf138
  v46 := Tryz.zeroValue138
  t49 := Tryz.underlying224
  a49 := Tryz.isAgg224
  z49 := Tryz.sizeOf224
  v49 := Tryz.zeroValue224
  t51 := Tryz.underlying155
  a51 := Tryz.isAgg155
  z51 := Tryz.sizeOf155
  v51 := Tryz.zeroValue155
  t105 := Tryz.underlying193
  a105 := Tryz.isAgg193
  z105 := Tryz.sizeOf193
  v105 := Tryz.zeroValue193
  t119 := Tryz.underlying180
  a119 := Tryz.isAgg180
  z119 := Tryz.sizeOf180
  t138 := Tryz.underlying235
  a138 := Tryz.isAgg235
  z138 := Tryz.sizeOf235
  v138 := Tryz.zeroValue235
  t139 := Tryz.underlying236
  a139 := Tryz.isAgg236
  z139 := Tryz.sizeOf236
  v139 := Tryz.zeroValue236
  t141 := Tryz.underlying199
  a141 := Tryz.isAgg199
  z141 := Tryz.sizeOf199
  v141 := Tryz.zeroValue199
  t193 := Tryz.underlying220
  a193 := Tryz.isAgg220
  z193 := Tryz.sizeOf220
  v193 := Tryz.zeroValue220
  t194 := Tryz.underlying221
  a194 := Tryz.isAgg221
  z194 := Tryz.sizeOf221
  v194 := Tryz.zeroValue221
  t196 := Tryz.underlying223
  a196 := Tryz.isAgg223
  z196 := Tryz.sizeOf223
  v196 := Tryz.zeroValue223
  t198 := Tryz.underlying226
  a198 := Tryz.isAgg226
  z198 := Tryz.sizeOf226
  v198 := Tryz.zeroValue226
  t201 := Tryz.underlying229
  a201 := Tryz.isAgg229
  z201 := Tryz.sizeOf229
  v201 := Tryz.zeroValue229
  t226 := Tryz.underlying240
  a226 := Tryz.isAgg240
  z226 := Tryz.sizeOf240
  v226 := Tryz.zeroValue240
  t227 := Tryz.underlying241
  a227 := Tryz.isAgg241
  z227 := Tryz.sizeOf241
  v227 := Tryz.zeroValue241
  g0 := by kernel_rfl
  g3 := by kernel_rfl
  g4 := by kernel_rfl
  g6 := by kernel_rfl }
theorem Tryz.Space_Extra_163 : Space.Extra Tryz.prog Tryz.lays163_ren := {
  gNamed := by kernel_rfl }
open Go.RowKit in
theorem Tryz.strings_TrimSpace (s : ByteArray) (w : World) (hs : s.size ≤ 9223372036854775807) (hascii : ∀ (j : Nat) b, s.data.toList[j]? = some b → b.toNat < 128) (htab : Lib.TabIs Tryz.prog w "strings.asciiSpace" .u8 Lib.asciiSpaceTab) :
    Calls Tryz.prog 109 #[.string s] w fun e w' => e = .returned (.string ⟨(Lib.trimSpace s.data.toList).toArray⟩) ∧ w' = Lib.bytesWorld w 5 s := Any.strings_TrimSpace Tryz.lays163 Tryz.Space_Extra_163 s w hs hascii htab
def Tryz.lays175_ren : Go.Shelf.Ren := ⟨fun | 175 => 107 | 248 => 133 | 245 => 134 | 279 => 151 | 280 => 152 | 281 => 153 | 282 => 154 | 316 => 175 | 171 => 176 | 205 => 99 | 243 => 192 | 246 => 198 | 283 => 199 | 284 => 200 | 285 => 201 | 286 => 202 | 129 => 124 | 317 => 203 | 318 => 204 | 319 => 205 | 320 => 206 | 337 => 207 | 338 => 208 | n => n, fun | 9 => 9 | 4 => 4 | 75 => 109 | 87 => 143 | 3 => 3 | 167 => 188 | 168 => 189 | 210 => 212 | 37 => 168 | 0 => 0 | 127 => 192 | 145 => 149 | 143 => 147 | 2 => 2 | 171 => 250 | 53 => 157 | 5 => 5 | 173 => 252 | 212 => 256 | 51 => 155 | 20 => 20 | 213 => 257 | 46 => 138 | 232 => 259 | 233 => 260 | 80 => 175 | n => n, fun | 15 => 2 | 16 => 3 | 17 => 8 | 18 => 9 | 19 => 10 | n => n⟩
theorem Tryz.lays175 : Go.Proofs.Lays.n175 Tryz.prog Tryz.lays175_ren := {
  mixed := by kernel_rfl
  f129 := Tryz.func124.trans (congrArg some (by kernel_rfl))
  f171 := Tryz.func176.trans (congrArg some (by kernel_rfl))
  f175 := Tryz.func107.trans (congrArg some (by kernel_rfl))
  f205 := Tryz.func99.trans (congrArg some (by kernel_rfl))
  f243 := Tryz.func192.trans (congrArg some (by kernel_rfl))
  f245 := Tryz.func134.trans (congrArg some (by kernel_rfl))
  f246 := Tryz.func198.trans (congrArg some (by kernel_rfl))
  f248 := Tryz.func133.trans (congrArg some (by kernel_rfl))
  f279 := Tryz.func151.trans (congrArg some (by kernel_rfl))
  f280 := Tryz.func152.trans (congrArg some (by kernel_rfl))
  f281 := Tryz.func153.trans (congrArg some (by kernel_rfl))
  f282 := Tryz.func154.trans (congrArg some (by kernel_rfl))
  f283 := Tryz.func199.trans (congrArg some (by kernel_rfl))
  f284 := Tryz.func200.trans (congrArg some (by kernel_rfl))
  f285 := Tryz.func201.trans (congrArg some (by kernel_rfl))
  f286 := Tryz.func202.trans (congrArg some (by kernel_rfl))
  f316 := Tryz.func175.trans (congrArg some (by kernel_rfl))
  f317 := Tryz.func203.trans (congrArg some (by kernel_rfl))
  f318 := Tryz.func204.trans (congrArg some (by kernel_rfl))
  f319 := Tryz.func205.trans (congrArg some (by kernel_rfl))
  f320 := Tryz.func206.trans (congrArg some (by kernel_rfl))
  f337 := Tryz.func207.trans (congrArg some (by kernel_rfl))
  f338 := Tryz.func208.trans (congrArg some (by kernel_rfl))
  t0 := Tryz.underlying0
  a0 := Tryz.isAgg0
  z0 := Tryz.sizeOf0
  v0 := Tryz.zeroValue0
  t2 := Tryz.underlying2
  a2 := Tryz.isAgg2
  z2 := Tryz.sizeOf2
  v2 := Tryz.zeroValue2
  t3 := Tryz.underlying3
  a3 := Tryz.isAgg3
  z3 := Tryz.sizeOf3
  v3 := Tryz.zeroValue3
  t4 := Tryz.underlying4
  a4 := Tryz.isAgg4
  z4 := Tryz.sizeOf4
  v4 := Tryz.zeroValue4
  t5 := Tryz.underlying5
  a5 := Tryz.isAgg5
  z5 := Tryz.sizeOf5
  v5 := Tryz.zeroValue5
  t9 := Tryz.underlying9
  a9 := Tryz.isAgg9
  z9 := Tryz.sizeOf9
  v9 := Tryz.zeroValue9
  t20 := Tryz.underlying20
  a20 := Tryz.isAgg20
  z20 := Tryz.sizeOf20
  v20 := Tryz.zeroValue20
  t37 := Tryz.underlying168
  a37 := Tryz.isAgg168
  z37 := Tryz.sizeOf168
  v37 := Tryz.zeroValue168
  t46 := Tryz.underlying138
  a46 := Tryz.isAgg138
  z46 := Tryz.sizeOf138
  v46 := Tryz.zeroValue138
  t51 := Tryz.underlying155
  a51 := Tryz.isAgg155
  z51 := Tryz.sizeOf155
  v51 := Tryz.zeroValue155
  t53 := Tryz.underlying157
  a53 := Tryz.isAgg157
  z53 := Tryz.sizeOf157
  v53 := Tryz.zeroValue157
  t75 := Tryz.underlying109
  a75 := Tryz.isAgg109
  z75 := Tryz.sizeOf109
  v75 := Tryz.zeroValue109
  t87 := Tryz.underlying143
  a87 := Tryz.isAgg143
  z87 := Tryz.sizeOf143
  v87 := Tryz.zeroValue143
  t127 := Tryz.underlying192
  a127 := Tryz.isAgg192
  z127 := Tryz.sizeOf192
  v127 := Tryz.zeroValue192
  t143 := Tryz.underlying147
  a143 := Tryz.isAgg147
  z143 := Tryz.sizeOf147
  v143 := Tryz.zeroValue147
  t145 := Tryz.underlying149
  a145 := Tryz.isAgg149
  z145 := Tryz.sizeOf149
  v145 := Tryz.zeroValue149
  t167 := Tryz.underlying188
  a167 := Tryz.isAgg188
  z167 := Tryz.sizeOf188
  v167 := Tryz.zeroValue188
  t168 := Tryz.underlying189
  a168 := Tryz.isAgg189
  z168 := Tryz.sizeOf189
  v168 := Tryz.zeroValue189
  t171 := Tryz.underlying250
  a171 := Tryz.isAgg250
  z171 := Tryz.sizeOf250
  v171 := Tryz.zeroValue250
  t173 := Tryz.underlying252
  a173 := Tryz.isAgg252
  z173 := Tryz.sizeOf252
  v173 := Tryz.zeroValue252
  t210 := Tryz.underlying212
  a210 := Tryz.isAgg212
  z210 := Tryz.sizeOf212
  v210 := Tryz.zeroValue212
  t212 := Tryz.underlying256
  a212 := Tryz.isAgg256
  z212 := Tryz.sizeOf256
  v212 := Tryz.zeroValue256
  t213 := Tryz.underlying257
  a213 := Tryz.isAgg257
  z213 := Tryz.sizeOf257
  t232 := Tryz.underlying259
  a232 := Tryz.isAgg259
  z232 := Tryz.sizeOf259
  v232 := Tryz.zeroValue259
  t233 := Tryz.underlying260
  a233 := Tryz.isAgg260
  z233 := Tryz.sizeOf260
  v233 := Tryz.zeroValue260
  g15 := by kernel_rfl
  g16 := by kernel_rfl
  g17 := by kernel_rfl
  g18 := by kernel_rfl
  g19 := by kernel_rfl }
/-- strconv.ParseBool: "ParseBool returns the boolean value represented by the string. It accepts 1, t, T, TRUE, true, True, 0, f, F, FALSE, false, False. Any other value returns an error.": AT ONE OF THE TWELVE. The world is as it was. (LAID: no walk: one application.) -/
theorem Tryz.strconv_ParseBool (s : ByteArray) (b : Bool) (h : Lib.parseBool s.data.toList = some b) (w : World) :
    Calls Tryz.prog 107 #[.string s] w fun e w' => e = .returned (.tuple #[.bool b, .nilIface]) ∧ w' = w := Any.strconv_ParseBool Tryz.lays175 s b h w
def Tryz.laysGg6_ren : Go.Shelf.Ren := ⟨fun | 6 => 85 | 10 => 101 | 11 => 102 | 12 => 103 | 13 => 104 | 14 => 105 | 24 => 123 | 25 => 124 | 26 => 125 | 27 => 126 | 28 => 127 | 29 => 128 | 30 => 129 | 31 => 130 | 32 => 131 | 33 => 132 | 34 => 146 | 35 => 147 | 36 => 148 | 37 => 149 | 38 => 150 | 39 => 174 | n => n, fun | 20 => 20 | 26 => 113 | 35 => 132 | 0 => 0 | 37 => 134 | 3 => 3 | 41 => 138 | 44 => 141 | 49 => 155 | 51 => 157 | 4 => 4 | 54 => 160 | 53 => 159 | 58 => 164 | 5 => 5 | 9 => 9 | 60 => 182 | 64 => 186 | 66 => 208 | 67 => 209 | 17 => 17 | 32 => 129 | 33 => 130 | 82 => 272 | 12 => 12 | 75 => 266 | 76 => 267 | 77 => 268 | 78 => 192 | 79 => 269 | 80 => 270 | n => n, fun | n => n⟩
theorem Tryz.laysGg6 : Go.Proofs.LaysGg.n6 Tryz.prog Tryz.laysGg6_ren := {
  mixed := by kernel_rfl
  f6 := Tryz.func85.trans (congrArg some (by kernel_rfl))
  f10 := Tryz.func101.trans (congrArg some (by kernel_rfl))
  f11 := Tryz.func102.trans (congrArg some (by kernel_rfl))
  f12 := Tryz.func103.trans (congrArg some (by kernel_rfl))
  f13 := Tryz.func104.trans (congrArg some (by kernel_rfl))
  f14 := Tryz.func105.trans (congrArg some (by kernel_rfl))
  f24 := Tryz.func123.trans (congrArg some (by kernel_rfl))
  f25 := Tryz.func124.trans (congrArg some (by kernel_rfl))
  f26 := Tryz.func125.trans (congrArg some (by kernel_rfl))
  f27 := Tryz.func126.trans (congrArg some (by kernel_rfl))
  f28 := Tryz.func127.trans (congrArg some (by kernel_rfl))
  f29 := Tryz.func128.trans (congrArg some (by kernel_rfl))
  f30 := Tryz.func129.trans (congrArg some (by kernel_rfl))
  f31 := Tryz.func130.trans (congrArg some (by kernel_rfl))
  f32 := Tryz.func131.trans (congrArg some (by kernel_rfl))
  f33 := Tryz.func132.trans (congrArg some (by kernel_rfl))
  f34 := Tryz.func146.trans (congrArg some (by kernel_rfl))
  f35 := Tryz.func147.trans (congrArg some (by kernel_rfl))
  f36 := Tryz.func148.trans (congrArg some (by kernel_rfl))
  f37 := Tryz.func149.trans (congrArg some (by kernel_rfl))
  f38 := Tryz.func150.trans (congrArg some (by kernel_rfl))
  f39 := Tryz.func174.trans (congrArg some (by kernel_rfl))
  t0 := Tryz.underlying0
  a0 := Tryz.isAgg0
  z0 := Tryz.sizeOf0
  v0 := Tryz.zeroValue0
  i0 := by kernel_rfl
  t3 := Tryz.underlying3
  a3 := Tryz.isAgg3
  z3 := Tryz.sizeOf3
  v3 := Tryz.zeroValue3
  i3 := by kernel_rfl
  t4 := Tryz.underlying4
  a4 := Tryz.isAgg4
  z4 := Tryz.sizeOf4
  v4 := Tryz.zeroValue4
  i4 := by kernel_rfl
  t5 := Tryz.underlying5
  a5 := Tryz.isAgg5
  z5 := Tryz.sizeOf5
  v5 := Tryz.zeroValue5
  i5 := by kernel_rfl
  t9 := Tryz.underlying9
  a9 := Tryz.isAgg9
  z9 := Tryz.sizeOf9
  v9 := Tryz.zeroValue9
  i9 := by kernel_rfl
  t12 := Tryz.underlying12
  a12 := Tryz.isAgg12
  z12 := Tryz.sizeOf12
  v12 := Tryz.zeroValue12
  i12 := by kernel_rfl
  t17 := Tryz.underlying17
  a17 := Tryz.isAgg17
  z17 := Tryz.sizeOf17
  v17 := Tryz.zeroValue17
  i17 := by kernel_rfl
  t20 := Tryz.underlying20
  a20 := Tryz.isAgg20
  z20 := Tryz.sizeOf20
  v20 := Tryz.zeroValue20
  i20 := by kernel_rfl
  t26 := Tryz.underlying113
  a26 := Tryz.isAgg113
  z26 := Tryz.sizeOf113
  v26 := Tryz.zeroValue113
  i26 := by kernel_rfl
  t32 := Tryz.underlying129
  a32 := Tryz.isAgg129
  z32 := Tryz.sizeOf129
  v32 := Tryz.zeroValue129
  i32 := by kernel_rfl
  t33 := Tryz.underlying130
  a33 := Tryz.isAgg130
  z33 := Tryz.sizeOf130
  v33 := Tryz.zeroValue130
  i33 := by kernel_rfl
  t35 := Tryz.underlying132
  a35 := Tryz.isAgg132
  z35 := Tryz.sizeOf132
  v35 := Tryz.zeroValue132
  i35 := by kernel_rfl
  t37 := Tryz.underlying134
  a37 := Tryz.isAgg134
  z37 := Tryz.sizeOf134
  v37 := Tryz.zeroValue134
  i37 := by kernel_rfl
  t41 := Tryz.underlying138
  a41 := Tryz.isAgg138
  z41 := Tryz.sizeOf138
  v41 := Tryz.zeroValue138
  i41 := by kernel_rfl
  t44 := Tryz.underlying141
  a44 := Tryz.isAgg141
  z44 := Tryz.sizeOf141
  v44 := Tryz.zeroValue141
  i44 := by kernel_rfl
  t49 := Tryz.underlying155
  a49 := Tryz.isAgg155
  z49 := Tryz.sizeOf155
  v49 := Tryz.zeroValue155
  i49 := by kernel_rfl
  t51 := Tryz.underlying157
  a51 := Tryz.isAgg157
  z51 := Tryz.sizeOf157
  v51 := Tryz.zeroValue157
  i51 := by kernel_rfl
  t53 := Tryz.underlying159
  a53 := Tryz.isAgg159
  z53 := Tryz.sizeOf159
  v53 := Tryz.zeroValue159
  i53 := by kernel_rfl
  t54 := Tryz.underlying160
  a54 := Tryz.isAgg160
  z54 := Tryz.sizeOf160
  v54 := Tryz.zeroValue160
  i54 := by kernel_rfl
  t58 := Tryz.underlying164
  a58 := Tryz.isAgg164
  z58 := Tryz.sizeOf164
  v58 := Tryz.zeroValue164
  i58 := by kernel_rfl
  t60 := Tryz.underlying182
  a60 := Tryz.isAgg182
  z60 := Tryz.sizeOf182
  v60 := Tryz.zeroValue182
  i60 := by kernel_rfl
  t64 := Tryz.underlying186
  a64 := Tryz.isAgg186
  z64 := Tryz.sizeOf186
  v64 := Tryz.zeroValue186
  i64 := by kernel_rfl
  t66 := Tryz.underlying208
  a66 := Tryz.isAgg208
  z66 := Tryz.sizeOf208
  v66 := Tryz.zeroValue208
  i66 := by kernel_rfl
  t67 := Tryz.underlying209
  a67 := Tryz.isAgg209
  z67 := Tryz.sizeOf209
  v67 := Tryz.zeroValue209
  i67 := by kernel_rfl
  t75 := Tryz.underlying266
  a75 := Tryz.isAgg266
  z75 := Tryz.sizeOf266
  v75 := Tryz.zeroValue266
  i75 := by kernel_rfl
  t76 := Tryz.underlying267
  a76 := Tryz.isAgg267
  z76 := Tryz.sizeOf267
  v76 := Tryz.zeroValue267
  i76 := by kernel_rfl
  t77 := Tryz.underlying268
  a77 := Tryz.isAgg268
  z77 := Tryz.sizeOf268
  v77 := Tryz.zeroValue268
  i77 := by kernel_rfl
  t78 := Tryz.underlying192
  a78 := Tryz.isAgg192
  z78 := Tryz.sizeOf192
  v78 := Tryz.zeroValue192
  i78 := by kernel_rfl
  t79 := Tryz.underlying269
  a79 := Tryz.isAgg269
  z79 := Tryz.sizeOf269
  v79 := Tryz.zeroValue269
  i79 := by kernel_rfl
  t80 := Tryz.underlying270
  a80 := Tryz.isAgg270
  z80 := Tryz.sizeOf270
  v80 := Tryz.zeroValue270
  i80 := by kernel_rfl
  t82 := Tryz.underlying272
  a82 := Tryz.isAgg272
  z82 := Tryz.sizeOf272
  v82 := Tryz.zeroValue272
  i82 := by kernel_rfl }
end Go.Proofs
