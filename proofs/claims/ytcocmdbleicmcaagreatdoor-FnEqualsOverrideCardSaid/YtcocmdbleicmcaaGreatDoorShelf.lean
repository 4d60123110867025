/-
  DERIVED: THE SHELF's CONTRACTS AT THIS DUMP, IN PLAIN WORDS (tools/lay-plain.mjs out of 'TryzShelf.lean', which tools/lay-shelf.mjs wrote): THE SAME DECLARATIONS UNDER THE SAME NAMES: 'import', 'namespace', 'open', 'def', 'theorem' AND NOTHING ELSE: no command of the shelf's: FOR A HAND-IN. Each laying: the table of numbers ('.._ren') and one theorem, a field a fact of the dump's own or the kernel's comparison; each contract: ONE APPLICATION.
-/
import Derived.Shelf.Strings.Builder1
import Derived.Shelf.Strings.Builder2
import Derived.Shelf.Strings.OnBuilder
import Derived.Shelf.Strings.TrimSpace
import Derived.Shelf.Small.Utf8
import Derived.Shelf.Small.Bits
import Derived.Shelf.Strconv.ParseBool
import Derived.Shelf.Strconv.Itoa0
import Derived.Shelf.Strconv.Itoa1
import Derived.Shelf.LaysM
import Derived.Shelf.Strconv.Itoa2
import Derived.Shelf.Strconv.Itoa3
import Derived.Shelf.Sort.Plain
import Derived.Ground.GgsProg
import Derived.Shelf.GgSortFunc.Insertion
import Derived.Shelf.GgSortFunc.Small
import Derived.Shelf.GgSortFunc.InsertionK
import Derived.Shelf.GgSortFunc.SmallK
import Derived.Shelf.GgSortFunc.Tiny
import Derived.Shelf.GgSortFunc.Compose
import Derived.Shelf.GgSortFunc.LotD
import Derived.Shelf.Unicode.Latin
import Derived.Shelf.Unicode.Decode
import Derived.Shelf.Unicode.DecodeSlow
import Derived.Shelf.Unicode.DecodeAny
import Derived.Shelf.Unicode.Is16White
import Derived.Shelf.Unicode.IsSpaceAny
import Derived.Shelf.Unicode.DecodeLast
import Derived.Shelf.Unicode.CaseLookup
import Derived.Shelf.Unicode.CaseConvert
import Derived.Shelf.Unicode.CaseTo
import Derived.Shelf.Unicode.CaseLaid
import Derived.Shelf.Unicode.Is16Any
import Derived.Shelf.Unicode.Is32Any
import Derived.Shelf.Unicode.ExclAny
import Derived.Shelf.Slices.Turned
import Derived.Shelf.Slices.In.SortNone
import Derived.Shelf.Slices.In.SortNone2
import Derived.Shelf.SlSortFunc.Xorshift
import Derived.Shelf.SlSortFuncK.ComposeK
import Derived.Shelf.SlSortFuncK.SiftDownK
import Derived.Shelf.SlSortFuncK.HeapSortK
import Derived.Shelf.SlSortFuncK.PartialInsertionK
import Derived.Shelf.SlSortFuncK.LotDK
import Derived.Shelf.SlSortFuncK.PivotK
import Derived.Shelf.SlSortFuncK.PartitionK
import Derived.Shelf.SlSortFuncK.PdqK
import Derived.Shelf.SlSortFuncK.WholeK
import Derived.Test.YtcocmdbleicmcaaGreatDoorProg
namespace Go.Proofs
open Go.Shelf
def Tryz.lays169_ren : Go.Shelf.Ren := ⟨fun | 169 => 138 | n => n, fun | 70 => 167 | 9 => 9 | 0 => 0 | 72 => 170 | 37 => 168 | 127 => 192 | 3 => 3 | 5 => 5 | n => n, fun | n => n⟩
theorem Tryz.lays169 : Go.Proofs.Lays.n169 Tryz.prog Tryz.lays169_ren := {
  mixed := by kernel_rfl
  f169 := Tryz.func138.trans (congrArg some (by kernel_rfl))
  t0 := Tryz.underlying0
  a0 := Tryz.isAgg0
  z0 := Tryz.sizeOf0
  v0 := Tryz.zeroValue0
  t3 := Tryz.underlying3
  a3 := Tryz.isAgg3
  z3 := Tryz.sizeOf3
  v3 := Tryz.zeroValue3
  t9 := Tryz.underlying9
  a9 := Tryz.isAgg9
  z9 := Tryz.sizeOf9
  v9 := Tryz.zeroValue9
  t37 := Tryz.underlying168
  a37 := Tryz.isAgg168
  z37 := Tryz.sizeOf168
  v37 := Tryz.zeroValue168
  t70 := Tryz.underlying167
  a70 := Tryz.isAgg167
  z70 := Tryz.sizeOf167
  v70 := Tryz.zeroValue167
  t72 := Tryz.underlying170
  a72 := Tryz.isAgg170
  z72 := Tryz.sizeOf170
  v72 := Tryz.zeroValue170
  t127 := Tryz.underlying192
  a127 := Tryz.isAgg192
  z127 := Tryz.sizeOf192
  v127 := Tryz.zeroValue192 }
theorem Tryz.Builder_Extra_169 : Builder.Extra Tryz.prog Tryz.lays169_ren := {
  sizeBuilder := by kernel_rfl
  liesBuilder := by kernel_rfl
  t5 := Tryz.underlying5
  a5 := Tryz.isAgg5
  z5 := Tryz.sizeOf5
  v5 := Tryz.zeroValue5
  infoByte := by kernel_rfl
  cellsByte := by kernel_rfl
  sizeByte := by kernel_rfl
  neB5 := by decide }
open Go.RowKit in
/-- (*strings.Builder).String: "String returns the accumulated string.": OF A BUILDER THAT HOLDS AT LEAST ONE BYTE. ✋ THE MODEL FREEZES THOSE BYTES IN THE BUFFER (unsafe.String): a later write INTO them ends the model's run without an answer; a later append BEHIND them goes on. The statement's order of evaluation is drawn: one draw. (LAID: no walk: one application.) -/
theorem Tryz.Builder_String (B b : Nat) (l : List UInt8) (w : World) (h : Lib.IsBuilder 170 5 B b (Lib.byteCells l) w) (h0 : l ≠ []) :
    Calls Tryz.prog 138 #[.pointer (some ⟨b, 0, none⟩)] w fun e w' => e = .returned (.string ⟨l.toArray⟩) ∧ Below B w w' := Any.Builder_String Tryz.lays169 Tryz.Builder_Extra_169 B b l w h h0
open Go.RowKit in
/-- (*strings.Builder).String OF A BUILDER THAT HOLDS NO BYTE: the empty string. (Its buffer is nil, or a row of which it has taken nothing yet; where that row has NO capacity the model lays one new block for unsafe.SliceData's 'some address'.) One draw. (LAID: no walk: one application.) -/
theorem Tryz.Builder_String_empty (B b : Nat) (w : World) (h : Lib.IsBuilder 170 5 B b [] w) (hBw : B ≤ w.heap.size) :
    Calls Tryz.prog 138 #[.pointer (some ⟨b, 0, none⟩)] w fun e w' => e = .returned (.string ⟨#[]⟩) ∧ Below B w w' := Any.Builder_String_empty Tryz.lays169 Tryz.Builder_Extra_169 B b w h hBw
open Go.RowKit in
/-- (*strings.Builder).String: "String returns the accumulated string.": WHATEVER THE BUILDER HOLDS. (LAID: no walk: one application.) -/
theorem Tryz.Builder_String_any (B b : Nat) (l : List UInt8) (w : World) (h : Lib.IsBuilder 170 5 B b (Lib.byteCells l) w) (hBw : B ≤ w.heap.size) :
    Calls Tryz.prog 138 #[.pointer (some ⟨b, 0, none⟩)] w fun e w' => e = .returned (.string ⟨l.toArray⟩) ∧ Below B w w' := Any.Builder_String_any Tryz.lays169 Tryz.Builder_Extra_169 B b l w h hBw
def Tryz.lays241_ren : Go.Shelf.Ren := ⟨fun | 241 => 156 | 277 => 178 | n => n, fun | 70 => 167 | 3 => 3 | 0 => 0 | 72 => 170 | 37 => 168 | 5 => 5 | n => n, fun | n => n⟩
theorem Tryz.lays241 : Go.Proofs.Lays.n241 Tryz.prog Tryz.lays241_ren := {
  mixed := by kernel_rfl
  f241 := Tryz.func156.trans (congrArg some (by kernel_rfl))
  f277 := Tryz.func178.trans (congrArg some (by kernel_rfl))
  t0 := Tryz.underlying0
  a0 := Tryz.isAgg0
  z0 := Tryz.sizeOf0
  v0 := Tryz.zeroValue0
  t3 := Tryz.underlying3
  a3 := Tryz.isAgg3
  z3 := Tryz.sizeOf3
  v3 := Tryz.zeroValue3
  t37 := Tryz.underlying168
  a37 := Tryz.isAgg168
  z37 := Tryz.sizeOf168
  v37 := Tryz.zeroValue168
  t70 := Tryz.underlying167
  a70 := Tryz.isAgg167
  z70 := Tryz.sizeOf167
  v70 := Tryz.zeroValue167
  t72 := Tryz.underlying170
  a72 := Tryz.isAgg170
  z72 := Tryz.sizeOf170
  v72 := Tryz.zeroValue170 }
theorem Tryz.Builder_Extra_241 : Builder.Extra Tryz.prog Tryz.lays241_ren := {
  sizeBuilder := by kernel_rfl
  liesBuilder := by kernel_rfl
  t5 := Tryz.underlying5
  a5 := Tryz.isAgg5
  z5 := Tryz.sizeOf5
  v5 := Tryz.zeroValue5
  infoByte := by kernel_rfl
  cellsByte := by kernel_rfl
  sizeByte := by kernel_rfl
  neB5 := by decide }
open Go.RowKit in
/-- (*strings.Builder).grow (no doc but "grow copies the buffer to a new, larger buffer so that there are at least n bytes of capacity beyond len(b.buf)."): AT A BUILDER WITHOUT A BUFFER: a new row of whatever bytes for its buffer, none of them its own yet. Three draws. (LAID: no walk: one application.) -/
theorem Tryz.Builder_grow_fresh (B b n : Nat) (w : World) (hB : B ≤ b) (hbk : w.heap[b]? = some (.cells #[.pointer (some ⟨b, 0, none⟩), .slice none 0 0] 170 (0, 0))) (hBw : B ≤ w.heap.size) (hn : n ≤ 281474976710656) :
    Calls Tryz.prog 156 #[.pointer (some ⟨b, 0, none⟩), .int .i64 n] w fun e w' => e = .returned (.tuple #[]) ∧ (Lib.BuilderAt 170 5 B b (.pointer (some ⟨b, 0, none⟩)) [] w' ∧ Below B w w') := Any.Builder_grow_fresh Tryz.lays241 Tryz.Builder_Extra_241 B b n w hB hbk hBw hn
def Tryz.lays165_ren : Go.Shelf.Ren := ⟨fun | 165 => 135 | 240 => 155 | 241 => 156 | 276 => 177 | 277 => 178 | n => n, fun | 70 => 167 | 3 => 3 | 0 => 0 | 4 => 4 | 9 => 9 | 20 => 20 | 72 => 170 | 37 => 168 | 164 => 129 | 5 => 5 | n => n, fun | n => n⟩
theorem Tryz.lays165 : Go.Proofs.Lays.n165 Tryz.prog Tryz.lays165_ren := {
  mixed := by kernel_rfl
  f165 := Tryz.func135.trans (congrArg some (by kernel_rfl))
  f240 := Tryz.func155.trans (congrArg some (by kernel_rfl))
  f241 := Tryz.func156.trans (congrArg some (by kernel_rfl))
  f276 := Tryz.func177.trans (congrArg some (by kernel_rfl))
  f277 := Tryz.func178.trans (congrArg some (by kernel_rfl))
  t0 := Tryz.underlying0
  a0 := Tryz.isAgg0
  z0 := Tryz.sizeOf0
  v0 := Tryz.zeroValue0
  t3 := Tryz.underlying3
  a3 := Tryz.isAgg3
  z3 := Tryz.sizeOf3
  v3 := Tryz.zeroValue3
  t4 := Tryz.underlying4
  a4 := Tryz.isAgg4
  z4 := Tryz.sizeOf4
  v4 := Tryz.zeroValue4
  t9 := Tryz.underlying9
  a9 := Tryz.isAgg9
  z9 := Tryz.sizeOf9
  v9 := Tryz.zeroValue9
  t20 := Tryz.underlying20
  a20 := Tryz.isAgg20
  z20 := Tryz.sizeOf20
  v20 := Tryz.zeroValue20
  t37 := Tryz.underlying168
  a37 := Tryz.isAgg168
  z37 := Tryz.sizeOf168
  v37 := Tryz.zeroValue168
  t70 := Tryz.underlying167
  a70 := Tryz.isAgg167
  z70 := Tryz.sizeOf167
  v70 := Tryz.zeroValue167
  t72 := Tryz.underlying170
  a72 := Tryz.isAgg170
  z72 := Tryz.sizeOf170
  v72 := Tryz.zeroValue170
  t164 := Tryz.underlying129
  a164 := Tryz.isAgg129
  z164 := Tryz.sizeOf129
  v164 := Tryz.zeroValue129 }
theorem Tryz.Builder_Extra_165 : Builder.Extra Tryz.prog Tryz.lays165_ren := {
  sizeBuilder := by kernel_rfl
  liesBuilder := by kernel_rfl
  t5 := Tryz.underlying5
  a5 := Tryz.isAgg5
  z5 := Tryz.sizeOf5
  v5 := Tryz.zeroValue5
  infoByte := by kernel_rfl
  cellsByte := by kernel_rfl
  sizeByte := by kernel_rfl
  neB5 := by decide }
open Go.RowKit in
/-- (*strings.Builder).Grow AT A BUILDER THAT HAS NOT BEEN WRITTEN ('var b strings.Builder; b.Grow(n)'): "Grow grows b's capacity, if necessary, to guarantee space for another n bytes.": it holds no byte behind it as before it. (LAID: no walk: one application.) -/
theorem Tryz.Builder_Grow_fresh (B b n : Nat) (w : World) (hB : B ≤ b) (hbk : w.heap[b]? = some (.cells #[.pointer none, .slice none 0 0] 170 (0, 0))) (hBw : B ≤ w.heap.size) (hn : n ≤ 281474976710656) :
    Calls Tryz.prog 135 #[.pointer (some ⟨b, 0, none⟩), .int .i64 n] w fun e w' => e = .returned (.tuple #[]) ∧ (Lib.BuilderAt 170 5 B b (.pointer (some ⟨b, 0, none⟩)) [] w' ∧ Below B w w') := Any.Builder_Grow_fresh Tryz.lays165 Tryz.Builder_Extra_165 B b n w hB hbk hBw hn
def Tryz.lays159_ren : Go.Shelf.Ren := ⟨fun | 159 => 108 | 165 => 135 | 166 => 136 | 167 => 137 | 169 => 138 | 230 => 139 | 204 => 140 | 240 => 155 | 241 => 156 | 197 => 157 | 118 => 158 | 168 => 159 | 270 => 160 | 262 => 161 | 276 => 177 | 277 => 178 | 260 => 179 | 242 => 180 | 313 => 181 | 278 => 193 | 274 => 194 | 275 => 195 | n => n, fun | 9 => 9 | 4 => 4 | 3 => 3 | 5 => 5 | 72 => 170 | 0 => 0 | 76 => 172 | 75 => 109 | 107 => 177 | 70 => 167 | 20 => 20 | 37 => 168 | 127 => 192 | 21 => 21 | 105 => 193 | 164 => 129 | 162 => 219 | 203 => 217 | 119 => 180 | 46 => 138 | 139 => 236 | 138 => 235 | 51 => 155 | 160 => 237 | 208 => 249 | 206 => 247 | 80 => 175 | n => n, fun | 13 => 4 | 3 => 6 | 4 => 7 | n => n⟩
theorem Tryz.lays159 : Go.Proofs.Lays.n159 Tryz.prog Tryz.lays159_ren := {
  mixed := by kernel_rfl
  f118 := Tryz.func158.trans (congrArg some (by kernel_rfl))
  f159 := Tryz.func108.trans (congrArg some (by kernel_rfl))
  f165 := Tryz.func135.trans (congrArg some (by kernel_rfl))
  f166 := Tryz.func136.trans (congrArg some (by kernel_rfl))
  f167 := Tryz.func137.trans (congrArg some (by kernel_rfl))
  f168 := Tryz.func159.trans (congrArg some (by kernel_rfl))
  f169 := Tryz.func138.trans (congrArg some (by kernel_rfl))
  f197 := Tryz.func157.trans (congrArg some (by kernel_rfl))
  f204 := Tryz.func140.trans (congrArg some (by kernel_rfl))
  f230 := Tryz.func139.trans (congrArg some (by kernel_rfl))
  f240 := Tryz.func155.trans (congrArg some (by kernel_rfl))
  f241 := Tryz.func156.trans (congrArg some (by kernel_rfl))
  f242 := Tryz.func180.trans (congrArg some (by kernel_rfl))
  f260 := Tryz.func179.trans (congrArg some (by kernel_rfl))
  f262 := Tryz.func161.trans (congrArg some (by kernel_rfl))
  f270 := Tryz.func160.trans (congrArg some (by kernel_rfl))
  f274 := Tryz.func194.trans (congrArg some (by kernel_rfl))
  f275 := Tryz.func195.trans (congrArg some (by kernel_rfl))
  f276 := Tryz.func177.trans (congrArg some (by kernel_rfl))
  f277 := Tryz.func178.trans (congrArg some (by kernel_rfl))
  f278 := Tryz.func193.trans (congrArg some (by kernel_rfl))
  f313 := Tryz.func181.trans (congrArg some (by kernel_rfl))
  t0 := Tryz.underlying0
  a0 := Tryz.isAgg0
  z0 := Tryz.sizeOf0
  v0 := Tryz.zeroValue0
  t3 := Tryz.underlying3
  a3 := Tryz.isAgg3
  z3 := Tryz.sizeOf3
  v3 := Tryz.zeroValue3
  t4 := Tryz.underlying4
  a4 := Tryz.isAgg4
  z4 := Tryz.sizeOf4
  v4 := Tryz.zeroValue4
  t5 := Tryz.underlying5
  a5 := Tryz.isAgg5
  z5 := Tryz.sizeOf5
  v5 := Tryz.zeroValue5
  t9 := Tryz.underlying9
  a9 := Tryz.isAgg9
  z9 := Tryz.sizeOf9
  v9 := Tryz.zeroValue9
  t20 := Tryz.underlying20
  a20 := Tryz.isAgg20
  z20 := Tryz.sizeOf20
  v20 := Tryz.zeroValue20
  t21 := Tryz.underlying21
  a21 := Tryz.isAgg21
  z21 := Tryz.sizeOf21
  v21 := Tryz.zeroValue21
  t37 := Tryz.underlying168
  a37 := Tryz.isAgg168
  z37 := Tryz.sizeOf168
  v37 := Tryz.zeroValue168
  t46 := Tryz.underlying138
  a46 := Tryz.isAgg138
  z46 := Tryz.sizeOf138
  v46 := Tryz.zeroValue138
  t51 := Tryz.underlying155
  a51 := Tryz.isAgg155
  z51 := Tryz.sizeOf155
  v51 := Tryz.zeroValue155
  t70 := Tryz.underlying167
  a70 := Tryz.isAgg167
  z70 := Tryz.sizeOf167
  v70 := Tryz.zeroValue167
  t72 := Tryz.underlying170
  a72 := Tryz.isAgg170
  z72 := Tryz.sizeOf170
  v72 := Tryz.zeroValue170
  t75 := Tryz.underlying109
  a75 := Tryz.isAgg109
  z75 := Tryz.sizeOf109
  v75 := Tryz.zeroValue109
  t76 := Tryz.underlying172
  a76 := Tryz.isAgg172
  z76 := Tryz.sizeOf172
  v76 := Tryz.zeroValue172
  t105 := Tryz.underlying193
  a105 := Tryz.isAgg193
  z105 := Tryz.sizeOf193
  v105 := Tryz.zeroValue193
  t107 := Tryz.underlying177
  a107 := Tryz.isAgg177
  z107 := Tryz.sizeOf177
  v107 := Tryz.zeroValue177
  t119 := Tryz.underlying180
  a119 := Tryz.isAgg180
  z119 := Tryz.sizeOf180
  t127 := Tryz.underlying192
  a127 := Tryz.isAgg192
  z127 := Tryz.sizeOf192
  v127 := Tryz.zeroValue192
  t138 := Tryz.underlying235
  a138 := Tryz.isAgg235
  z138 := Tryz.sizeOf235
  v138 := Tryz.zeroValue235
  t139 := Tryz.underlying236
  a139 := Tryz.isAgg236
  z139 := Tryz.sizeOf236
  v139 := Tryz.zeroValue236
  t160 := Tryz.underlying237
  a160 := Tryz.isAgg237
  z160 := Tryz.sizeOf237
  v160 := Tryz.zeroValue237
  t162 := Tryz.underlying219
  a162 := Tryz.isAgg219
  z162 := Tryz.sizeOf219
  v162 := Tryz.zeroValue219
  t164 := Tryz.underlying129
  a164 := Tryz.isAgg129
  z164 := Tryz.sizeOf129
  v164 := Tryz.zeroValue129
  t203 := Tryz.underlying217
  a203 := Tryz.isAgg217
  z203 := Tryz.sizeOf217
  v203 := Tryz.zeroValue217
  t206 := Tryz.underlying247
  a206 := Tryz.isAgg247
  z206 := Tryz.sizeOf247
  v206 := Tryz.zeroValue247
  t208 := Tryz.underlying249
  a208 := Tryz.isAgg249
  z208 := Tryz.sizeOf249
  v208 := Tryz.zeroValue249
  g3 := by kernel_rfl
  g4 := by kernel_rfl
  g13 := by kernel_rfl }
theorem Tryz.Builder_Extra_159 : Builder.Extra Tryz.prog Tryz.lays159_ren := {
  sizeBuilder := by kernel_rfl
  liesBuilder := by kernel_rfl
  t5 := Tryz.underlying5
  a5 := Tryz.isAgg5
  z5 := Tryz.sizeOf5
  v5 := Tryz.zeroValue5
  infoByte := by kernel_rfl
  cellsByte := by kernel_rfl
  sizeByte := by kernel_rfl
  neB5 := by decide }
open Go.RowKit in
/-- strings.ToLower: "ToLower returns s with all Unicode letters mapped to their lower case.": ON ASCII TEXT OF AT MOST 2^47 BYTES. Below the heap's end the world is as it was: where a letter turns, the call makes a builder and its buffer. (LAID: no walk: one application.) -/
theorem Tryz.strings_ToLower_ascii (s : ByteArray) (w : World) (hs : s.size ≤ 140737488355328) (hascii : ∀ (j : Nat) (b : UInt8), s.data.toList[j]? = some b → b.toNat < 128) :
    Calls Tryz.prog 108 #[.string s] w fun e w' => e = .returned (.string ⟨(Lib.toLowerA s.data.toList).toArray⟩) ∧ Below w.heap.size w w' := Any.strings_ToLower_ascii Tryz.lays159 Tryz.Builder_Extra_159 s w hs hascii
def Tryz.lays163_ren : Go.Shelf.Ren := ⟨fun | 163 => 109 | 237 => 141 | 199 => 142 | 238 => 143 | 272 => 162 | 261 => 163 | 273 => 164 | 197 => 157 | 315 => 182 | 311 => 183 | 312 => 184 | 271 => 185 | 260 => 179 | 120 => 196 | n => n, fun | 9 => 9 | 37 => 168 | 3 => 3 | 0 => 0 | 5 => 5 | 4 => 4 | 40 => 179 | 119 => 180 | 21 => 21 | 51 => 155 | 141 => 199 | 105 => 193 | 196 => 223 | 193 => 220 | 198 => 226 | 49 => 224 | 194 => 221 | 201 => 229 | 226 => 240 | 46 => 138 | 227 => 241 | 139 => 236 | 138 => 235 | n => n, fun | 0 => 0 | 6 => 1 | 3 => 6 | 4 => 7 | n => n⟩
theorem Tryz.lays163 : Go.Proofs.Lays.n163 Tryz.prog Tryz.lays163_ren := {
  mixed := by kernel_rfl
  f120 := Tryz.func196.trans (congrArg some (by kernel_rfl))
  f163 := Tryz.func109.trans (congrArg some (by kernel_rfl))
  f197 := Tryz.func157.trans (congrArg some (by kernel_rfl))
  f199 := Tryz.func142.trans (congrArg some (by kernel_rfl))
  f237 := Tryz.func141.trans (congrArg some (by kernel_rfl))
  f238 := Tryz.func143.trans (congrArg some (by kernel_rfl))
  f260 := Tryz.func179.trans (congrArg some (by kernel_rfl))
  f261 := Tryz.func163.trans (congrArg some (by kernel_rfl))
  f271 := Tryz.func185.trans (congrArg some (by kernel_rfl))
  f272 := Tryz.func162.trans (congrArg some (by kernel_rfl))
  f273 := Tryz.func164.trans (congrArg some (by kernel_rfl))
  f311 := Tryz.func183.trans (congrArg some (by kernel_rfl))
  f312 := Tryz.func184.trans (congrArg some (by kernel_rfl))
  f315 := Tryz.func182.trans (congrArg some (by kernel_rfl))
  t0 := Tryz.underlying0
  a0 := Tryz.isAgg0
  z0 := Tryz.sizeOf0
  v0 := Tryz.zeroValue0
  t3 := Tryz.underlying3
  a3 := Tryz.isAgg3
  z3 := Tryz.sizeOf3
  v3 := Tryz.zeroValue3
  t4 := Tryz.underlying4
  a4 := Tryz.isAgg4
  z4 := Tryz.sizeOf4
  v4 := Tryz.zeroValue4
  t5 := Tryz.underlying5
  a5 := Tryz.isAgg5
  z5 := Tryz.sizeOf5
  v5 := Tryz.zeroValue5
  t9 := Tryz.underlying9
  a9 := Tryz.isAgg9
  z9 := Tryz.sizeOf9
  v9 := Tryz.zeroValue9
  t21 := Tryz.underlying21
  a21 := Tryz.isAgg21
  z21 := Tryz.sizeOf21
  v21 := Tryz.zeroValue21
  t37 := Tryz.underlying168
  a37 := Tryz.isAgg168
  z37 := Tryz.sizeOf168
  v37 := Tryz.zeroValue168
  t40 := Tryz.underlying179
  a40 := Tryz.isAgg179
  z40 := Tryz.sizeOf179
  v40 := Tryz.zeroValue179
  t46 := Tryz.underlying138
  a46 := Tryz.isAgg138
  z46 := Tryz.sizeOf138
  v46 := Tryz.zeroValue138
  t49 := Tryz.underlying224
  a49 := Tryz.isAgg224
  z49 := Tryz.sizeOf224
  v49 := Tryz.zeroValue224
  t51 := Tryz.underlying155
  a51 := Tryz.isAgg155
  z51 := Tryz.sizeOf155
  v51 := Tryz.zeroValue155
  t105 := Tryz.underlying193
  a105 := Tryz.isAgg193
  z105 := Tryz.sizeOf193
  v105 := Tryz.zeroValue193
  t119 := Tryz.underlying180
  a119 := Tryz.isAgg180
  z119 := Tryz.sizeOf180
  t138 := Tryz.underlying235
  a138 := Tryz.isAgg235
  z138 := Tryz.sizeOf235
  v138 := Tryz.zeroValue235
  t139 := Tryz.underlying236
  a139 := Tryz.isAgg236
  z139 := Tryz.sizeOf236
  v139 := Tryz.zeroValue236
  t141 := Tryz.underlying199
  a141 := Tryz.isAgg199
  z141 := Tryz.sizeOf199
  v141 := Tryz.zeroValue199
  t193 := Tryz.underlying220
  a193 := Tryz.isAgg220
  z193 := Tryz.sizeOf220
  v193 := Tryz.zeroValue220
  t194 := Tryz.underlying221
  a194 := Tryz.isAgg221
  z194 := Tryz.sizeOf221
  v194 := Tryz.zeroValue221
  t196 := Tryz.underlying223
  a196 := Tryz.isAgg223
  z196 := Tryz.sizeOf223
  v196 := Tryz.zeroValue223
  t198 := Tryz.underlying226
  a198 := Tryz.isAgg226
  z198 := Tryz.sizeOf226
  v198 := Tryz.zeroValue226
  t201 := Tryz.underlying229
  a201 := Tryz.isAgg229
  z201 := Tryz.sizeOf229
  v201 := Tryz.zeroValue229
  t226 := Tryz.underlying240
  a226 := Tryz.isAgg240
  z226 := Tryz.sizeOf240
  v226 := Tryz.zeroValue240
  t227 := Tryz.underlying241
  a227 := Tryz.isAgg241
  z227 := Tryz.sizeOf241
  v227 := Tryz.zeroValue241
  g0 := by kernel_rfl
  g3 := by kernel_rfl
  g4 := by kernel_rfl
  g6 := by kernel_rfl }
theorem Tryz.Space_Extra_163 : Space.Extra Tryz.prog Tryz.lays163_ren := {
  gNamed := by kernel_rfl }
open Go.RowKit in
theorem Tryz.strings_TrimSpace (s : ByteArray) (w : World) (hs : s.size ≤ 9223372036854775807) (hascii : ∀ (j : Nat) b, s.data.toList[j]? = some b → b.toNat < 128) (htab : Lib.TabIs Tryz.prog w "strings.asciiSpace" .u8 Lib.asciiSpaceTab) :
    Calls Tryz.prog 109 #[.string s] w fun e w' => e = .returned (.string ⟨(Lib.trimSpace s.data.toList).toArray⟩) ∧ w' = Lib.bytesWorld w 5 s := Any.strings_TrimSpace Tryz.lays163 Tryz.Space_Extra_163 s w hs hascii htab
def Tryz.lays118_ren : Go.Shelf.Ren := ⟨fun | 118 => 158 | n => n, fun | 21 => 21 | 3 => 3 | 4 => 4 | n => n, fun | n => n⟩
theorem Tryz.lays118 : Go.Proofs.Lays.n118 Tryz.prog Tryz.lays118_ren := {
  mixed := by kernel_rfl
  f118 := Tryz.func158.trans (congrArg some (by kernel_rfl))
  t3 := Tryz.underlying3
  a3 := Tryz.isAgg3
  z3 := Tryz.sizeOf3
  v3 := Tryz.zeroValue3
  t4 := Tryz.underlying4
  a4 := Tryz.isAgg4
  z4 := Tryz.sizeOf4
  v4 := Tryz.zeroValue4
  t21 := Tryz.underlying21
  a21 := Tryz.isAgg21
  z21 := Tryz.sizeOf21
  v21 := Tryz.zeroValue21 }
/-- utf8.RuneLen: "RuneLen returns the number of bytes in the UTF-8 encoding of the rune. It returns -1 if the rune is not a valid value to encode in UTF-8.": IT RETURNS 'Lib.runeLen r'; the world is as it was. (LAID: no walk: one application.) -/
theorem Tryz.utf8_RuneLen (r : Int) (w : World) :
    Calls Tryz.prog 158 #[.int .i32 r] w fun e w' => e = .returned (.int .i64 (Lib.runeLen r)) ∧ w' = w := Any.utf8_RuneLen Tryz.lays118 r w
def Tryz.lays120_ren : Go.Shelf.Ren := ⟨fun | 120 => 196 | n => n, fun | 5 => 5 | 4 => 4 | n => n, fun | n => n⟩
theorem Tryz.lays120 : Go.Proofs.Lays.n120 Tryz.prog Tryz.lays120_ren := {
  mixed := by kernel_rfl
  f120 := Tryz.func196.trans (congrArg some (by kernel_rfl))
  t4 := Tryz.underlying4
  a4 := Tryz.isAgg4
  z4 := Tryz.sizeOf4
  v4 := Tryz.zeroValue4
  t5 := Tryz.underlying5
  a5 := Tryz.isAgg5
  z5 := Tryz.sizeOf5
  v5 := Tryz.zeroValue5 }
/-- utf8.RuneStart: "RuneStart reports whether the byte could be the first byte of an encoded, possibly invalid rune. Second and subsequent bytes always have the top two bits set to 10.": IT RETURNS 'Lib.runeStart b'; the world is as it was. ('h0', 'h1': b is a byte: a caller has it of every byte that it was handed.) (LAID: no walk: one application.) -/
theorem Tryz.utf8_RuneStart (b : Int) (w : World) (h0 : 0 ≤ b) (h1 : b < 256) :
    Calls Tryz.prog 196 #[.int .u8 b] w fun e w' => e = .returned (.bool (Lib.runeStart b)) ∧ w' = w := Any.utf8_RuneStart Tryz.lays120 b w h0 h1
def Tryz.lays128_ren : Go.Shelf.Ren := ⟨fun | 128 => 123 | n => n, fun | 51 => 155 | 3 => 3 | 4 => 4 | 46 => 138 | 5 => 5 | 9 => 9 | n => n, fun | n => n⟩
theorem Tryz.lays128 : Go.Proofs.Lays.n128 Tryz.prog Tryz.lays128_ren := {
  mixed := by kernel_rfl
  f128 := Tryz.func123.trans (congrArg some (by kernel_rfl))
  t3 := Tryz.underlying3
  a3 := Tryz.isAgg3
  z3 := Tryz.sizeOf3
  v3 := Tryz.zeroValue3
  t4 := Tryz.underlying4
  a4 := Tryz.isAgg4
  z4 := Tryz.sizeOf4
  v4 := Tryz.zeroValue4
  t5 := Tryz.underlying5
  a5 := Tryz.isAgg5
  z5 := Tryz.sizeOf5
  v5 := Tryz.zeroValue5
  t9 := Tryz.underlying9
  a9 := Tryz.isAgg9
  z9 := Tryz.sizeOf9
  v9 := Tryz.zeroValue9
  t46 := Tryz.underlying138
  a46 := Tryz.isAgg138
  z46 := Tryz.sizeOf138
  v46 := Tryz.zeroValue138
  t51 := Tryz.underlying155
  a51 := Tryz.isAgg155
  z51 := Tryz.sizeOf155
  v51 := Tryz.zeroValue155 }
/-- bits.Len32: "Len32 returns the minimum number of bits required to represent x; the result is 0 for x == 0.": IT RETURNS 'Lib.bitLen x'; the world is as it was. ('h0', 'h1': x is a uint32.) (LAID: no walk: one application.) -/
theorem Tryz.bits_Len32 (x : Int) (w : World) (h0 : 0 ≤ x) (h1 : x ≤ 4294967295) :
    Calls Tryz.prog 123 #[.int .u32 x] w fun e w' => e = .returned (.int .i64 (Lib.bitLen x.toNat)) ∧ w' = w := Any.bits_Len32 Tryz.lays128 x w h0 h1
def Tryz.lays125_ren : Go.Shelf.Ren := ⟨fun | 125 => 104 | 128 => 123 | 129 => 124 | n => n, fun | 46 => 138 | 3 => 3 | 51 => 155 | 53 => 157 | 4 => 4 | 5 => 5 | 9 => 9 | n => n, fun | n => n⟩
theorem Tryz.lays125 : Go.Proofs.Lays.n125 Tryz.prog Tryz.lays125_ren := {
  mixed := by kernel_rfl
  f125 := Tryz.func104.trans (congrArg some (by kernel_rfl))
  f128 := Tryz.func123.trans (congrArg some (by kernel_rfl))
  f129 := Tryz.func124.trans (congrArg some (by kernel_rfl))
  t3 := Tryz.underlying3
  a3 := Tryz.isAgg3
  z3 := Tryz.sizeOf3
  v3 := Tryz.zeroValue3
  t4 := Tryz.underlying4
  a4 := Tryz.isAgg4
  z4 := Tryz.sizeOf4
  v4 := Tryz.zeroValue4
  t5 := Tryz.underlying5
  a5 := Tryz.isAgg5
  z5 := Tryz.sizeOf5
  v5 := Tryz.zeroValue5
  t9 := Tryz.underlying9
  a9 := Tryz.isAgg9
  z9 := Tryz.sizeOf9
  v9 := Tryz.zeroValue9
  t46 := Tryz.underlying138
  a46 := Tryz.isAgg138
  z46 := Tryz.sizeOf138
  v46 := Tryz.zeroValue138
  t51 := Tryz.underlying155
  a51 := Tryz.isAgg155
  z51 := Tryz.sizeOf155
  v51 := Tryz.zeroValue155
  t53 := Tryz.underlying157
  a53 := Tryz.isAgg157
  z53 := Tryz.sizeOf157
  v53 := Tryz.zeroValue157 }
/-- bits.Len: "Len returns the minimum number of bits required to represent x; the result is 0 for x == 0.": IT RETURNS 'Lib.bitLen x'; the world is as it was. (A uint has 64 bits in the model.) ITS CALLEE bits.Len64 IS MET BY ITS OWN CONTRACT OFF THE SHELF (lay that first). (LAID: no walk: one application.) -/
theorem Tryz.bits_Len (x : Int) (w : World) (h0 : 0 ≤ x) (h1 : x ≤ 18446744073709551615) :
    Calls Tryz.prog 104 #[.int .u64 x] w fun e w' => e = .returned (.int .i64 (Lib.bitLen x.toNat)) ∧ w' = w := Any.bits_Len Tryz.lays125 x w h0 h1
def Tryz.lays248_ren : Go.Shelf.Ren := ⟨fun | 248 => 133 | n => n, fun | 9 => 9 | 4 => 4 | 75 => 109 | 167 => 188 | 80 => 175 | n => n, fun | n => n⟩
theorem Tryz.lays248 : Go.Proofs.Lays.n248 Tryz.prog Tryz.lays248_ren := {
  mixed := by kernel_rfl
  f248 := Tryz.func133.trans (congrArg some (by kernel_rfl))
  t4 := Tryz.underlying4
  a4 := Tryz.isAgg4
  z4 := Tryz.sizeOf4
  v4 := Tryz.zeroValue4
  t9 := Tryz.underlying9
  a9 := Tryz.isAgg9
  z9 := Tryz.sizeOf9
  v9 := Tryz.zeroValue9
  t75 := Tryz.underlying109
  a75 := Tryz.isAgg109
  z75 := Tryz.sizeOf109
  v75 := Tryz.zeroValue109
  t167 := Tryz.underlying188
  a167 := Tryz.isAgg188
  z167 := Tryz.sizeOf188
  v167 := Tryz.zeroValue188 }
/-- internal/strconv.ParseBool, at a string that it accepts: the value, and no error. The world is as it was. (LAID: no walk: one application.) -/
theorem Tryz.internal_strconv_ParseBool (s : ByteArray) (b : Bool) (h : Lib.parseBool s.data.toList = some b) (w : World) :
    Calls Tryz.prog 133 #[.string s] w fun e w' => e = .returned (.tuple #[.bool b, .nilIface]) ∧ w' = w := Any.internal_strconv_ParseBool Tryz.lays248 s b h w
def Tryz.lays175_ren : Go.Shelf.Ren := ⟨fun | 175 => 107 | 248 => 133 | 245 => 134 | 279 => 151 | 280 => 152 | 281 => 153 | 282 => 154 | 316 => 175 | 171 => 176 | 205 => 99 | 243 => 192 | 246 => 198 | 283 => 199 | 284 => 200 | 285 => 201 | 286 => 202 | 129 => 124 | 317 => 203 | 318 => 204 | 319 => 205 | 320 => 206 | 337 => 207 | 338 => 208 | n => n, fun | 9 => 9 | 4 => 4 | 75 => 109 | 87 => 143 | 3 => 3 | 167 => 188 | 168 => 189 | 210 => 212 | 37 => 168 | 0 => 0 | 127 => 192 | 145 => 149 | 143 => 147 | 2 => 2 | 171 => 250 | 53 => 157 | 5 => 5 | 173 => 252 | 212 => 256 | 51 => 155 | 20 => 20 | 213 => 257 | 46 => 138 | 232 => 259 | 233 => 260 | 80 => 175 | n => n, fun | 15 => 2 | 16 => 3 | 17 => 8 | 18 => 9 | 19 => 10 | n => n⟩
theorem Tryz.lays175 : Go.Proofs.Lays.n175 Tryz.prog Tryz.lays175_ren := {
  mixed := by kernel_rfl
  f129 := Tryz.func124.trans (congrArg some (by kernel_rfl))
  f171 := Tryz.func176.trans (congrArg some (by kernel_rfl))
  f175 := Tryz.func107.trans (congrArg some (by kernel_rfl))
  f205 := Tryz.func99.trans (congrArg some (by kernel_rfl))
  f243 := Tryz.func192.trans (congrArg some (by kernel_rfl))
  f245 := Tryz.func134.trans (congrArg some (by kernel_rfl))
  f246 := Tryz.func198.trans (congrArg some (by kernel_rfl))
  f248 := Tryz.func133.trans (congrArg some (by kernel_rfl))
  f279 := Tryz.func151.trans (congrArg some (by kernel_rfl))
  f280 := Tryz.func152.trans (congrArg some (by kernel_rfl))
  f281 := Tryz.func153.trans (congrArg some (by kernel_rfl))
  f282 := Tryz.func154.trans (congrArg some (by kernel_rfl))
  f283 := Tryz.func199.trans (congrArg some (by kernel_rfl))
  f284 := Tryz.func200.trans (congrArg some (by kernel_rfl))
  f285 := Tryz.func201.trans (congrArg some (by kernel_rfl))
  f286 := Tryz.func202.trans (congrArg some (by kernel_rfl))
  f316 := Tryz.func175.trans (congrArg some (by kernel_rfl))
  f317 := Tryz.func203.trans (congrArg some (by kernel_rfl))
  f318 := Tryz.func204.trans (congrArg some (by kernel_rfl))
  f319 := Tryz.func205.trans (congrArg some (by kernel_rfl))
  f320 := Tryz.func206.trans (congrArg some (by kernel_rfl))
  f337 := Tryz.func207.trans (congrArg some (by kernel_rfl))
  f338 := Tryz.func208.trans (congrArg some (by kernel_rfl))
  t0 := Tryz.underlying0
  a0 := Tryz.isAgg0
  z0 := Tryz.sizeOf0
  v0 := Tryz.zeroValue0
  t2 := Tryz.underlying2
  a2 := Tryz.isAgg2
  z2 := Tryz.sizeOf2
  v2 := Tryz.zeroValue2
  t3 := Tryz.underlying3
  a3 := Tryz.isAgg3
  z3 := Tryz.sizeOf3
  v3 := Tryz.zeroValue3
  t4 := Tryz.underlying4
  a4 := Tryz.isAgg4
  z4 := Tryz.sizeOf4
  v4 := Tryz.zeroValue4
  t5 := Tryz.underlying5
  a5 := Tryz.isAgg5
  z5 := Tryz.sizeOf5
  v5 := Tryz.zeroValue5
  t9 := Tryz.underlying9
  a9 := Tryz.isAgg9
  z9 := Tryz.sizeOf9
  v9 := Tryz.zeroValue9
  t20 := Tryz.underlying20
  a20 := Tryz.isAgg20
  z20 := Tryz.sizeOf20
  v20 := Tryz.zeroValue20
  t37 := Tryz.underlying168
  a37 := Tryz.isAgg168
  z37 := Tryz.sizeOf168
  v37 := Tryz.zeroValue168
  t46 := Tryz.underlying138
  a46 := Tryz.isAgg138
  z46 := Tryz.sizeOf138
  v46 := Tryz.zeroValue138
  t51 := Tryz.underlying155
  a51 := Tryz.isAgg155
  z51 := Tryz.sizeOf155
  v51 := Tryz.zeroValue155
  t53 := Tryz.underlying157
  a53 := Tryz.isAgg157
  z53 := Tryz.sizeOf157
  v53 := Tryz.zeroValue157
  t75 := Tryz.underlying109
  a75 := Tryz.isAgg109
  z75 := Tryz.sizeOf109
  v75 := Tryz.zeroValue109
  t87 := Tryz.underlying143
  a87 := Tryz.isAgg143
  z87 := Tryz.sizeOf143
  v87 := Tryz.zeroValue143
  t127 := Tryz.underlying192
  a127 := Tryz.isAgg192
  z127 := Tryz.sizeOf192
  v127 := Tryz.zeroValue192
  t143 := Tryz.underlying147
  a143 := Tryz.isAgg147
  z143 := Tryz.sizeOf147
  v143 := Tryz.zeroValue147
  t145 := Tryz.underlying149
  a145 := Tryz.isAgg149
  z145 := Tryz.sizeOf149
  v145 := Tryz.zeroValue149
  t167 := Tryz.underlying188
  a167 := Tryz.isAgg188
  z167 := Tryz.sizeOf188
  v167 := Tryz.zeroValue188
  t168 := Tryz.underlying189
  a168 := Tryz.isAgg189
  z168 := Tryz.sizeOf189
  v168 := Tryz.zeroValue189
  t171 := Tryz.underlying250
  a171 := Tryz.isAgg250
  z171 := Tryz.sizeOf250
  v171 := Tryz.zeroValue250
  t173 := Tryz.underlying252
  a173 := Tryz.isAgg252
  z173 := Tryz.sizeOf252
  v173 := Tryz.zeroValue252
  t210 := Tryz.underlying212
  a210 := Tryz.isAgg212
  z210 := Tryz.sizeOf212
  v210 := Tryz.zeroValue212
  t212 := Tryz.underlying256
  a212 := Tryz.isAgg256
  z212 := Tryz.sizeOf256
  v212 := Tryz.zeroValue256
  t213 := Tryz.underlying257
  a213 := Tryz.isAgg257
  z213 := Tryz.sizeOf257
  t232 := Tryz.underlying259
  a232 := Tryz.isAgg259
  z232 := Tryz.sizeOf259
  v232 := Tryz.zeroValue259
  t233 := Tryz.underlying260
  a233 := Tryz.isAgg260
  z233 := Tryz.sizeOf260
  v233 := Tryz.zeroValue260
  g15 := by kernel_rfl
  g16 := by kernel_rfl
  g17 := by kernel_rfl
  g18 := by kernel_rfl
  g19 := by kernel_rfl }
/-- strconv.ParseBool: "ParseBool returns the boolean value represented by the string. It accepts 1, t, T, TRUE, true, True, 0, f, F, FALSE, false, False. Any other value returns an error.": AT ONE OF THE TWELVE. The world is as it was. (LAID: no walk: one application.) -/
theorem Tryz.strconv_ParseBool (s : ByteArray) (b : Bool) (h : Lib.parseBool s.data.toList = some b) (w : World) :
    Calls Tryz.prog 107 #[.string s] w fun e w' => e = .returned (.tuple #[.bool b, .nilIface]) ∧ w' = w := Any.strconv_ParseBool Tryz.lays175 s b h w
def Tryz.lays129_ren : Go.Shelf.Ren := ⟨fun | 129 => 124 | n => n, fun | 53 => 157 | 3 => 3 | 4 => 4 | 46 => 138 | 5 => 5 | 9 => 9 | n => n, fun | n => n⟩
theorem Tryz.lays129 : Go.Proofs.Lays.n129 Tryz.prog Tryz.lays129_ren := {
  mixed := by kernel_rfl
  f129 := Tryz.func124.trans (congrArg some (by kernel_rfl))
  t3 := Tryz.underlying3
  a3 := Tryz.isAgg3
  z3 := Tryz.sizeOf3
  v3 := Tryz.zeroValue3
  t4 := Tryz.underlying4
  a4 := Tryz.isAgg4
  z4 := Tryz.sizeOf4
  v4 := Tryz.zeroValue4
  t5 := Tryz.underlying5
  a5 := Tryz.isAgg5
  z5 := Tryz.sizeOf5
  v5 := Tryz.zeroValue5
  t9 := Tryz.underlying9
  a9 := Tryz.isAgg9
  z9 := Tryz.sizeOf9
  v9 := Tryz.zeroValue9
  t46 := Tryz.underlying138
  a46 := Tryz.isAgg138
  z46 := Tryz.sizeOf138
  v46 := Tryz.zeroValue138
  t53 := Tryz.underlying157
  a53 := Tryz.isAgg157
  z53 := Tryz.sizeOf157
  v53 := Tryz.zeroValue157 }
/-- bits.Len64: "Len64 returns the minimum number of bits required to represent x; the result is 0 for x == 0.": IT RETURNS 'Lib.bitLen x'; the world is as it was. ('h0', 'h1': x is a uint64.) (LAID: no walk: one application.) -/
theorem Tryz.bits_Len64 (x : Int) (w : World) (h0 : 0 ≤ x) (h1 : x ≤ 18446744073709551615) :
    Calls Tryz.prog 124 #[.int .u64 x] w fun e w' => e = .returned (.int .i64 (Lib.bitLen x.toNat)) ∧ w' = w := Any.bits_Len64 Tryz.lays129 x w h0 h1
def Tryz.lays317_ren : Go.Shelf.Ren := ⟨fun | 317 => 203 | n => n, fun | 3 => 3 | 46 => 138 | n => n, fun | n => n⟩
theorem Tryz.lays317 : Go.Proofs.Lays.n317 Tryz.prog Tryz.lays317_ren := {
  mixed := by kernel_rfl
  f317 := Tryz.func203.trans (congrArg some (by kernel_rfl))
  t3 := Tryz.underlying3
  a3 := Tryz.isAgg3
  z3 := Tryz.sizeOf3
  v3 := Tryz.zeroValue3
  t46 := Tryz.underlying138
  a46 := Tryz.isAgg138
  z46 := Tryz.sizeOf138
  v46 := Tryz.zeroValue138 }
open Go.Lib in
/-- internal/strconv.log10Pow2: "log10Pow2(x) returns ⌊log₁₀ 2**x⌋ = ⌊x * log₁₀ 2⌋.": '(x * 78913) >> 18', at an x up to 64 (a length in bits). The world is as it was. (LAID: no walk: one application.) -/
theorem Tryz.internal_strconv_log10Pow2 (x : Nat) (h : x ≤ 64) (w : World) :
    Calls Tryz.prog 203 #[.int .i64 x] w fun e w' => e = .returned (.int .i64 (Lib.l10 x)) ∧ w' = w := Any.internal_strconv_log10Pow2 Tryz.lays317 x h w
def Tryz.lays318_ren : Go.Shelf.Ren := ⟨fun | 318 => 204 | n => n, fun | 3 => 3 | 4 => 4 | n => n, fun | n => n⟩
theorem Tryz.lays318 : Go.Proofs.Lays.n318 Tryz.prog Tryz.lays318_ren := {
  mixed := by kernel_rfl
  f318 := Tryz.func204.trans (congrArg some (by kernel_rfl))
  t3 := Tryz.underlying3
  a3 := Tryz.isAgg3
  z3 := Tryz.sizeOf3
  v3 := Tryz.zeroValue3
  t4 := Tryz.underlying4
  a4 := Tryz.isAgg4
  z4 := Tryz.sizeOf4
  v4 := Tryz.zeroValue4 }
open Go.Lib in
/-- internal/strconv.bool2: "bool2 converts b to an integer: 1 for true, 0 for false." The world is as it was. (LAID: no walk: one application.) -/
theorem Tryz.internal_strconv_bool2_int (b : Bool) (w : World) :
    Calls Tryz.prog 204 #[.bool b] w fun e w' => e = .returned (.int .i64 (if b then 1 else 0)) ∧ w' = w := Any.internal_strconv_bool2_int Tryz.lays318 b w
def Tryz.lays283_ren : Go.Shelf.Ren := ⟨fun | 283 => 199 | n => n, fun | 3 => 3 | 9 => 9 | 4 => 4 | n => n, fun | n => n⟩
theorem Tryz.lays283 : Go.Proofs.Lays.n283 Tryz.prog Tryz.lays283_ren := {
  mixed := by kernel_rfl
  f283 := Tryz.func199.trans (congrArg some (by kernel_rfl))
  t3 := Tryz.underlying3
  a3 := Tryz.isAgg3
  z3 := Tryz.sizeOf3
  v3 := Tryz.zeroValue3
  t4 := Tryz.underlying4
  a4 := Tryz.isAgg4
  z4 := Tryz.sizeOf4
  v4 := Tryz.zeroValue4
  t9 := Tryz.underlying9
  a9 := Tryz.isAgg9
  z9 := Tryz.sizeOf9
  v9 := Tryz.zeroValue9 }
open Go.Lib in
/-- internal/strconv.small: "small returns the string for an i with 0 <= i < nSmalls.": i's decimal numeral. The world is as it was. (LAID: no walk: one application.) -/
theorem Tryz.internal_strconv_small (i : Nat) (h : i < 100) (w : World) :
    Calls Tryz.prog 199 #[.int .i64 i] w fun e w' => e = .returned (.string ⟨(Lib.decDigits i).toArray⟩) ∧ w' = w := Any.internal_strconv_small Tryz.lays283 i h w
def Tryz.laysM284_ren : Go.Shelf.Ren := ⟨fun | 284 => 200 | 129 => 124 | 317 => 203 | 318 => 204 | n => n, fun | 53 => 157 | 3 => 3 | 212 => 256 | 0 => 0 | 4 => 4 | 46 => 138 | 5 => 5 | 9 => 9 | n => n, fun | 17 => 8 | n => n⟩
theorem Tryz.laysM284 : Go.Proofs.LaysM.n284 Tryz.prog Tryz.laysM284_ren := {
  mixed := by kernel_rfl
  f129 := Tryz.func124.trans (congrArg some (by kernel_rfl))
  f284 := Tryz.func200.trans (congrArg some (by kernel_rfl))
  f317 := Tryz.func203.trans (congrArg some (by kernel_rfl))
  f318 := Tryz.func204.trans (congrArg some (by kernel_rfl))
  t0 := Tryz.underlying0
  a0 := Tryz.isAgg0
  z0 := Tryz.sizeOf0
  v0 := Tryz.zeroValue0
  t3 := Tryz.underlying3
  a3 := Tryz.isAgg3
  z3 := Tryz.sizeOf3
  v3 := Tryz.zeroValue3
  t4 := Tryz.underlying4
  a4 := Tryz.isAgg4
  z4 := Tryz.sizeOf4
  v4 := Tryz.zeroValue4
  t5 := Tryz.underlying5
  a5 := Tryz.isAgg5
  z5 := Tryz.sizeOf5
  v5 := Tryz.zeroValue5
  t9 := Tryz.underlying9
  a9 := Tryz.isAgg9
  z9 := Tryz.sizeOf9
  v9 := Tryz.zeroValue9
  t46 := Tryz.underlying138
  a46 := Tryz.isAgg138
  z46 := Tryz.sizeOf138
  v46 := Tryz.zeroValue138
  t53 := Tryz.underlying157
  a53 := Tryz.isAgg157
  z53 := Tryz.sizeOf157
  v53 := Tryz.zeroValue157
  t212 := Tryz.underlying256
  a212 := Tryz.isAgg256
  z212 := Tryz.sizeOf256
  v212 := Tryz.zeroValue256
  g17 := by kernel_rfl
  i0 := by kernel_rfl
  i3 := by kernel_rfl
  i4 := by kernel_rfl
  i5 := by kernel_rfl
  i9 := by kernel_rfl
  i46 := by kernel_rfl
  i53 := by kernel_rfl
  i212 := by kernel_rfl
  m17 := by kernel_rfl }
open Go.Lib in
/-- internal/strconv.numDigits, at a d that is not 0: THE NUMBER OF d's DECIMAL DIGITS. The world is as it was. (LAID: no walk: one application.) -/
theorem Tryz.internal_strconv_numDigits (u : Nat) (h1 : 1 ≤ u) (h2 : u < 18446744073709551616) (w : World) (htab : Lib.TabIs Tryz.prog w "internal/strconv.uint64pow10" .u64 Lib.pow10Tab) :
    Calls Tryz.prog 200 #[.int .u64 u] w fun e w' => e = .returned (.int .i64 (Lib.nDigits u)) ∧ w' = w := Any.internal_strconv_numDigits Tryz.laysM284 u h1 h2 w htab
def Tryz.lays285_ren : Go.Shelf.Ren := ⟨fun | 285 => 201 | n => n, fun | 37 => 168 | 53 => 157 | 3 => 3 | 4 => 4 | 51 => 155 | 9 => 9 | 5 => 5 | 0 => 0 | n => n, fun | n => n⟩
theorem Tryz.lays285 : Go.Proofs.Lays.n285 Tryz.prog Tryz.lays285_ren := {
  mixed := by kernel_rfl
  f285 := Tryz.func201.trans (congrArg some (by kernel_rfl))
  t0 := Tryz.underlying0
  a0 := Tryz.isAgg0
  z0 := Tryz.sizeOf0
  v0 := Tryz.zeroValue0
  t3 := Tryz.underlying3
  a3 := Tryz.isAgg3
  z3 := Tryz.sizeOf3
  v3 := Tryz.zeroValue3
  t4 := Tryz.underlying4
  a4 := Tryz.isAgg4
  z4 := Tryz.sizeOf4
  v4 := Tryz.zeroValue4
  t5 := Tryz.underlying5
  a5 := Tryz.isAgg5
  z5 := Tryz.sizeOf5
  v5 := Tryz.zeroValue5
  t9 := Tryz.underlying9
  a9 := Tryz.isAgg9
  z9 := Tryz.sizeOf9
  v9 := Tryz.zeroValue9
  t37 := Tryz.underlying168
  a37 := Tryz.isAgg168
  z37 := Tryz.sizeOf168
  v37 := Tryz.zeroValue168
  t51 := Tryz.underlying155
  a51 := Tryz.isAgg155
  z51 := Tryz.sizeOf155
  v51 := Tryz.zeroValue155
  t53 := Tryz.underlying157
  a53 := Tryz.isAgg157
  z53 := Tryz.sizeOf157
  v53 := Tryz.zeroValue157 }
open Go.RowKit Go.Sort Go.Lib in
/-- internal/strconv.formatBase10: "formatBase10 formats the decimal representation of u into a. The caller is responsible for ensuring that a is big enough to hold u. If a is too big, leading zeros will be filled in as needed.": THE ROW HOLDS u's DIGITS ('FmtInv .. 0 ..': every place t holds 'dg u (len - 1 - t)'); all else is as it was but for the count of draws. (LAID: no walk: one application.) -/
theorem Tryz.internal_strconv_formatBase10 (blk off cap : Nat) (u : Nat) (d : Array UInt8) (w : World) (hH : Holds (fun (b : UInt8) => Value.int .u8 (b.toNat : Int)) w blk off d) (hu : u < 10 ^ d.size) (hu64 : u < 18446744073709551616) (hsz : d.size < 4611686018427387904) :
    Calls Tryz.prog 201 #[.slice (some ⟨blk, off, none⟩) d.size cap, .int .u64 u] w fun e w' =>
      e = .returned (.tuple #[]) ∧ ∃ (n v' : Nat) (dk : Array UInt8), w' = (putRow (fun (b : UInt8) => Value.int .u8 (b.toNat : Int)) w blk off dk).drewN n ∧ FmtInv d.size u 0 v' dk := Any.internal_strconv_formatBase10 Tryz.lays285 blk off cap u d w hH hu hu64 hsz
def Tryz.laysM246_ren : Go.Shelf.Ren := ⟨fun | 246 => 198 | 283 => 199 | 284 => 200 | 285 => 201 | 286 => 202 | 129 => 124 | 317 => 203 | 318 => 204 | 319 => 205 | 320 => 206 | 337 => 207 | 338 => 208 | n => n, fun | 2 => 2 | 3 => 3 | 9 => 9 | 4 => 4 | 171 => 250 | 0 => 0 | 53 => 157 | 37 => 168 | 5 => 5 | 173 => 252 | 212 => 256 | 51 => 155 | 20 => 20 | 213 => 257 | 46 => 138 | 232 => 259 | 233 => 260 | n => n, fun | 17 => 8 | 18 => 9 | 19 => 10 | n => n⟩
theorem Tryz.laysM246 : Go.Proofs.LaysM.n246 Tryz.prog Tryz.laysM246_ren := {
  mixed := by kernel_rfl
  f129 := Tryz.func124.trans (congrArg some (by kernel_rfl))
  f246 := Tryz.func198.trans (congrArg some (by kernel_rfl))
  f283 := Tryz.func199.trans (congrArg some (by kernel_rfl))
  f284 := Tryz.func200.trans (congrArg some (by kernel_rfl))
  f285 := Tryz.func201.trans (congrArg some (by kernel_rfl))
  f286 := Tryz.func202.trans (congrArg some (by kernel_rfl))
  f317 := Tryz.func203.trans (congrArg some (by kernel_rfl))
  f318 := Tryz.func204.trans (congrArg some (by kernel_rfl))
  f319 := Tryz.func205.trans (congrArg some (by kernel_rfl))
  f320 := Tryz.func206.trans (congrArg some (by kernel_rfl))
  f337 := Tryz.func207.trans (congrArg some (by kernel_rfl))
  f338 := Tryz.func208.trans (congrArg some (by kernel_rfl))
  t0 := Tryz.underlying0
  a0 := Tryz.isAgg0
  z0 := Tryz.sizeOf0
  v0 := Tryz.zeroValue0
  t2 := Tryz.underlying2
  a2 := Tryz.isAgg2
  z2 := Tryz.sizeOf2
  v2 := Tryz.zeroValue2
  t3 := Tryz.underlying3
  a3 := Tryz.isAgg3
  z3 := Tryz.sizeOf3
  v3 := Tryz.zeroValue3
  t4 := Tryz.underlying4
  a4 := Tryz.isAgg4
  z4 := Tryz.sizeOf4
  v4 := Tryz.zeroValue4
  t5 := Tryz.underlying5
  a5 := Tryz.isAgg5
  z5 := Tryz.sizeOf5
  v5 := Tryz.zeroValue5
  t9 := Tryz.underlying9
  a9 := Tryz.isAgg9
  z9 := Tryz.sizeOf9
  v9 := Tryz.zeroValue9
  t20 := Tryz.underlying20
  a20 := Tryz.isAgg20
  z20 := Tryz.sizeOf20
  v20 := Tryz.zeroValue20
  t37 := Tryz.underlying168
  a37 := Tryz.isAgg168
  z37 := Tryz.sizeOf168
  v37 := Tryz.zeroValue168
  t46 := Tryz.underlying138
  a46 := Tryz.isAgg138
  z46 := Tryz.sizeOf138
  v46 := Tryz.zeroValue138
  t51 := Tryz.underlying155
  a51 := Tryz.isAgg155
  z51 := Tryz.sizeOf155
  v51 := Tryz.zeroValue155
  t53 := Tryz.underlying157
  a53 := Tryz.isAgg157
  z53 := Tryz.sizeOf157
  v53 := Tryz.zeroValue157
  t171 := Tryz.underlying250
  a171 := Tryz.isAgg250
  z171 := Tryz.sizeOf250
  v171 := Tryz.zeroValue250
  t173 := Tryz.underlying252
  a173 := Tryz.isAgg252
  z173 := Tryz.sizeOf252
  v173 := Tryz.zeroValue252
  t212 := Tryz.underlying256
  a212 := Tryz.isAgg256
  z212 := Tryz.sizeOf256
  v212 := Tryz.zeroValue256
  t213 := Tryz.underlying257
  a213 := Tryz.isAgg257
  z213 := Tryz.sizeOf257
  t232 := Tryz.underlying259
  a232 := Tryz.isAgg259
  z232 := Tryz.sizeOf259
  v232 := Tryz.zeroValue259
  t233 := Tryz.underlying260
  a233 := Tryz.isAgg260
  z233 := Tryz.sizeOf260
  v233 := Tryz.zeroValue260
  g17 := by kernel_rfl
  g18 := by kernel_rfl
  g19 := by kernel_rfl
  i0 := by kernel_rfl
  i2 := by kernel_rfl
  i3 := by kernel_rfl
  i4 := by kernel_rfl
  i5 := by kernel_rfl
  i9 := by kernel_rfl
  i20 := by kernel_rfl
  i37 := by kernel_rfl
  i46 := by kernel_rfl
  i51 := by kernel_rfl
  i53 := by kernel_rfl
  i171 := by kernel_rfl
  i173 := by kernel_rfl
  i212 := by kernel_rfl
  i232 := by kernel_rfl
  i233 := by kernel_rfl
  m17 := by kernel_rfl
  m18 := by kernel_rfl
  m19 := by kernel_rfl }
open Go.RowKit Go.Sort Go.Lib in
/-- internal/strconv.FormatInt: "FormatInt returns the string representation of i in the given base": AT BASE 10: i's decimal numeral, for every int64. The world behind the call: the world before it, new blocks behind the heap, draws. (LAID: no walk: one application.) -/
theorem Tryz.internal_strconv_FormatInt_10 (n : Int) (h0 : -9223372036854775808 ≤ n) (h1 : n ≤ 9223372036854775807) (w : World) (htab : Lib.TabIs Tryz.prog w "internal/strconv.uint64pow10" .u64 Lib.pow10Tab) :
    Calls Tryz.prog 198 #[.int .i64 n, .int .i64 10] w fun e w' => e = .returned (.string ⟨(Lib.itoa n).toArray⟩) ∧ ∃ k os, w' = grow (w.drewN k) os := Any.internal_strconv_FormatInt_10 Tryz.laysM246 n h0 h1 w htab
def Tryz.lays246_ren : Go.Shelf.Ren := ⟨fun | 246 => 198 | 283 => 199 | 284 => 200 | 285 => 201 | 286 => 202 | 129 => 124 | 317 => 203 | 318 => 204 | 319 => 205 | 320 => 206 | 337 => 207 | 338 => 208 | n => n, fun | 2 => 2 | 3 => 3 | 9 => 9 | 4 => 4 | 171 => 250 | 0 => 0 | 53 => 157 | 37 => 168 | 5 => 5 | 173 => 252 | 212 => 256 | 51 => 155 | 20 => 20 | 213 => 257 | 46 => 138 | 232 => 259 | 233 => 260 | n => n, fun | 17 => 8 | 18 => 9 | 19 => 10 | n => n⟩
theorem Tryz.lays246 : Go.Proofs.Lays.n246 Tryz.prog Tryz.lays246_ren := {
  mixed := by kernel_rfl
  f129 := Tryz.func124.trans (congrArg some (by kernel_rfl))
  f246 := Tryz.func198.trans (congrArg some (by kernel_rfl))
  f283 := Tryz.func199.trans (congrArg some (by kernel_rfl))
  f284 := Tryz.func200.trans (congrArg some (by kernel_rfl))
  f285 := Tryz.func201.trans (congrArg some (by kernel_rfl))
  f286 := Tryz.func202.trans (congrArg some (by kernel_rfl))
  f317 := Tryz.func203.trans (congrArg some (by kernel_rfl))
  f318 := Tryz.func204.trans (congrArg some (by kernel_rfl))
  f319 := Tryz.func205.trans (congrArg some (by kernel_rfl))
  f320 := Tryz.func206.trans (congrArg some (by kernel_rfl))
  f337 := Tryz.func207.trans (congrArg some (by kernel_rfl))
  f338 := Tryz.func208.trans (congrArg some (by kernel_rfl))
  t0 := Tryz.underlying0
  a0 := Tryz.isAgg0
  z0 := Tryz.sizeOf0
  v0 := Tryz.zeroValue0
  t2 := Tryz.underlying2
  a2 := Tryz.isAgg2
  z2 := Tryz.sizeOf2
  v2 := Tryz.zeroValue2
  t3 := Tryz.underlying3
  a3 := Tryz.isAgg3
  z3 := Tryz.sizeOf3
  v3 := Tryz.zeroValue3
  t4 := Tryz.underlying4
  a4 := Tryz.isAgg4
  z4 := Tryz.sizeOf4
  v4 := Tryz.zeroValue4
  t5 := Tryz.underlying5
  a5 := Tryz.isAgg5
  z5 := Tryz.sizeOf5
  v5 := Tryz.zeroValue5
  t9 := Tryz.underlying9
  a9 := Tryz.isAgg9
  z9 := Tryz.sizeOf9
  v9 := Tryz.zeroValue9
  t20 := Tryz.underlying20
  a20 := Tryz.isAgg20
  z20 := Tryz.sizeOf20
  v20 := Tryz.zeroValue20
  t37 := Tryz.underlying168
  a37 := Tryz.isAgg168
  z37 := Tryz.sizeOf168
  v37 := Tryz.zeroValue168
  t46 := Tryz.underlying138
  a46 := Tryz.isAgg138
  z46 := Tryz.sizeOf138
  v46 := Tryz.zeroValue138
  t51 := Tryz.underlying155
  a51 := Tryz.isAgg155
  z51 := Tryz.sizeOf155
  v51 := Tryz.zeroValue155
  t53 := Tryz.underlying157
  a53 := Tryz.isAgg157
  z53 := Tryz.sizeOf157
  v53 := Tryz.zeroValue157
  t171 := Tryz.underlying250
  a171 := Tryz.isAgg250
  z171 := Tryz.sizeOf250
  v171 := Tryz.zeroValue250
  t173 := Tryz.underlying252
  a173 := Tryz.isAgg252
  z173 := Tryz.sizeOf252
  v173 := Tryz.zeroValue252
  t212 := Tryz.underlying256
  a212 := Tryz.isAgg256
  z212 := Tryz.sizeOf256
  v212 := Tryz.zeroValue256
  t213 := Tryz.underlying257
  a213 := Tryz.isAgg257
  z213 := Tryz.sizeOf257
  t232 := Tryz.underlying259
  a232 := Tryz.isAgg259
  z232 := Tryz.sizeOf259
  v232 := Tryz.zeroValue259
  t233 := Tryz.underlying260
  a233 := Tryz.isAgg260
  z233 := Tryz.sizeOf260
  v233 := Tryz.zeroValue260
  g17 := by kernel_rfl
  g18 := by kernel_rfl
  g19 := by kernel_rfl }
open Go.RowKit Go.Sort Go.Lib in
/-- THE ROAD WITHOUT THE TABLE: 0 <= i < 100: two constants are read, nothing is laid: no premise on the world, and the world is as it was. (LAID: no walk: one application.) -/
theorem Tryz.internal_strconv_FormatInt_10_small (i : Nat) (hi : i < 100) (w : World) :
    Calls Tryz.prog 198 #[.int .i64 i, .int .i64 10] w fun e w' => e = .returned (.string ⟨(Lib.decDigits i).toArray⟩) ∧ w' = w := Any.internal_strconv_FormatInt_10_small Tryz.lays246 i hi w
def Tryz.laysM243_ren : Go.Shelf.Ren := ⟨fun | 243 => 192 | 246 => 198 | 283 => 199 | 284 => 200 | 285 => 201 | 286 => 202 | 129 => 124 | 317 => 203 | 318 => 204 | 319 => 205 | 320 => 206 | 337 => 207 | 338 => 208 | n => n, fun | 3 => 3 | 9 => 9 | 2 => 2 | 4 => 4 | 171 => 250 | 0 => 0 | 53 => 157 | 37 => 168 | 5 => 5 | 173 => 252 | 212 => 256 | 51 => 155 | 20 => 20 | 213 => 257 | 46 => 138 | 232 => 259 | 233 => 260 | n => n, fun | 17 => 8 | 18 => 9 | 19 => 10 | n => n⟩
theorem Tryz.laysM243 : Go.Proofs.LaysM.n243 Tryz.prog Tryz.laysM243_ren := {
  mixed := by kernel_rfl
  f129 := Tryz.func124.trans (congrArg some (by kernel_rfl))
  f243 := Tryz.func192.trans (congrArg some (by kernel_rfl))
  f246 := Tryz.func198.trans (congrArg some (by kernel_rfl))
  f283 := Tryz.func199.trans (congrArg some (by kernel_rfl))
  f284 := Tryz.func200.trans (congrArg some (by kernel_rfl))
  f285 := Tryz.func201.trans (congrArg some (by kernel_rfl))
  f286 := Tryz.func202.trans (congrArg some (by kernel_rfl))
  f317 := Tryz.func203.trans (congrArg some (by kernel_rfl))
  f318 := Tryz.func204.trans (congrArg some (by kernel_rfl))
  f319 := Tryz.func205.trans (congrArg some (by kernel_rfl))
  f320 := Tryz.func206.trans (congrArg some (by kernel_rfl))
  f337 := Tryz.func207.trans (congrArg some (by kernel_rfl))
  f338 := Tryz.func208.trans (congrArg some (by kernel_rfl))
  t0 := Tryz.underlying0
  a0 := Tryz.isAgg0
  z0 := Tryz.sizeOf0
  v0 := Tryz.zeroValue0
  t2 := Tryz.underlying2
  a2 := Tryz.isAgg2
  z2 := Tryz.sizeOf2
  v2 := Tryz.zeroValue2
  t3 := Tryz.underlying3
  a3 := Tryz.isAgg3
  z3 := Tryz.sizeOf3
  v3 := Tryz.zeroValue3
  t4 := Tryz.underlying4
  a4 := Tryz.isAgg4
  z4 := Tryz.sizeOf4
  v4 := Tryz.zeroValue4
  t5 := Tryz.underlying5
  a5 := Tryz.isAgg5
  z5 := Tryz.sizeOf5
  v5 := Tryz.zeroValue5
  t9 := Tryz.underlying9
  a9 := Tryz.isAgg9
  z9 := Tryz.sizeOf9
  v9 := Tryz.zeroValue9
  t20 := Tryz.underlying20
  a20 := Tryz.isAgg20
  z20 := Tryz.sizeOf20
  v20 := Tryz.zeroValue20
  t37 := Tryz.underlying168
  a37 := Tryz.isAgg168
  z37 := Tryz.sizeOf168
  v37 := Tryz.zeroValue168
  t46 := Tryz.underlying138
  a46 := Tryz.isAgg138
  z46 := Tryz.sizeOf138
  v46 := Tryz.zeroValue138
  t51 := Tryz.underlying155
  a51 := Tryz.isAgg155
  z51 := Tryz.sizeOf155
  v51 := Tryz.zeroValue155
  t53 := Tryz.underlying157
  a53 := Tryz.isAgg157
  z53 := Tryz.sizeOf157
  v53 := Tryz.zeroValue157
  t171 := Tryz.underlying250
  a171 := Tryz.isAgg250
  z171 := Tryz.sizeOf250
  v171 := Tryz.zeroValue250
  t173 := Tryz.underlying252
  a173 := Tryz.isAgg252
  z173 := Tryz.sizeOf252
  v173 := Tryz.zeroValue252
  t212 := Tryz.underlying256
  a212 := Tryz.isAgg256
  z212 := Tryz.sizeOf256
  v212 := Tryz.zeroValue256
  t213 := Tryz.underlying257
  a213 := Tryz.isAgg257
  z213 := Tryz.sizeOf257
  t232 := Tryz.underlying259
  a232 := Tryz.isAgg259
  z232 := Tryz.sizeOf259
  v232 := Tryz.zeroValue259
  t233 := Tryz.underlying260
  a233 := Tryz.isAgg260
  z233 := Tryz.sizeOf260
  v233 := Tryz.zeroValue260
  g17 := by kernel_rfl
  g18 := by kernel_rfl
  g19 := by kernel_rfl
  i0 := by kernel_rfl
  i2 := by kernel_rfl
  i3 := by kernel_rfl
  i4 := by kernel_rfl
  i5 := by kernel_rfl
  i9 := by kernel_rfl
  i20 := by kernel_rfl
  i37 := by kernel_rfl
  i46 := by kernel_rfl
  i51 := by kernel_rfl
  i53 := by kernel_rfl
  i171 := by kernel_rfl
  i173 := by kernel_rfl
  i212 := by kernel_rfl
  i232 := by kernel_rfl
  i233 := by kernel_rfl
  m17 := by kernel_rfl
  m18 := by kernel_rfl
  m19 := by kernel_rfl }
open Go.RowKit Go.Sort Go.Lib in
/-- internal/strconv.Itoa: "Itoa is equivalent to FormatInt(int64(i), 10).": i's decimal numeral, for every int. (LAID: no walk: one application.) -/
theorem Tryz.internal_strconv_Itoa (n : Int) (h0 : -9223372036854775808 ≤ n) (h1 : n ≤ 9223372036854775807) (w : World) (htab : Lib.TabIs Tryz.prog w "internal/strconv.uint64pow10" .u64 Lib.pow10Tab) :
    Calls Tryz.prog 192 #[.int .i64 n] w fun e w' => e = .returned (.string ⟨(Lib.itoa n).toArray⟩) ∧ ∃ k os, w' = grow (w.drewN k) os := Any.internal_strconv_Itoa Tryz.laysM243 n h0 h1 w htab
def Tryz.lays243_ren : Go.Shelf.Ren := ⟨fun | 243 => 192 | 246 => 198 | 283 => 199 | 284 => 200 | 285 => 201 | 286 => 202 | 129 => 124 | 317 => 203 | 318 => 204 | 319 => 205 | 320 => 206 | 337 => 207 | 338 => 208 | n => n, fun | 3 => 3 | 9 => 9 | 2 => 2 | 4 => 4 | 171 => 250 | 0 => 0 | 53 => 157 | 37 => 168 | 5 => 5 | 173 => 252 | 212 => 256 | 51 => 155 | 20 => 20 | 213 => 257 | 46 => 138 | 232 => 259 | 233 => 260 | n => n, fun | 17 => 8 | 18 => 9 | 19 => 10 | n => n⟩
theorem Tryz.lays243 : Go.Proofs.Lays.n243 Tryz.prog Tryz.lays243_ren := {
  mixed := by kernel_rfl
  f129 := Tryz.func124.trans (congrArg some (by kernel_rfl))
  f243 := Tryz.func192.trans (congrArg some (by kernel_rfl))
  f246 := Tryz.func198.trans (congrArg some (by kernel_rfl))
  f283 := Tryz.func199.trans (congrArg some (by kernel_rfl))
  f284 := Tryz.func200.trans (congrArg some (by kernel_rfl))
  f285 := Tryz.func201.trans (congrArg some (by kernel_rfl))
  f286 := Tryz.func202.trans (congrArg some (by kernel_rfl))
  f317 := Tryz.func203.trans (congrArg some (by kernel_rfl))
  f318 := Tryz.func204.trans (congrArg some (by kernel_rfl))
  f319 := Tryz.func205.trans (congrArg some (by kernel_rfl))
  f320 := Tryz.func206.trans (congrArg some (by kernel_rfl))
  f337 := Tryz.func207.trans (congrArg some (by kernel_rfl))
  f338 := Tryz.func208.trans (congrArg some (by kernel_rfl))
  t0 := Tryz.underlying0
  a0 := Tryz.isAgg0
  z0 := Tryz.sizeOf0
  v0 := Tryz.zeroValue0
  t2 := Tryz.underlying2
  a2 := Tryz.isAgg2
  z2 := Tryz.sizeOf2
  v2 := Tryz.zeroValue2
  t3 := Tryz.underlying3
  a3 := Tryz.isAgg3
  z3 := Tryz.sizeOf3
  v3 := Tryz.zeroValue3
  t4 := Tryz.underlying4
  a4 := Tryz.isAgg4
  z4 := Tryz.sizeOf4
  v4 := Tryz.zeroValue4
  t5 := Tryz.underlying5
  a5 := Tryz.isAgg5
  z5 := Tryz.sizeOf5
  v5 := Tryz.zeroValue5
  t9 := Tryz.underlying9
  a9 := Tryz.isAgg9
  z9 := Tryz.sizeOf9
  v9 := Tryz.zeroValue9
  t20 := Tryz.underlying20
  a20 := Tryz.isAgg20
  z20 := Tryz.sizeOf20
  v20 := Tryz.zeroValue20
  t37 := Tryz.underlying168
  a37 := Tryz.isAgg168
  z37 := Tryz.sizeOf168
  v37 := Tryz.zeroValue168
  t46 := Tryz.underlying138
  a46 := Tryz.isAgg138
  z46 := Tryz.sizeOf138
  v46 := Tryz.zeroValue138
  t51 := Tryz.underlying155
  a51 := Tryz.isAgg155
  z51 := Tryz.sizeOf155
  v51 := Tryz.zeroValue155
  t53 := Tryz.underlying157
  a53 := Tryz.isAgg157
  z53 := Tryz.sizeOf157
  v53 := Tryz.zeroValue157
  t171 := Tryz.underlying250
  a171 := Tryz.isAgg250
  z171 := Tryz.sizeOf250
  v171 := Tryz.zeroValue250
  t173 := Tryz.underlying252
  a173 := Tryz.isAgg252
  z173 := Tryz.sizeOf252
  v173 := Tryz.zeroValue252
  t212 := Tryz.underlying256
  a212 := Tryz.isAgg256
  z212 := Tryz.sizeOf256
  v212 := Tryz.zeroValue256
  t213 := Tryz.underlying257
  a213 := Tryz.isAgg257
  z213 := Tryz.sizeOf257
  t232 := Tryz.underlying259
  a232 := Tryz.isAgg259
  z232 := Tryz.sizeOf259
  v232 := Tryz.zeroValue259
  t233 := Tryz.underlying260
  a233 := Tryz.isAgg260
  z233 := Tryz.sizeOf260
  v233 := Tryz.zeroValue260
  g17 := by kernel_rfl
  g18 := by kernel_rfl
  g19 := by kernel_rfl }
open Go.RowKit Go.Sort Go.Lib in
/-- THE ROAD WITHOUT THE TABLE: 0 <= i < 100. (LAID: no walk: one application.) -/
theorem Tryz.internal_strconv_Itoa_small (i : Nat) (hi : i < 100) (w : World) :
    Calls Tryz.prog 192 #[.int .i64 i] w fun e w' => e = .returned (.string ⟨(Lib.decDigits i).toArray⟩) ∧ w' = w := Any.internal_strconv_Itoa_small Tryz.lays243 i hi w
def Tryz.laysM171_ren : Go.Shelf.Ren := ⟨fun | 171 => 176 | 243 => 192 | 246 => 198 | 283 => 199 | 284 => 200 | 285 => 201 | 286 => 202 | 129 => 124 | 317 => 203 | 318 => 204 | 319 => 205 | 320 => 206 | 337 => 207 | 338 => 208 | n => n, fun | 3 => 3 | 9 => 9 | 2 => 2 | 4 => 4 | 171 => 250 | 0 => 0 | 53 => 157 | 37 => 168 | 5 => 5 | 173 => 252 | 212 => 256 | 51 => 155 | 20 => 20 | 213 => 257 | 46 => 138 | 232 => 259 | 233 => 260 | n => n, fun | 17 => 8 | 18 => 9 | 19 => 10 | n => n⟩
theorem Tryz.laysM171 : Go.Proofs.LaysM.n171 Tryz.prog Tryz.laysM171_ren := {
  mixed := by kernel_rfl
  f129 := Tryz.func124.trans (congrArg some (by kernel_rfl))
  f171 := Tryz.func176.trans (congrArg some (by kernel_rfl))
  f243 := Tryz.func192.trans (congrArg some (by kernel_rfl))
  f246 := Tryz.func198.trans (congrArg some (by kernel_rfl))
  f283 := Tryz.func199.trans (congrArg some (by kernel_rfl))
  f284 := Tryz.func200.trans (congrArg some (by kernel_rfl))
  f285 := Tryz.func201.trans (congrArg some (by kernel_rfl))
  f286 := Tryz.func202.trans (congrArg some (by kernel_rfl))
  f317 := Tryz.func203.trans (congrArg some (by kernel_rfl))
  f318 := Tryz.func204.trans (congrArg some (by kernel_rfl))
  f319 := Tryz.func205.trans (congrArg some (by kernel_rfl))
  f320 := Tryz.func206.trans (congrArg some (by kernel_rfl))
  f337 := Tryz.func207.trans (congrArg some (by kernel_rfl))
  f338 := Tryz.func208.trans (congrArg some (by kernel_rfl))
  t0 := Tryz.underlying0
  a0 := Tryz.isAgg0
  z0 := Tryz.sizeOf0
  v0 := Tryz.zeroValue0
  t2 := Tryz.underlying2
  a2 := Tryz.isAgg2
  z2 := Tryz.sizeOf2
  v2 := Tryz.zeroValue2
  t3 := Tryz.underlying3
  a3 := Tryz.isAgg3
  z3 := Tryz.sizeOf3
  v3 := Tryz.zeroValue3
  t4 := Tryz.underlying4
  a4 := Tryz.isAgg4
  z4 := Tryz.sizeOf4
  v4 := Tryz.zeroValue4
  t5 := Tryz.underlying5
  a5 := Tryz.isAgg5
  z5 := Tryz.sizeOf5
  v5 := Tryz.zeroValue5
  t9 := Tryz.underlying9
  a9 := Tryz.isAgg9
  z9 := Tryz.sizeOf9
  v9 := Tryz.zeroValue9
  t20 := Tryz.underlying20
  a20 := Tryz.isAgg20
  z20 := Tryz.sizeOf20
  v20 := Tryz.zeroValue20
  t37 := Tryz.underlying168
  a37 := Tryz.isAgg168
  z37 := Tryz.sizeOf168
  v37 := Tryz.zeroValue168
  t46 := Tryz.underlying138
  a46 := Tryz.isAgg138
  z46 := Tryz.sizeOf138
  v46 := Tryz.zeroValue138
  t51 := Tryz.underlying155
  a51 := Tryz.isAgg155
  z51 := Tryz.sizeOf155
  v51 := Tryz.zeroValue155
  t53 := Tryz.underlying157
  a53 := Tryz.isAgg157
  z53 := Tryz.sizeOf157
  v53 := Tryz.zeroValue157
  t171 := Tryz.underlying250
  a171 := Tryz.isAgg250
  z171 := Tryz.sizeOf250
  v171 := Tryz.zeroValue250
  t173 := Tryz.underlying252
  a173 := Tryz.isAgg252
  z173 := Tryz.sizeOf252
  v173 := Tryz.zeroValue252
  t212 := Tryz.underlying256
  a212 := Tryz.isAgg256
  z212 := Tryz.sizeOf256
  v212 := Tryz.zeroValue256
  t213 := Tryz.underlying257
  a213 := Tryz.isAgg257
  z213 := Tryz.sizeOf257
  t232 := Tryz.underlying259
  a232 := Tryz.isAgg259
  z232 := Tryz.sizeOf259
  v232 := Tryz.zeroValue259
  t233 := Tryz.underlying260
  a233 := Tryz.isAgg260
  z233 := Tryz.sizeOf260
  v233 := Tryz.zeroValue260
  g17 := by kernel_rfl
  g18 := by kernel_rfl
  g19 := by kernel_rfl
  i0 := by kernel_rfl
  i2 := by kernel_rfl
  i3 := by kernel_rfl
  i4 := by kernel_rfl
  i5 := by kernel_rfl
  i9 := by kernel_rfl
  i20 := by kernel_rfl
  i37 := by kernel_rfl
  i46 := by kernel_rfl
  i51 := by kernel_rfl
  i53 := by kernel_rfl
  i171 := by kernel_rfl
  i173 := by kernel_rfl
  i212 := by kernel_rfl
  i232 := by kernel_rfl
  i233 := by kernel_rfl
  m17 := by kernel_rfl
  m18 := by kernel_rfl
  m19 := by kernel_rfl }
open Go.RowKit Go.Sort Go.Lib in
/-- strconv.Itoa: "Itoa is equivalent to FormatInt(int64(i), 10).": i's DECIMAL NUMERAL ('Lib.itoa': a '-' where i is negative, then the digits), FOR EVERY int. The world behind the call: the world before it, new blocks behind the heap (the library's 'var a [24]byte'), draws. (LAID: no walk: one application.) -/
theorem Tryz.strconv_Itoa (n : Int) (h0 : -9223372036854775808 ≤ n) (h1 : n ≤ 9223372036854775807) (w : World) (htab : Lib.TabIs Tryz.prog w "internal/strconv.uint64pow10" .u64 Lib.pow10Tab) :
    Calls Tryz.prog 176 #[.int .i64 n] w fun e w' => e = .returned (.string ⟨(Lib.itoa n).toArray⟩) ∧ ∃ k os, w' = grow (w.drewN k) os := Any.strconv_Itoa Tryz.laysM171 n h0 h1 w htab
def Tryz.lays171_ren : Go.Shelf.Ren := ⟨fun | 171 => 176 | 243 => 192 | 246 => 198 | 283 => 199 | 284 => 200 | 285 => 201 | 286 => 202 | 129 => 124 | 317 => 203 | 318 => 204 | 319 => 205 | 320 => 206 | 337 => 207 | 338 => 208 | n => n, fun | 3 => 3 | 9 => 9 | 2 => 2 | 4 => 4 | 171 => 250 | 0 => 0 | 53 => 157 | 37 => 168 | 5 => 5 | 173 => 252 | 212 => 256 | 51 => 155 | 20 => 20 | 213 => 257 | 46 => 138 | 232 => 259 | 233 => 260 | n => n, fun | 17 => 8 | 18 => 9 | 19 => 10 | n => n⟩
theorem Tryz.lays171 : Go.Proofs.Lays.n171 Tryz.prog Tryz.lays171_ren := {
  mixed := by kernel_rfl
  f129 := Tryz.func124.trans (congrArg some (by kernel_rfl))
  f171 := Tryz.func176.trans (congrArg some (by kernel_rfl))
  f243 := Tryz.func192.trans (congrArg some (by kernel_rfl))
  f246 := Tryz.func198.trans (congrArg some (by kernel_rfl))
  f283 := Tryz.func199.trans (congrArg some (by kernel_rfl))
  f284 := Tryz.func200.trans (congrArg some (by kernel_rfl))
  f285 := Tryz.func201.trans (congrArg some (by kernel_rfl))
  f286 := Tryz.func202.trans (congrArg some (by kernel_rfl))
  f317 := Tryz.func203.trans (congrArg some (by kernel_rfl))
  f318 := Tryz.func204.trans (congrArg some (by kernel_rfl))
  f319 := Tryz.func205.trans (congrArg some (by kernel_rfl))
  f320 := Tryz.func206.trans (congrArg some (by kernel_rfl))
  f337 := Tryz.func207.trans (congrArg some (by kernel_rfl))
  f338 := Tryz.func208.trans (congrArg some (by kernel_rfl))
  t0 := Tryz.underlying0
  a0 := Tryz.isAgg0
  z0 := Tryz.sizeOf0
  v0 := Tryz.zeroValue0
  t2 := Tryz.underlying2
  a2 := Tryz.isAgg2
  z2 := Tryz.sizeOf2
  v2 := Tryz.zeroValue2
  t3 := Tryz.underlying3
  a3 := Tryz.isAgg3
  z3 := Tryz.sizeOf3
  v3 := Tryz.zeroValue3
  t4 := Tryz.underlying4
  a4 := Tryz.isAgg4
  z4 := Tryz.sizeOf4
  v4 := Tryz.zeroValue4
  t5 := Tryz.underlying5
  a5 := Tryz.isAgg5
  z5 := Tryz.sizeOf5
  v5 := Tryz.zeroValue5
  t9 := Tryz.underlying9
  a9 := Tryz.isAgg9
  z9 := Tryz.sizeOf9
  v9 := Tryz.zeroValue9
  t20 := Tryz.underlying20
  a20 := Tryz.isAgg20
  z20 := Tryz.sizeOf20
  v20 := Tryz.zeroValue20
  t37 := Tryz.underlying168
  a37 := Tryz.isAgg168
  z37 := Tryz.sizeOf168
  v37 := Tryz.zeroValue168
  t46 := Tryz.underlying138
  a46 := Tryz.isAgg138
  z46 := Tryz.sizeOf138
  v46 := Tryz.zeroValue138
  t51 := Tryz.underlying155
  a51 := Tryz.isAgg155
  z51 := Tryz.sizeOf155
  v51 := Tryz.zeroValue155
  t53 := Tryz.underlying157
  a53 := Tryz.isAgg157
  z53 := Tryz.sizeOf157
  v53 := Tryz.zeroValue157
  t171 := Tryz.underlying250
  a171 := Tryz.isAgg250
  z171 := Tryz.sizeOf250
  v171 := Tryz.zeroValue250
  t173 := Tryz.underlying252
  a173 := Tryz.isAgg252
  z173 := Tryz.sizeOf252
  v173 := Tryz.zeroValue252
  t212 := Tryz.underlying256
  a212 := Tryz.isAgg256
  z212 := Tryz.sizeOf256
  v212 := Tryz.zeroValue256
  t213 := Tryz.underlying257
  a213 := Tryz.isAgg257
  z213 := Tryz.sizeOf257
  t232 := Tryz.underlying259
  a232 := Tryz.isAgg259
  z232 := Tryz.sizeOf259
  v232 := Tryz.zeroValue259
  t233 := Tryz.underlying260
  a233 := Tryz.isAgg260
  z233 := Tryz.sizeOf260
  v233 := Tryz.zeroValue260
  g17 := by kernel_rfl
  g18 := by kernel_rfl
  g19 := by kernel_rfl }
open Go.RowKit Go.Sort Go.Lib in
/-- THE ROAD WITHOUT THE TABLE: 0 <= i < 100: NO PREMISE ON THE WORLD, AND THE WORLD IS AS IT WAS: a row that keeps its argument in that range need list no table ('laid = []'). (LAID: no walk: one application.) -/
theorem Tryz.strconv_Itoa_small (i : Nat) (hi : i < 100) (w : World) :
    Calls Tryz.prog 176 #[.int .i64 i] w fun e w' => e = .returned (.string ⟨(Lib.decDigits i).toArray⟩) ∧ w' = w := Any.strconv_Itoa_small Tryz.lays171 i hi w
def Tryz.lays190_ren : Go.Shelf.Ren := ⟨fun | 190 => 110 | 125 => 104 | 258 => 144 | 128 => 123 | 129 => 124 | 302 => 165 | 303 => 166 | 304 => 167 | 305 => 168 | 306 => 169 | 307 => 170 | 308 => 171 | 309 => 172 | 310 => 173 | 333 => 186 | 329 => 187 | 330 => 188 | 334 => 189 | 335 => 190 | 336 => 191 | 344 => 197 | n => n, fun | 31 => 22 | 9 => 9 | 3 => 3 | 46 => 138 | 0 => 0 | 51 => 155 | 53 => 157 | 4 => 4 | 183 => 203 | 182 => 202 | 131 => 164 | 5 => 5 | 218 => 231 | 222 => 186 | 228 => 243 | 229 => 209 | n => n, fun | n => n⟩
theorem Tryz.lays190 : Go.Proofs.Lays.n190 Tryz.prog Tryz.lays190_ren := {
  mixed := by kernel_rfl
  f125 := Tryz.func104.trans (congrArg some (by kernel_rfl))
  f128 := Tryz.func123.trans (congrArg some (by kernel_rfl))
  f129 := Tryz.func124.trans (congrArg some (by kernel_rfl))
  f190 := Tryz.func110.trans (congrArg some (by kernel_rfl))
  f258 := Tryz.func144.trans (congrArg some (by kernel_rfl))
  f302 := Tryz.func165.trans (congrArg some (by kernel_rfl))
  f303 := Tryz.func166.trans (congrArg some (by kernel_rfl))
  f304 := Tryz.func167.trans (congrArg some (by kernel_rfl))
  f305 := Tryz.func168.trans (congrArg some (by kernel_rfl))
  f306 := Tryz.func169.trans (congrArg some (by kernel_rfl))
  f307 := Tryz.func170.trans (congrArg some (by kernel_rfl))
  f308 := Tryz.func171.trans (congrArg some (by kernel_rfl))
  f309 := Tryz.func172.trans (congrArg some (by kernel_rfl))
  f310 := Tryz.func173.trans (congrArg some (by kernel_rfl))
  f329 := Tryz.func187.trans (congrArg some (by kernel_rfl))
  f330 := Tryz.func188.trans (congrArg some (by kernel_rfl))
  f333 := Tryz.func186.trans (congrArg some (by kernel_rfl))
  f334 := Tryz.func189.trans (congrArg some (by kernel_rfl))
  f335 := Tryz.func190.trans (congrArg some (by kernel_rfl))
  f336 := Tryz.func191.trans (congrArg some (by kernel_rfl))
  f344 := Tryz.func197.trans (congrArg some (by kernel_rfl))
  t0 := Tryz.underlying0
  a0 := Tryz.isAgg0
  z0 := Tryz.sizeOf0
  v0 := Tryz.zeroValue0
  t3 := Tryz.underlying3
  a3 := Tryz.isAgg3
  z3 := Tryz.sizeOf3
  v3 := Tryz.zeroValue3
  t4 := Tryz.underlying4
  a4 := Tryz.isAgg4
  z4 := Tryz.sizeOf4
  v4 := Tryz.zeroValue4
  t5 := Tryz.underlying5
  a5 := Tryz.isAgg5
  z5 := Tryz.sizeOf5
  v5 := Tryz.zeroValue5
  t9 := Tryz.underlying9
  a9 := Tryz.isAgg9
  z9 := Tryz.sizeOf9
  v9 := Tryz.zeroValue9
  t31 := Tryz.underlying22
  a31 := Tryz.isAgg22
  z31 := Tryz.sizeOf22
  v31 := Tryz.zeroValue22
  t46 := Tryz.underlying138
  a46 := Tryz.isAgg138
  z46 := Tryz.sizeOf138
  v46 := Tryz.zeroValue138
  t51 := Tryz.underlying155
  a51 := Tryz.isAgg155
  z51 := Tryz.sizeOf155
  v51 := Tryz.zeroValue155
  t53 := Tryz.underlying157
  a53 := Tryz.isAgg157
  z53 := Tryz.sizeOf157
  v53 := Tryz.zeroValue157
  t131 := Tryz.underlying164
  a131 := Tryz.isAgg164
  z131 := Tryz.sizeOf164
  v131 := Tryz.zeroValue164
  t182 := Tryz.underlying202
  a182 := Tryz.isAgg202
  z182 := Tryz.sizeOf202
  v182 := Tryz.zeroValue202
  t183 := Tryz.underlying203
  a183 := Tryz.isAgg203
  z183 := Tryz.sizeOf203
  v183 := Tryz.zeroValue203
  t218 := Tryz.underlying231
  a218 := Tryz.isAgg231
  z218 := Tryz.sizeOf231
  v218 := Tryz.zeroValue231
  t222 := Tryz.underlying186
  a222 := Tryz.isAgg186
  z222 := Tryz.sizeOf186
  v222 := Tryz.zeroValue186
  t228 := Tryz.underlying243
  a228 := Tryz.isAgg243
  z228 := Tryz.sizeOf243
  v228 := Tryz.zeroValue243
  t229 := Tryz.underlying209
  a229 := Tryz.isAgg209
  z229 := Tryz.sizeOf209
  v229 := Tryz.zeroValue209 }
open Go.Sort Go.RowKit in
theorem Tryz.slices_Sort_string (blk off cap : Nat) (ss : List (List UInt8)) (w : World) (hH : Holds encStr w blk off ss.toArray) (hblk : blk < w.heap.size) (hsz : ss.length < 4611686018427387904) :
    Calls Tryz.prog 110 #[.slice (some ⟨blk, off, none⟩) ss.length cap] w fun e w' =>
      e = .returned (.tuple #[]) ∧ ∃ n os, w' = grow (putRow encStr (Sort.ahead w n) blk off (ss.mergeSort fun x y => decide (x ≤ y)).toArray) os := Any.slices_Sort_string Tryz.lays190 blk off cap ss w hH hblk hsz
def Tryz.lays192_ren : Go.Shelf.Ren := ⟨fun | 192 => 94 | 190 => 110 | 125 => 104 | 258 => 144 | 128 => 123 | 129 => 124 | 302 => 165 | 303 => 166 | 304 => 167 | 305 => 168 | 306 => 169 | 307 => 170 | 308 => 171 | 309 => 172 | 310 => 173 | 333 => 186 | 329 => 187 | 330 => 188 | 334 => 189 | 335 => 190 | 336 => 191 | 344 => 197 | n => n, fun | 31 => 22 | 0 => 0 | 9 => 9 | 3 => 3 | 46 => 138 | 51 => 155 | 53 => 157 | 4 => 4 | 183 => 203 | 182 => 202 | 131 => 164 | 5 => 5 | 218 => 231 | 222 => 186 | 228 => 243 | 229 => 209 | n => n, fun | n => n⟩
theorem Tryz.lays192 : Go.Proofs.Lays.n192 Tryz.prog Tryz.lays192_ren := {
  mixed := by kernel_rfl
  f125 := Tryz.func104.trans (congrArg some (by kernel_rfl))
  f128 := Tryz.func123.trans (congrArg some (by kernel_rfl))
  f129 := Tryz.func124.trans (congrArg some (by kernel_rfl))
  f190 := Tryz.func110.trans (congrArg some (by kernel_rfl))
  f192 := Tryz.func94.trans (congrArg some (by kernel_rfl))
  f258 := Tryz.func144.trans (congrArg some (by kernel_rfl))
  f302 := Tryz.func165.trans (congrArg some (by kernel_rfl))
  f303 := Tryz.func166.trans (congrArg some (by kernel_rfl))
  f304 := Tryz.func167.trans (congrArg some (by kernel_rfl))
  f305 := Tryz.func168.trans (congrArg some (by kernel_rfl))
  f306 := Tryz.func169.trans (congrArg some (by kernel_rfl))
  f307 := Tryz.func170.trans (congrArg some (by kernel_rfl))
  f308 := Tryz.func171.trans (congrArg some (by kernel_rfl))
  f309 := Tryz.func172.trans (congrArg some (by kernel_rfl))
  f310 := Tryz.func173.trans (congrArg some (by kernel_rfl))
  f329 := Tryz.func187.trans (congrArg some (by kernel_rfl))
  f330 := Tryz.func188.trans (congrArg some (by kernel_rfl))
  f333 := Tryz.func186.trans (congrArg some (by kernel_rfl))
  f334 := Tryz.func189.trans (congrArg some (by kernel_rfl))
  f335 := Tryz.func190.trans (congrArg some (by kernel_rfl))
  f336 := Tryz.func191.trans (congrArg some (by kernel_rfl))
  f344 := Tryz.func197.trans (congrArg some (by kernel_rfl))
  t0 := Tryz.underlying0
  a0 := Tryz.isAgg0
  z0 := Tryz.sizeOf0
  v0 := Tryz.zeroValue0
  t3 := Tryz.underlying3
  a3 := Tryz.isAgg3
  z3 := Tryz.sizeOf3
  v3 := Tryz.zeroValue3
  t4 := Tryz.underlying4
  a4 := Tryz.isAgg4
  z4 := Tryz.sizeOf4
  v4 := Tryz.zeroValue4
  t5 := Tryz.underlying5
  a5 := Tryz.isAgg5
  z5 := Tryz.sizeOf5
  v5 := Tryz.zeroValue5
  t9 := Tryz.underlying9
  a9 := Tryz.isAgg9
  z9 := Tryz.sizeOf9
  v9 := Tryz.zeroValue9
  t31 := Tryz.underlying22
  a31 := Tryz.isAgg22
  z31 := Tryz.sizeOf22
  v31 := Tryz.zeroValue22
  t46 := Tryz.underlying138
  a46 := Tryz.isAgg138
  z46 := Tryz.sizeOf138
  v46 := Tryz.zeroValue138
  t51 := Tryz.underlying155
  a51 := Tryz.isAgg155
  z51 := Tryz.sizeOf155
  v51 := Tryz.zeroValue155
  t53 := Tryz.underlying157
  a53 := Tryz.isAgg157
  z53 := Tryz.sizeOf157
  v53 := Tryz.zeroValue157
  t131 := Tryz.underlying164
  a131 := Tryz.isAgg164
  z131 := Tryz.sizeOf164
  v131 := Tryz.zeroValue164
  t182 := Tryz.underlying202
  a182 := Tryz.isAgg202
  z182 := Tryz.sizeOf202
  v182 := Tryz.zeroValue202
  t183 := Tryz.underlying203
  a183 := Tryz.isAgg203
  z183 := Tryz.sizeOf203
  v183 := Tryz.zeroValue203
  t218 := Tryz.underlying231
  a218 := Tryz.isAgg231
  z218 := Tryz.sizeOf231
  v218 := Tryz.zeroValue231
  t222 := Tryz.underlying186
  a222 := Tryz.isAgg186
  z222 := Tryz.sizeOf186
  v222 := Tryz.zeroValue186
  t228 := Tryz.underlying243
  a228 := Tryz.isAgg243
  z228 := Tryz.sizeOf243
  v228 := Tryz.zeroValue243
  t229 := Tryz.underlying209
  a229 := Tryz.isAgg209
  z229 := Tryz.sizeOf209
  v229 := Tryz.zeroValue209 }
open Go.Sort Go.RowKit in
theorem Tryz.sort_Strings (blk off cap : Nat) (ss : List (List UInt8)) (w : World) (hH : Holds encStr w blk off ss.toArray) (hblk : blk < w.heap.size) (hsz : ss.length < 4611686018427387904) :
    Calls Tryz.prog 94 #[.slice (some ⟨blk, off, none⟩) ss.length cap] w fun e w' =>
      e = .returned (.tuple #[]) ∧ ∃ n os, w' = grow (putRow encStr (Sort.ahead w n) blk off (ss.mergeSort fun x y => decide (x ≤ y)).toArray) os := Any.sort_Strings Tryz.lays192 blk off cap ss w hH hblk hsz
def Tryz.laysGg26_ren : Go.Shelf.Ren := ⟨fun | 26 => 125 | n => n, fun | 44 => 141 | 3 => 3 | 0 => 0 | 4 => 4 | 26 => 113 | 37 => 134 | n => n, fun | n => n⟩
theorem Tryz.laysGg26 : Go.Proofs.LaysGg.n26 Tryz.prog Tryz.laysGg26_ren := {
  mixed := by kernel_rfl
  f26 := Tryz.func125.trans (congrArg some (by kernel_rfl))
  t0 := Tryz.underlying0
  a0 := Tryz.isAgg0
  z0 := Tryz.sizeOf0
  v0 := Tryz.zeroValue0
  i0 := by kernel_rfl
  t3 := Tryz.underlying3
  a3 := Tryz.isAgg3
  z3 := Tryz.sizeOf3
  v3 := Tryz.zeroValue3
  i3 := by kernel_rfl
  t4 := Tryz.underlying4
  a4 := Tryz.isAgg4
  z4 := Tryz.sizeOf4
  v4 := Tryz.zeroValue4
  i4 := by kernel_rfl
  t26 := Tryz.underlying113
  a26 := Tryz.isAgg113
  z26 := Tryz.sizeOf113
  v26 := Tryz.zeroValue113
  i26 := by kernel_rfl
  t37 := Tryz.underlying134
  a37 := Tryz.isAgg134
  z37 := Tryz.sizeOf134
  v37 := Tryz.zeroValue134
  i37 := by kernel_rfl
  t44 := Tryz.underlying141
  a44 := Tryz.isAgg141
  z44 := Tryz.sizeOf141
  v44 := Tryz.zeroValue141
  i44 := by kernel_rfl }
open Go.RowKit Go.Lib Go.Sort in
theorem Tryz.insertionSort_func_one {α : Type} [Inhabited α] (enc : α → Value) (lt : α → α → Bool) (g : Nat) (lb : Array Value) (sf : Nat) (sb : Array Value) (blk off a b : Nat) (d : Array α) (w : World) (eg : ∀ args w, (callFunc g args).run Tryz.prog w = .ok (.enter g args) w) (hless : LessReads Tryz.prog g lb enc lt blk off d.size w) (hswap : SwapSwaps Tryz.prog sf sb enc blk off d.size) (hH : Holds enc w blk off d) (hblk : blk < w.heap.size) (hab : a ≤ b) (hb : b ≤ d.size) (hsz : d.size < 4611686018427387904) :
    Calls Tryz.prog 125 #[.agg #[.func (.func g) #[] lb, .func (.func sf) #[] sb], .int .i64 a, .int .i64 b] w fun e w' =>
      e = .returned (.tuple #[]) ∧ ∃ n, w' = putRow enc (Sort.ahead (w.alloc (.cells #[.func (.func g) #[] lb, .func (.func sf) #[] sb] 141)) n) blk off (Sort.insertionSort lt d a b) := Any.insertionSort_func_one Tryz.laysGg26 enc lt g lb sf sb blk off a b d w eg hless hswap hH hblk hab hb hsz
def Tryz.laysGg14_ren : Go.Shelf.Ren := ⟨fun | 14 => 105 | 26 => 125 | 27 => 126 | 28 => 127 | 29 => 128 | 30 => 129 | 31 => 130 | 32 => 131 | 33 => 132 | 34 => 146 | 35 => 147 | 36 => 148 | 37 => 149 | 38 => 150 | 13 => 104 | 39 => 174 | 24 => 123 | 25 => 124 | n => n, fun | 44 => 141 | 3 => 3 | 0 => 0 | 4 => 4 | 54 => 160 | 53 => 159 | 26 => 113 | 58 => 164 | 37 => 134 | 60 => 182 | 41 => 138 | 51 => 157 | 64 => 186 | 66 => 208 | 67 => 209 | 49 => 155 | 5 => 5 | 9 => 9 | n => n, fun | n => n⟩
theorem Tryz.laysGg14 : Go.Proofs.LaysGg.n14 Tryz.prog Tryz.laysGg14_ren := {
  mixed := by kernel_rfl
  f13 := Tryz.func104.trans (congrArg some (by kernel_rfl))
  f14 := Tryz.func105.trans (congrArg some (by kernel_rfl))
  f24 := Tryz.func123.trans (congrArg some (by kernel_rfl))
  f25 := Tryz.func124.trans (congrArg some (by kernel_rfl))
  f26 := Tryz.func125.trans (congrArg some (by kernel_rfl))
  f27 := Tryz.func126.trans (congrArg some (by kernel_rfl))
  f28 := Tryz.func127.trans (congrArg some (by kernel_rfl))
  f29 := Tryz.func128.trans (congrArg some (by kernel_rfl))
  f30 := Tryz.func129.trans (congrArg some (by kernel_rfl))
  f31 := Tryz.func130.trans (congrArg some (by kernel_rfl))
  f32 := Tryz.func131.trans (congrArg some (by kernel_rfl))
  f33 := Tryz.func132.trans (congrArg some (by kernel_rfl))
  f34 := Tryz.func146.trans (congrArg some (by kernel_rfl))
  f35 := Tryz.func147.trans (congrArg some (by kernel_rfl))
  f36 := Tryz.func148.trans (congrArg some (by kernel_rfl))
  f37 := Tryz.func149.trans (congrArg some (by kernel_rfl))
  f38 := Tryz.func150.trans (congrArg some (by kernel_rfl))
  f39 := Tryz.func174.trans (congrArg some (by kernel_rfl))
  t0 := Tryz.underlying0
  a0 := Tryz.isAgg0
  z0 := Tryz.sizeOf0
  v0 := Tryz.zeroValue0
  i0 := by kernel_rfl
  t3 := Tryz.underlying3
  a3 := Tryz.isAgg3
  z3 := Tryz.sizeOf3
  v3 := Tryz.zeroValue3
  i3 := by kernel_rfl
  t4 := Tryz.underlying4
  a4 := Tryz.isAgg4
  z4 := Tryz.sizeOf4
  v4 := Tryz.zeroValue4
  i4 := by kernel_rfl
  t5 := Tryz.underlying5
  a5 := Tryz.isAgg5
  z5 := Tryz.sizeOf5
  v5 := Tryz.zeroValue5
  i5 := by kernel_rfl
  t9 := Tryz.underlying9
  a9 := Tryz.isAgg9
  z9 := Tryz.sizeOf9
  v9 := Tryz.zeroValue9
  i9 := by kernel_rfl
  t26 := Tryz.underlying113
  a26 := Tryz.isAgg113
  z26 := Tryz.sizeOf113
  v26 := Tryz.zeroValue113
  i26 := by kernel_rfl
  t37 := Tryz.underlying134
  a37 := Tryz.isAgg134
  z37 := Tryz.sizeOf134
  v37 := Tryz.zeroValue134
  i37 := by kernel_rfl
  t41 := Tryz.underlying138
  a41 := Tryz.isAgg138
  z41 := Tryz.sizeOf138
  v41 := Tryz.zeroValue138
  i41 := by kernel_rfl
  t44 := Tryz.underlying141
  a44 := Tryz.isAgg141
  z44 := Tryz.sizeOf141
  v44 := Tryz.zeroValue141
  i44 := by kernel_rfl
  t49 := Tryz.underlying155
  a49 := Tryz.isAgg155
  z49 := Tryz.sizeOf155
  v49 := Tryz.zeroValue155
  i49 := by kernel_rfl
  t51 := Tryz.underlying157
  a51 := Tryz.isAgg157
  z51 := Tryz.sizeOf157
  v51 := Tryz.zeroValue157
  i51 := by kernel_rfl
  t53 := Tryz.underlying159
  a53 := Tryz.isAgg159
  z53 := Tryz.sizeOf159
  v53 := Tryz.zeroValue159
  i53 := by kernel_rfl
  t54 := Tryz.underlying160
  a54 := Tryz.isAgg160
  z54 := Tryz.sizeOf160
  v54 := Tryz.zeroValue160
  i54 := by kernel_rfl
  t58 := Tryz.underlying164
  a58 := Tryz.isAgg164
  z58 := Tryz.sizeOf164
  v58 := Tryz.zeroValue164
  i58 := by kernel_rfl
  t60 := Tryz.underlying182
  a60 := Tryz.isAgg182
  z60 := Tryz.sizeOf182
  v60 := Tryz.zeroValue182
  i60 := by kernel_rfl
  t64 := Tryz.underlying186
  a64 := Tryz.isAgg186
  z64 := Tryz.sizeOf186
  v64 := Tryz.zeroValue186
  i64 := by kernel_rfl
  t66 := Tryz.underlying208
  a66 := Tryz.isAgg208
  z66 := Tryz.sizeOf208
  v66 := Tryz.zeroValue208
  i66 := by kernel_rfl
  t67 := Tryz.underlying209
  a67 := Tryz.isAgg209
  z67 := Tryz.sizeOf209
  v67 := Tryz.zeroValue209
  i67 := by kernel_rfl }
open Go.RowKit Go.Lib Go.Sort in
/-- sort.pdqsort_func AT A RANGE OF AT MOST 12. (LAID: no walk: one application.) -/
theorem Tryz.pdqsort_func_small {α : Type} [Inhabited α] (enc : α → Value) (lt : α → α → Bool) (g : Nat) (lb : Array Value) (sf : Nat) (sb : Array Value) (blk off a b : Nat) (lim : Int) (d : Array α) (w : World) (eg : ∀ args w, (callFunc g args).run Tryz.prog w = .ok (.enter g args) w) (hless : LessReads Tryz.prog g lb enc lt blk off d.size w) (hswap : SwapSwaps Tryz.prog sf sb enc blk off d.size) (hH : Holds enc w blk off d) (hblk : blk < w.heap.size) (hab : a ≤ b) (hb : b ≤ d.size) (hsz : d.size < 4611686018427387904) (h12 : b - a ≤ 12) :
    Calls Tryz.prog 105 #[.agg #[.func (.func g) #[] lb, .func (.func sf) #[] sb], .int .i64 a, .int .i64 b, .int .i64 lim] w fun e w' =>
      e = .returned (.tuple #[]) ∧ ∃ n, w' = putRow enc (Sort.ahead ((w.alloc (.cells #[.func (.func g) #[] lb, .func (.func sf) #[] sb] 141)).alloc (.cells #[.func (.func g) #[] lb, .func (.func sf) #[] sb] 141)) n) blk off (Sort.insertionSort lt d a b) := Any.pdqsort_func_small Tryz.laysGg14 enc lt g lb sf sb blk off a b lim d w eg hless hswap hH hblk hab hb hsz h12
def Tryz.laysGg6_ren : Go.Shelf.Ren := ⟨fun | 6 => 85 | 10 => 101 | 11 => 102 | 12 => 103 | 13 => 104 | 14 => 105 | 24 => 123 | 25 => 124 | 26 => 125 | 27 => 126 | 28 => 127 | 29 => 128 | 30 => 129 | 31 => 130 | 32 => 131 | 33 => 132 | 34 => 146 | 35 => 147 | 36 => 148 | 37 => 149 | 38 => 150 | 39 => 174 | n => n, fun | 20 => 20 | 26 => 113 | 35 => 132 | 0 => 0 | 37 => 134 | 3 => 3 | 41 => 138 | 44 => 141 | 49 => 155 | 51 => 157 | 4 => 4 | 54 => 160 | 53 => 159 | 58 => 164 | 5 => 5 | 9 => 9 | 60 => 182 | 64 => 186 | 66 => 208 | 67 => 209 | 17 => 17 | 32 => 129 | 33 => 130 | 82 => 272 | 12 => 12 | 75 => 266 | 76 => 267 | 77 => 268 | 78 => 192 | 79 => 269 | 80 => 270 | n => n, fun | n => n⟩
theorem Tryz.laysGg6 : Go.Proofs.LaysGg.n6 Tryz.prog Tryz.laysGg6_ren := {
  mixed := by kernel_rfl
  f6 := Tryz.func85.trans (congrArg some (by kernel_rfl))
  f10 := Tryz.func101.trans (congrArg some (by kernel_rfl))
  f11 := Tryz.func102.trans (congrArg some (by kernel_rfl))
  f12 := Tryz.func103.trans (congrArg some (by kernel_rfl))
  f13 := Tryz.func104.trans (congrArg some (by kernel_rfl))
  f14 := Tryz.func105.trans (congrArg some (by kernel_rfl))
  f24 := Tryz.func123.trans (congrArg some (by kernel_rfl))
  f25 := Tryz.func124.trans (congrArg some (by kernel_rfl))
  f26 := Tryz.func125.trans (congrArg some (by kernel_rfl))
  f27 := Tryz.func126.trans (congrArg some (by kernel_rfl))
  f28 := Tryz.func127.trans (congrArg some (by kernel_rfl))
  f29 := Tryz.func128.trans (congrArg some (by kernel_rfl))
  f30 := Tryz.func129.trans (congrArg some (by kernel_rfl))
  f31 := Tryz.func130.trans (congrArg some (by kernel_rfl))
  f32 := Tryz.func131.trans (congrArg some (by kernel_rfl))
  f33 := Tryz.func132.trans (congrArg some (by kernel_rfl))
  f34 := Tryz.func146.trans (congrArg some (by kernel_rfl))
  f35 := Tryz.func147.trans (congrArg some (by kernel_rfl))
  f36 := Tryz.func148.trans (congrArg some (by kernel_rfl))
  f37 := Tryz.func149.trans (congrArg some (by kernel_rfl))
  f38 := Tryz.func150.trans (congrArg some (by kernel_rfl))
  f39 := Tryz.func174.trans (congrArg some (by kernel_rfl))
  t0 := Tryz.underlying0
  a0 := Tryz.isAgg0
  z0 := Tryz.sizeOf0
  v0 := Tryz.zeroValue0
  i0 := by kernel_rfl
  t3 := Tryz.underlying3
  a3 := Tryz.isAgg3
  z3 := Tryz.sizeOf3
  v3 := Tryz.zeroValue3
  i3 := by kernel_rfl
  t4 := Tryz.underlying4
  a4 := Tryz.isAgg4
  z4 := Tryz.sizeOf4
  v4 := Tryz.zeroValue4
  i4 := by kernel_rfl
  t5 := Tryz.underlying5
  a5 := Tryz.isAgg5
  z5 := Tryz.sizeOf5
  v5 := Tryz.zeroValue5
  i5 := by kernel_rfl
  t9 := Tryz.underlying9
  a9 := Tryz.isAgg9
  z9 := Tryz.sizeOf9
  v9 := Tryz.zeroValue9
  i9 := by kernel_rfl
  t12 := Tryz.underlying12
  a12 := Tryz.isAgg12
  z12 := Tryz.sizeOf12
  v12 := Tryz.zeroValue12
  i12 := by kernel_rfl
  t17 := Tryz.underlying17
  a17 := Tryz.isAgg17
  z17 := Tryz.sizeOf17
  v17 := Tryz.zeroValue17
  i17 := by kernel_rfl
  t20 := Tryz.underlying20
  a20 := Tryz.isAgg20
  z20 := Tryz.sizeOf20
  v20 := Tryz.zeroValue20
  i20 := by kernel_rfl
  t26 := Tryz.underlying113
  a26 := Tryz.isAgg113
  z26 := Tryz.sizeOf113
  v26 := Tryz.zeroValue113
  i26 := by kernel_rfl
  t32 := Tryz.underlying129
  a32 := Tryz.isAgg129
  z32 := Tryz.sizeOf129
  v32 := Tryz.zeroValue129
  i32 := by kernel_rfl
  t33 := Tryz.underlying130
  a33 := Tryz.isAgg130
  z33 := Tryz.sizeOf130
  v33 := Tryz.zeroValue130
  i33 := by kernel_rfl
  t35 := Tryz.underlying132
  a35 := Tryz.isAgg132
  z35 := Tryz.sizeOf132
  v35 := Tryz.zeroValue132
  i35 := by kernel_rfl
  t37 := Tryz.underlying134
  a37 := Tryz.isAgg134
  z37 := Tryz.sizeOf134
  v37 := Tryz.zeroValue134
  i37 := by kernel_rfl
  t41 := Tryz.underlying138
  a41 := Tryz.isAgg138
  z41 := Tryz.sizeOf138
  v41 := Tryz.zeroValue138
  i41 := by kernel_rfl
  t44 := Tryz.underlying141
  a44 := Tryz.isAgg141
  z44 := Tryz.sizeOf141
  v44 := Tryz.zeroValue141
  i44 := by kernel_rfl
  t49 := Tryz.underlying155
  a49 := Tryz.isAgg155
  z49 := Tryz.sizeOf155
  v49 := Tryz.zeroValue155
  i49 := by kernel_rfl
  t51 := Tryz.underlying157
  a51 := Tryz.isAgg157
  z51 := Tryz.sizeOf157
  v51 := Tryz.zeroValue157
  i51 := by kernel_rfl
  t53 := Tryz.underlying159
  a53 := Tryz.isAgg159
  z53 := Tryz.sizeOf159
  v53 := Tryz.zeroValue159
  i53 := by kernel_rfl
  t54 := Tryz.underlying160
  a54 := Tryz.isAgg160
  z54 := Tryz.sizeOf160
  v54 := Tryz.zeroValue160
  i54 := by kernel_rfl
  t58 := Tryz.underlying164
  a58 := Tryz.isAgg164
  z58 := Tryz.sizeOf164
  v58 := Tryz.zeroValue164
  i58 := by kernel_rfl
  t60 := Tryz.underlying182
  a60 := Tryz.isAgg182
  z60 := Tryz.sizeOf182
  v60 := Tryz.zeroValue182
  i60 := by kernel_rfl
  t64 := Tryz.underlying186
  a64 := Tryz.isAgg186
  z64 := Tryz.sizeOf186
  v64 := Tryz.zeroValue186
  i64 := by kernel_rfl
  t66 := Tryz.underlying208
  a66 := Tryz.isAgg208
  z66 := Tryz.sizeOf208
  v66 := Tryz.zeroValue208
  i66 := by kernel_rfl
  t67 := Tryz.underlying209
  a67 := Tryz.isAgg209
  z67 := Tryz.sizeOf209
  v67 := Tryz.zeroValue209
  i67 := by kernel_rfl
  t75 := Tryz.underlying266
  a75 := Tryz.isAgg266
  z75 := Tryz.sizeOf266
  v75 := Tryz.zeroValue266
  i75 := by kernel_rfl
  t76 := Tryz.underlying267
  a76 := Tryz.isAgg267
  z76 := Tryz.sizeOf267
  v76 := Tryz.zeroValue267
  i76 := by kernel_rfl
  t77 := Tryz.underlying268
  a77 := Tryz.isAgg268
  z77 := Tryz.sizeOf268
  v77 := Tryz.zeroValue268
  i77 := by kernel_rfl
  t78 := Tryz.underlying192
  a78 := Tryz.isAgg192
  z78 := Tryz.sizeOf192
  v78 := Tryz.zeroValue192
  i78 := by kernel_rfl
  t79 := Tryz.underlying269
  a79 := Tryz.isAgg269
  z79 := Tryz.sizeOf269
  v79 := Tryz.zeroValue269
  i79 := by kernel_rfl
  t80 := Tryz.underlying270
  a80 := Tryz.isAgg270
  z80 := Tryz.sizeOf270
  v80 := Tryz.zeroValue270
  i80 := by kernel_rfl
  t82 := Tryz.underlying272
  a82 := Tryz.isAgg272
  z82 := Tryz.sizeOf272
  v82 := Tryz.zeroValue272
  i82 := by kernel_rfl }
open Go.RowKit Go.Lib Go.Sort in
theorem Tryz.insertionSort_func_cells {α : Type} [Inhabited α] (enc : α → List Value) (k : Nat) (hk : ∀ x, (enc x).length = k) (lt : α → α → Bool) (g : Nat) (lb : Array Value) (sf : Nat) (sb : Array Value) (blk off a b : Nat) (d : Array α) (w : World) (eg : ∀ args w, (callFunc g args).run Tryz.prog w = .ok (.enter g args) w) (hless : LessReadsK Tryz.prog g lb enc k lt blk off d.size w) (hswap : SwapSwapsK Tryz.prog sf sb enc k blk off d.size) (hH : HoldsK enc k w blk off d) (hblk : blk < w.heap.size) (hab : a ≤ b) (hb : b ≤ d.size) (hsz : d.size < 4611686018427387904) :
    Calls Tryz.prog 125 #[.agg #[.func (.func g) #[] lb, .func (.func sf) #[] sb], .int .i64 a, .int .i64 b] w fun e w' =>
      e = .returned (.tuple #[]) ∧ ∃ n, w' = putRowK enc k (Sort.ahead (w.alloc (.cells #[.func (.func g) #[] lb, .func (.func sf) #[] sb] 141)) n) blk off (Sort.insertionSort lt d a b) := Any.insertionSort_func_cells Tryz.laysGg26 enc k hk lt g lb sf sb blk off a b d w eg hless hswap hH hblk hab hb hsz
open Go.RowKit Go.Lib Go.Sort in
/-- sort.pdqsort_func AT A RANGE OF AT MOST 12. (LAID: no walk: one application.) -/
theorem Tryz.pdqsort_func_small_cells {α : Type} [Inhabited α] (enc : α → List Value) (k : Nat) (hk : ∀ x, (enc x).length = k) (lt : α → α → Bool) (g : Nat) (lb : Array Value) (sf : Nat) (sb : Array Value) (blk off a b : Nat) (lim : Int) (d : Array α) (w : World) (eg : ∀ args w, (callFunc g args).run Tryz.prog w = .ok (.enter g args) w) (hless : LessReadsK Tryz.prog g lb enc k lt blk off d.size w) (hswap : SwapSwapsK Tryz.prog sf sb enc k blk off d.size) (hH : HoldsK enc k w blk off d) (hblk : blk < w.heap.size) (hab : a ≤ b) (hb : b ≤ d.size) (hsz : d.size < 4611686018427387904) (h12 : b - a ≤ 12) :
    Calls Tryz.prog 105 #[.agg #[.func (.func g) #[] lb, .func (.func sf) #[] sb], .int .i64 a, .int .i64 b, .int .i64 lim] w fun e w' =>
      e = .returned (.tuple #[]) ∧ ∃ n, w' = putRowK enc k (Sort.ahead ((w.alloc (.cells #[.func (.func g) #[] lb, .func (.func sf) #[] sb] 141)).alloc (.cells #[.func (.func g) #[] lb, .func (.func sf) #[] sb] 141)) n) blk off (Sort.insertionSort lt d a b) := Any.pdqsort_func_small_cells Tryz.laysGg14 enc k hk lt g lb sf sb blk off a b lim d w eg hless hswap hH hblk hab hb hsz h12
open Go.RowKit Go.Lib Go.Sort in
theorem Tryz.insertionSort_func_none (lf : Fn) (la lb : Array Value) (f : Nat) (sb : Array Value) (a b : Nat) (h : b ≤ a + 1) (ha : a < 4611686018427387904) (w : World) :
    Calls Tryz.prog 125 #[.agg #[.func lf la lb, .func (.func f) #[] sb], .int .i64 a, .int .i64 b] w fun e w' => e = .returned (.tuple #[]) ∧ w' = w.alloc (.cells #[.func lf la lb, .func (.func f) #[] sb] 141) := Any.insertionSort_func_none Tryz.laysGg26 lf la lb f sb a b h ha w
open Go.RowKit Go.Lib Go.Sort in
theorem Tryz.pdqsort_func_tiny (lf : Fn) (la lb : Array Value) (f : Nat) (sb : Array Value) (n : Nat) (h : n ≤ 1) (lim : Int) (w : World) :
    Calls Tryz.prog 105 #[.agg #[.func lf la lb, .func (.func f) #[] sb], .int .i64 0, .int .i64 n, .int .i64 lim] w fun e w' => e = .returned (.tuple #[]) ∧ w' = (w.alloc (.cells #[.func lf la lb, .func (.func f) #[] sb] 141)).alloc (.cells #[.func lf la lb, .func (.func f) #[] sb] 141) := Any.pdqsort_func_tiny Tryz.laysGg14 lf la lb f sb n h lim w
open Go.RowKit Go.Lib Go.Sort in
/-- sort.insertionSort_func, from a world to a 'sortWorld' of it. (LAID: no walk: one application.) -/
theorem Tryz.insertionSort_func_w {α : Type} [Inhabited α] (enc : α → Value) (lt : α → α → Bool) (g : Nat) (lb : Array Value) (sf : Nat) (sb : Array Value) (blk off a b : Nat) (d : Array α) (w : World) (eg : ∀ args w, (callFunc g args).run Tryz.prog w = .ok (.enter g args) w) (hless : LessReads Tryz.prog g lb enc lt blk off d.size w) (hswap : SwapSwaps Tryz.prog sf sb enc blk off d.size) (hH : Holds enc w blk off d) (hblk : blk < w.heap.size) (hab : a ≤ b) (hb : b ≤ d.size) (hsz : d.size < 4611686018427387904) :
    Calls Tryz.prog 125 #[.agg #[.func (.func g) #[] lb, .func (.func sf) #[] sb], .int .i64 a, .int .i64 b] w fun e w' => e = .returned (.tuple #[]) ∧ ∃ n os, w' = sortWorld enc w blk off n (Sort.insertionSort lt d a b) os := Any.insertionSort_func_w Tryz.laysGg26 enc lt g lb sf sb blk off a b d w eg hless hswap hH hblk hab hb hsz
def Tryz.laysGg30_ren : Go.Shelf.Ren := ⟨fun | 30 => 129 | n => n, fun | 44 => 141 | 3 => 3 | 0 => 0 | 4 => 4 | 37 => 134 | 26 => 113 | n => n, fun | n => n⟩
theorem Tryz.laysGg30 : Go.Proofs.LaysGg.n30 Tryz.prog Tryz.laysGg30_ren := {
  mixed := by kernel_rfl
  f30 := Tryz.func129.trans (congrArg some (by kernel_rfl))
  t0 := Tryz.underlying0
  a0 := Tryz.isAgg0
  z0 := Tryz.sizeOf0
  v0 := Tryz.zeroValue0
  i0 := by kernel_rfl
  t3 := Tryz.underlying3
  a3 := Tryz.isAgg3
  z3 := Tryz.sizeOf3
  v3 := Tryz.zeroValue3
  i3 := by kernel_rfl
  t4 := Tryz.underlying4
  a4 := Tryz.isAgg4
  z4 := Tryz.sizeOf4
  v4 := Tryz.zeroValue4
  i4 := by kernel_rfl
  t26 := Tryz.underlying113
  a26 := Tryz.isAgg113
  z26 := Tryz.sizeOf113
  v26 := Tryz.zeroValue113
  i26 := by kernel_rfl
  t37 := Tryz.underlying134
  a37 := Tryz.isAgg134
  z37 := Tryz.sizeOf134
  v37 := Tryz.zeroValue134
  i37 := by kernel_rfl
  t44 := Tryz.underlying141
  a44 := Tryz.isAgg141
  z44 := Tryz.sizeOf141
  v44 := Tryz.zeroValue141
  i44 := by kernel_rfl }
open Go.RowKit Go.Lib Go.Sort in
theorem Tryz.reverseRange_func_one {α : Type} [Inhabited α] (enc : α → Value) (lf : Fn) (la lb : Array Value) (sf : Nat) (sb : Array Value) (blk off a b : Nat) (d : Array α) (w : World) (hswap : SwapSwaps Tryz.prog sf sb enc blk off d.size) (hH : Holds enc w blk off d) (hblk : blk < w.heap.size) (hab : a ≤ b) (hb : b ≤ d.size) (hsz : d.size < 4611686018427387904) :
    Calls Tryz.prog 129 #[.agg #[.func lf la lb, .func (.func sf) #[] sb], .int .i64 a, .int .i64 b] w fun e w' => e = .returned (.tuple #[]) ∧ ∃ n, w' = putRow enc (Sort.ahead (w.alloc (.cells #[.func lf la lb, .func (.func sf) #[] sb] 141)) n) blk off (reverseRange d a b) := Any.reverseRange_func_one Tryz.laysGg30 enc lf la lb sf sb blk off a b d w hswap hH hblk hab hb hsz
open Go.RowKit Go.Lib Go.Sort in
/-- sort.reverseRange_func, from a world to a 'sortWorld' of it. (LAID: no walk: one application.) -/
theorem Tryz.reverseRange_func_w {α : Type} [Inhabited α] (enc : α → Value) (lf : Fn) (la lb : Array Value) (sf : Nat) (sb : Array Value) (blk off a b : Nat) (d : Array α) (w : World) (hswap : SwapSwaps Tryz.prog sf sb enc blk off d.size) (hH : Holds enc w blk off d) (hblk : blk < w.heap.size) (hab : a ≤ b) (hb : b ≤ d.size) (hsz : d.size < 4611686018427387904) :
    Calls Tryz.prog 129 #[.agg #[.func lf la lb, .func (.func sf) #[] sb], .int .i64 a, .int .i64 b] w fun e w' => e = .returned (.tuple #[]) ∧ ∃ n os, w' = sortWorld enc w blk off n (reverseRange d a b) os := Any.reverseRange_func_w Tryz.laysGg30 enc lf la lb sf sb blk off a b d w hswap hH hblk hab hb hsz
def Tryz.laysGg39_ren : Go.Shelf.Ren := ⟨fun | 39 => 174 | n => n, fun | 44 => 141 | 3 => 3 | 64 => 186 | 0 => 0 | 26 => 113 | 4 => 4 | 37 => 134 | n => n, fun | n => n⟩
theorem Tryz.laysGg39 : Go.Proofs.LaysGg.n39 Tryz.prog Tryz.laysGg39_ren := {
  mixed := by kernel_rfl
  f39 := Tryz.func174.trans (congrArg some (by kernel_rfl))
  t0 := Tryz.underlying0
  a0 := Tryz.isAgg0
  z0 := Tryz.sizeOf0
  v0 := Tryz.zeroValue0
  i0 := by kernel_rfl
  t3 := Tryz.underlying3
  a3 := Tryz.isAgg3
  z3 := Tryz.sizeOf3
  v3 := Tryz.zeroValue3
  i3 := by kernel_rfl
  t4 := Tryz.underlying4
  a4 := Tryz.isAgg4
  z4 := Tryz.sizeOf4
  v4 := Tryz.zeroValue4
  i4 := by kernel_rfl
  t26 := Tryz.underlying113
  a26 := Tryz.isAgg113
  z26 := Tryz.sizeOf113
  v26 := Tryz.zeroValue113
  i26 := by kernel_rfl
  t37 := Tryz.underlying134
  a37 := Tryz.isAgg134
  z37 := Tryz.sizeOf134
  v37 := Tryz.zeroValue134
  i37 := by kernel_rfl
  t44 := Tryz.underlying141
  a44 := Tryz.isAgg141
  z44 := Tryz.sizeOf141
  v44 := Tryz.zeroValue141
  i44 := by kernel_rfl
  t64 := Tryz.underlying186
  a64 := Tryz.isAgg186
  z64 := Tryz.sizeOf186
  v64 := Tryz.zeroValue186
  i64 := by kernel_rfl }
open Go.RowKit Go.Lib Go.Sort in
theorem Tryz.order2_func {α : Type} [Inhabited α] (enc : α → Value) (lt : α → α → Bool) (g : Nat) (lb : Array Value) (sfn : Fn) (sa sb : Array Value) (blk off : Nat) (w0 W : World) (d : Array α) (a b cb co s : Nat) (eg : ∀ args w, (callFunc g args).run Tryz.prog w = .ok (.enter g args) w) (hL : LessReads Tryz.prog g lb enc lt blk off d.size w0) (hW : SW enc w0 blk off d W) (ha : a < d.size) (hb : b < d.size) (hS : Holds (Value.int .i64) W cb co (one s)) (hcb : cb < W.heap.size) (hs : s < 4611686018427387904) :
    Calls Tryz.prog 174 #[.agg #[.func (.func g) #[] lb, .func sfn sa sb], .int .i64 a, .int .i64 b, .pointer (some ⟨cb, co, none⟩)] W fun e w' =>
      e = .returned (.tuple #[.int .i64 (order2 lt d a b s).1, .int .i64 (order2 lt d a b s).2.1]) ∧ ∃ n os, w' = sortWorld (Value.int .i64) W cb co n (one (order2 lt d a b s).2.2) os := Any.order2_func Tryz.laysGg39 enc lt g lb sfn sa sb blk off w0 W d a b cb co s eg hL hW ha hb hS hcb hs
def Tryz.laysGg38_ren : Go.Shelf.Ren := ⟨fun | 38 => 150 | 39 => 174 | n => n, fun | 44 => 141 | 3 => 3 | 64 => 186 | 0 => 0 | 67 => 209 | 26 => 113 | 4 => 4 | 37 => 134 | n => n, fun | n => n⟩
theorem Tryz.laysGg38 : Go.Proofs.LaysGg.n38 Tryz.prog Tryz.laysGg38_ren := {
  mixed := by kernel_rfl
  f38 := Tryz.func150.trans (congrArg some (by kernel_rfl))
  f39 := Tryz.func174.trans (congrArg some (by kernel_rfl))
  t0 := Tryz.underlying0
  a0 := Tryz.isAgg0
  z0 := Tryz.sizeOf0
  v0 := Tryz.zeroValue0
  i0 := by kernel_rfl
  t3 := Tryz.underlying3
  a3 := Tryz.isAgg3
  z3 := Tryz.sizeOf3
  v3 := Tryz.zeroValue3
  i3 := by kernel_rfl
  t4 := Tryz.underlying4
  a4 := Tryz.isAgg4
  z4 := Tryz.sizeOf4
  v4 := Tryz.zeroValue4
  i4 := by kernel_rfl
  t26 := Tryz.underlying113
  a26 := Tryz.isAgg113
  z26 := Tryz.sizeOf113
  v26 := Tryz.zeroValue113
  i26 := by kernel_rfl
  t37 := Tryz.underlying134
  a37 := Tryz.isAgg134
  z37 := Tryz.sizeOf134
  v37 := Tryz.zeroValue134
  i37 := by kernel_rfl
  t44 := Tryz.underlying141
  a44 := Tryz.isAgg141
  z44 := Tryz.sizeOf141
  v44 := Tryz.zeroValue141
  i44 := by kernel_rfl
  t64 := Tryz.underlying186
  a64 := Tryz.isAgg186
  z64 := Tryz.sizeOf186
  v64 := Tryz.zeroValue186
  i64 := by kernel_rfl
  t67 := Tryz.underlying209
  a67 := Tryz.isAgg209
  z67 := Tryz.sizeOf209
  v67 := Tryz.zeroValue209
  i67 := by kernel_rfl }
open Go.RowKit Go.Lib Go.Sort in
theorem Tryz.median_func {α : Type} [Inhabited α] (enc : α → Value) (lt : α → α → Bool) (g : Nat) (lb : Array Value) (sfn : Fn) (sa sb : Array Value) (blk off : Nat) (w0 W : World) (d : Array α) (a b c cb co s : Nat) (eg : ∀ args w, (callFunc g args).run Tryz.prog w = .ok (.enter g args) w) (hL : LessReads Tryz.prog g lb enc lt blk off d.size w0) (hW : SW enc w0 blk off d W) (ha : a < d.size) (hb : b < d.size) (hc : c < d.size) (hS : Holds (Value.int .i64) W cb co (one s)) (hcb0 : w0.heap.size ≤ cb) (hcb : cb < W.heap.size) (hs : s + 3 < 4611686018427387904) :
    Calls Tryz.prog 150 #[.agg #[.func (.func g) #[] lb, .func sfn sa sb], .int .i64 a, .int .i64 b, .int .i64 c, .pointer (some ⟨cb, co, none⟩)] W fun e w' =>
      e = .returned (.int .i64 (median lt d a b c s).1) ∧ ∃ n os, w' = sortWorld (Value.int .i64) W cb co n (one (median lt d a b c s).2) os := Any.median_func Tryz.laysGg38 enc lt g lb sfn sa sb blk off w0 W d a b c cb co s eg hL hW ha hb hc hS hcb0 hcb hs
def Tryz.laysGg37_ren : Go.Shelf.Ren := ⟨fun | 37 => 149 | 38 => 150 | 39 => 174 | n => n, fun | 44 => 141 | 3 => 3 | 64 => 186 | 0 => 0 | 67 => 209 | 26 => 113 | 4 => 4 | 37 => 134 | n => n, fun | n => n⟩
theorem Tryz.laysGg37 : Go.Proofs.LaysGg.n37 Tryz.prog Tryz.laysGg37_ren := {
  mixed := by kernel_rfl
  f37 := Tryz.func149.trans (congrArg some (by kernel_rfl))
  f38 := Tryz.func150.trans (congrArg some (by kernel_rfl))
  f39 := Tryz.func174.trans (congrArg some (by kernel_rfl))
  t0 := Tryz.underlying0
  a0 := Tryz.isAgg0
  z0 := Tryz.sizeOf0
  v0 := Tryz.zeroValue0
  i0 := by kernel_rfl
  t3 := Tryz.underlying3
  a3 := Tryz.isAgg3
  z3 := Tryz.sizeOf3
  v3 := Tryz.zeroValue3
  i3 := by kernel_rfl
  t4 := Tryz.underlying4
  a4 := Tryz.isAgg4
  z4 := Tryz.sizeOf4
  v4 := Tryz.zeroValue4
  i4 := by kernel_rfl
  t26 := Tryz.underlying113
  a26 := Tryz.isAgg113
  z26 := Tryz.sizeOf113
  v26 := Tryz.zeroValue113
  i26 := by kernel_rfl
  t37 := Tryz.underlying134
  a37 := Tryz.isAgg134
  z37 := Tryz.sizeOf134
  v37 := Tryz.zeroValue134
  i37 := by kernel_rfl
  t44 := Tryz.underlying141
  a44 := Tryz.isAgg141
  z44 := Tryz.sizeOf141
  v44 := Tryz.zeroValue141
  i44 := by kernel_rfl
  t64 := Tryz.underlying186
  a64 := Tryz.isAgg186
  z64 := Tryz.sizeOf186
  v64 := Tryz.zeroValue186
  i64 := by kernel_rfl
  t67 := Tryz.underlying209
  a67 := Tryz.isAgg209
  z67 := Tryz.sizeOf209
  v67 := Tryz.zeroValue209
  i67 := by kernel_rfl }
open Go.RowKit Go.Lib Go.Sort in
theorem Tryz.medianAdjacent_func {α : Type} [Inhabited α] (enc : α → Value) (lt : α → α → Bool) (g : Nat) (lb : Array Value) (sfn : Fn) (sa sb : Array Value) (blk off : Nat) (w0 W : World) (d : Array α) (a cb co s : Nat) (eg : ∀ args w, (callFunc g args).run Tryz.prog w = .ok (.enter g args) w) (hL : LessReads Tryz.prog g lb enc lt blk off d.size w0) (hW : SW enc w0 blk off d W) (ha1 : 1 ≤ a) (ha2 : a + 1 < d.size) (hsz : d.size < 4611686018427387904) (hS : Holds (Value.int .i64) W cb co (one s)) (hcb0 : w0.heap.size ≤ cb) (hcb : cb < W.heap.size) (hs : s + 3 < 4611686018427387904) :
    Calls Tryz.prog 149 #[.agg #[.func (.func g) #[] lb, .func sfn sa sb], .int .i64 a, .pointer (some ⟨cb, co, none⟩)] W fun e w' =>
      e = .returned (.int .i64 (medianAdjacent lt d a s).1) ∧ ∃ n os, w' = sortWorld (Value.int .i64) W cb co n (one (medianAdjacent lt d a s).2) os := Any.medianAdjacent_func Tryz.laysGg37 enc lt g lb sfn sa sb blk off w0 W d a cb co s eg hL hW ha1 ha2 hsz hS hcb0 hcb hs
def Tryz.lays199_ren : Go.Shelf.Ren := ⟨fun | 199 => 142 | 261 => 163 | 311 => 183 | 312 => 184 | n => n, fun | 21 => 21 | 4 => 4 | 51 => 155 | 141 => 199 | 0 => 0 | 196 => 223 | 193 => 220 | 3 => 3 | 198 => 226 | 49 => 224 | 194 => 221 | 201 => 229 | 226 => 240 | 46 => 138 | 227 => 241 | n => n, fun | 6 => 1 | n => n⟩
theorem Tryz.lays199 : Go.Proofs.Lays.n199 Tryz.prog Tryz.lays199_ren := {
  mixed := by kernel_rfl
  f199 := Tryz.func142.trans (congrArg some (by kernel_rfl))
  f261 := Tryz.func163.trans (congrArg some (by kernel_rfl))
  f311 := Tryz.func183.trans (congrArg some (by kernel_rfl))
  f312 := Tryz.func184.trans (congrArg some (by kernel_rfl))
  t0 := Tryz.underlying0
  a0 := Tryz.isAgg0
  z0 := Tryz.sizeOf0
  v0 := Tryz.zeroValue0
  t3 := Tryz.underlying3
  a3 := Tryz.isAgg3
  z3 := Tryz.sizeOf3
  v3 := Tryz.zeroValue3
  t4 := Tryz.underlying4
  a4 := Tryz.isAgg4
  z4 := Tryz.sizeOf4
  v4 := Tryz.zeroValue4
  t21 := Tryz.underlying21
  a21 := Tryz.isAgg21
  z21 := Tryz.sizeOf21
  v21 := Tryz.zeroValue21
  t46 := Tryz.underlying138
  a46 := Tryz.isAgg138
  z46 := Tryz.sizeOf138
  v46 := Tryz.zeroValue138
  t49 := Tryz.underlying224
  a49 := Tryz.isAgg224
  z49 := Tryz.sizeOf224
  v49 := Tryz.zeroValue224
  t51 := Tryz.underlying155
  a51 := Tryz.isAgg155
  z51 := Tryz.sizeOf155
  v51 := Tryz.zeroValue155
  t141 := Tryz.underlying199
  a141 := Tryz.isAgg199
  z141 := Tryz.sizeOf199
  v141 := Tryz.zeroValue199
  t193 := Tryz.underlying220
  a193 := Tryz.isAgg220
  z193 := Tryz.sizeOf220
  v193 := Tryz.zeroValue220
  t194 := Tryz.underlying221
  a194 := Tryz.isAgg221
  z194 := Tryz.sizeOf221
  v194 := Tryz.zeroValue221
  t196 := Tryz.underlying223
  a196 := Tryz.isAgg223
  z196 := Tryz.sizeOf223
  v196 := Tryz.zeroValue223
  t198 := Tryz.underlying226
  a198 := Tryz.isAgg226
  z198 := Tryz.sizeOf226
  v198 := Tryz.zeroValue226
  t201 := Tryz.underlying229
  a201 := Tryz.isAgg229
  z201 := Tryz.sizeOf229
  v201 := Tryz.zeroValue229
  t226 := Tryz.underlying240
  a226 := Tryz.isAgg240
  z226 := Tryz.sizeOf240
  v226 := Tryz.zeroValue240
  t227 := Tryz.underlying241
  a227 := Tryz.isAgg241
  z227 := Tryz.sizeOf241
  v227 := Tryz.zeroValue241
  g6 := by kernel_rfl }
open Go.RowKit Go.Lib in
theorem Tryz.unicode_IsSpace (r : Int) (w : World) (h0 : 0 ≤ r) (h : r ≤ 255) :
    Calls Tryz.prog 142 #[.int .i32 r] w fun e w' => e = .returned (.bool (Lib.isSpaceL r)) ∧ w' = w := Any.unicode_IsSpace Tryz.lays199 r w h0 h
def Tryz.lays204_ren : Go.Shelf.Ren := ⟨fun | 204 => 140 | 262 => 161 | 313 => 181 | 274 => 194 | 275 => 195 | n => n, fun | 21 => 21 | 4 => 4 | 3 => 3 | 162 => 219 | 203 => 217 | 160 => 237 | 46 => 138 | 0 => 0 | 208 => 249 | 51 => 155 | 206 => 247 | n => n, fun | 13 => 4 | n => n⟩
theorem Tryz.lays204 : Go.Proofs.Lays.n204 Tryz.prog Tryz.lays204_ren := {
  mixed := by kernel_rfl
  f204 := Tryz.func140.trans (congrArg some (by kernel_rfl))
  f262 := Tryz.func161.trans (congrArg some (by kernel_rfl))
  f274 := Tryz.func194.trans (congrArg some (by kernel_rfl))
  f275 := Tryz.func195.trans (congrArg some (by kernel_rfl))
  f313 := Tryz.func181.trans (congrArg some (by kernel_rfl))
  t0 := Tryz.underlying0
  a0 := Tryz.isAgg0
  z0 := Tryz.sizeOf0
  v0 := Tryz.zeroValue0
  t3 := Tryz.underlying3
  a3 := Tryz.isAgg3
  z3 := Tryz.sizeOf3
  v3 := Tryz.zeroValue3
  t4 := Tryz.underlying4
  a4 := Tryz.isAgg4
  z4 := Tryz.sizeOf4
  v4 := Tryz.zeroValue4
  t21 := Tryz.underlying21
  a21 := Tryz.isAgg21
  z21 := Tryz.sizeOf21
  v21 := Tryz.zeroValue21
  t46 := Tryz.underlying138
  a46 := Tryz.isAgg138
  z46 := Tryz.sizeOf138
  v46 := Tryz.zeroValue138
  t51 := Tryz.underlying155
  a51 := Tryz.isAgg155
  z51 := Tryz.sizeOf155
  v51 := Tryz.zeroValue155
  t160 := Tryz.underlying237
  a160 := Tryz.isAgg237
  z160 := Tryz.sizeOf237
  v160 := Tryz.zeroValue237
  t162 := Tryz.underlying219
  a162 := Tryz.isAgg219
  z162 := Tryz.sizeOf219
  v162 := Tryz.zeroValue219
  t203 := Tryz.underlying217
  a203 := Tryz.isAgg217
  z203 := Tryz.sizeOf217
  v203 := Tryz.zeroValue217
  t206 := Tryz.underlying247
  a206 := Tryz.isAgg247
  z206 := Tryz.sizeOf247
  v206 := Tryz.zeroValue247
  t208 := Tryz.underlying249
  a208 := Tryz.isAgg249
  z208 := Tryz.sizeOf249
  v208 := Tryz.zeroValue249
  g13 := by kernel_rfl }
open Go.RowKit Go.Lib in
theorem Tryz.unicode_ToLower (r : Int) (w : World) (h : r ≤ 127) :
    Calls Tryz.prog 140 #[.int .i32 r] w fun e w' => e = .returned (.int .i32 (Lib.toLowerR r)) ∧ w' = w := Any.unicode_ToLower Tryz.lays204 r w h
def Tryz.lays197_ren : Go.Shelf.Ren := ⟨fun | 197 => 157 | 260 => 179 | n => n, fun | 9 => 9 | 21 => 21 | 3 => 3 | 4 => 4 | 5 => 5 | 105 => 193 | 119 => 180 | 0 => 0 | 46 => 138 | 139 => 236 | 138 => 235 | n => n, fun | 3 => 6 | 4 => 7 | n => n⟩
theorem Tryz.lays197 : Go.Proofs.Lays.n197 Tryz.prog Tryz.lays197_ren := {
  mixed := by kernel_rfl
  f197 := Tryz.func157.trans (congrArg some (by kernel_rfl))
  f260 := Tryz.func179.trans (congrArg some (by kernel_rfl))
  t0 := Tryz.underlying0
  a0 := Tryz.isAgg0
  z0 := Tryz.sizeOf0
  v0 := Tryz.zeroValue0
  t3 := Tryz.underlying3
  a3 := Tryz.isAgg3
  z3 := Tryz.sizeOf3
  v3 := Tryz.zeroValue3
  t4 := Tryz.underlying4
  a4 := Tryz.isAgg4
  z4 := Tryz.sizeOf4
  v4 := Tryz.zeroValue4
  t5 := Tryz.underlying5
  a5 := Tryz.isAgg5
  z5 := Tryz.sizeOf5
  v5 := Tryz.zeroValue5
  t9 := Tryz.underlying9
  a9 := Tryz.isAgg9
  z9 := Tryz.sizeOf9
  v9 := Tryz.zeroValue9
  t21 := Tryz.underlying21
  a21 := Tryz.isAgg21
  z21 := Tryz.sizeOf21
  v21 := Tryz.zeroValue21
  t46 := Tryz.underlying138
  a46 := Tryz.isAgg138
  z46 := Tryz.sizeOf138
  v46 := Tryz.zeroValue138
  t105 := Tryz.underlying193
  a105 := Tryz.isAgg193
  z105 := Tryz.sizeOf193
  v105 := Tryz.zeroValue193
  t119 := Tryz.underlying180
  a119 := Tryz.isAgg180
  z119 := Tryz.sizeOf180
  t138 := Tryz.underlying235
  a138 := Tryz.isAgg235
  z138 := Tryz.sizeOf235
  v138 := Tryz.zeroValue235
  t139 := Tryz.underlying236
  a139 := Tryz.isAgg236
  z139 := Tryz.sizeOf236
  v139 := Tryz.zeroValue236
  g3 := by kernel_rfl
  g4 := by kernel_rfl }
open Go.RowKit Go.Lib in
/-- unicode/utf8.DecodeRuneInString: "DecodeRuneInString is like DecodeRune but its input is a string.": ("DecodeRune unpacks the first UTF-8 encoding in p and returns the rune and its width in bytes."): WHERE s BEGINS WITH AN ASCII BYTE x: (x, 1). (LAID: no walk: one application.) -/
theorem Tryz.utf8_DecodeRuneInString_ascii (s : ByteArray) (x : UInt8) (w : World) (h0 : s.data.toList[0]? = some x) (hx : x.toNat < 128) :
    Calls Tryz.prog 157 #[.string s] w fun e w' => e = .returned (.tuple #[.int .i32 x.toNat, .int .i64 1]) ∧ w' = w := Any.utf8_DecodeRuneInString_ascii Tryz.lays197 s x w h0 hx
def Tryz.lays260_ren : Go.Shelf.Ren := ⟨fun | 260 => 179 | n => n, fun | 9 => 9 | 21 => 21 | 3 => 3 | 4 => 4 | 5 => 5 | 119 => 180 | 0 => 0 | 46 => 138 | 139 => 236 | 138 => 235 | n => n, fun | 3 => 6 | 4 => 7 | n => n⟩
theorem Tryz.lays260 : Go.Proofs.Lays.n260 Tryz.prog Tryz.lays260_ren := {
  mixed := by kernel_rfl
  f260 := Tryz.func179.trans (congrArg some (by kernel_rfl))
  t0 := Tryz.underlying0
  a0 := Tryz.isAgg0
  z0 := Tryz.sizeOf0
  v0 := Tryz.zeroValue0
  t3 := Tryz.underlying3
  a3 := Tryz.isAgg3
  z3 := Tryz.sizeOf3
  v3 := Tryz.zeroValue3
  t4 := Tryz.underlying4
  a4 := Tryz.isAgg4
  z4 := Tryz.sizeOf4
  v4 := Tryz.zeroValue4
  t5 := Tryz.underlying5
  a5 := Tryz.isAgg5
  z5 := Tryz.sizeOf5
  v5 := Tryz.zeroValue5
  t9 := Tryz.underlying9
  a9 := Tryz.isAgg9
  z9 := Tryz.sizeOf9
  v9 := Tryz.zeroValue9
  t21 := Tryz.underlying21
  a21 := Tryz.isAgg21
  z21 := Tryz.sizeOf21
  v21 := Tryz.zeroValue21
  t46 := Tryz.underlying138
  a46 := Tryz.isAgg138
  z46 := Tryz.sizeOf138
  v46 := Tryz.zeroValue138
  t119 := Tryz.underlying180
  a119 := Tryz.isAgg180
  z119 := Tryz.sizeOf180
  t138 := Tryz.underlying235
  a138 := Tryz.isAgg235
  z138 := Tryz.sizeOf235
  v138 := Tryz.zeroValue235
  t139 := Tryz.underlying236
  a139 := Tryz.isAgg236
  z139 := Tryz.sizeOf236
  v139 := Tryz.zeroValue236
  g3 := by kernel_rfl
  g4 := by kernel_rfl }
open Go.RowKit Go.Lib in
theorem Tryz.utf8_decodeRuneInStringSlow (s : ByteArray) (w : World) (hT : Lib.Utf8Tabs 6 7 w) :
    Calls Tryz.prog 179 #[.string s] w fun e w' => e = .returned (.tuple #[.int .i32 (Lib.decodeGo s).1, .int .i64 (Lib.decodeGo s).2]) ∧ Below w.heap.size w w' := Any.utf8_decodeRuneInStringSlow Tryz.lays260 s w hT
open Go.RowKit Go.Lib in
/-- **unicode/utf8.DecodeRuneInString AT EVERY STRING.** (LAID: no walk: one application.) -/
theorem Tryz.utf8_DecodeRuneInString (s : ByteArray) (w : World) (hT : Lib.Utf8Tabs 6 7 w) :
    Calls Tryz.prog 157 #[.string s] w fun e w' => e = .returned (.tuple #[.int .i32 (Lib.decodeGo s).1, .int .i64 (Lib.decodeGo s).2]) ∧ Below w.heap.size w w' := Any.utf8_DecodeRuneInString Tryz.lays197 s w hT
def Tryz.lays311_ren : Go.Shelf.Ren := ⟨fun | 311 => 183 | n => n, fun | 193 => 220 | 49 => 224 | 4 => 4 | 3 => 3 | 0 => 0 | 226 => 240 | 198 => 226 | 46 => 138 | n => n, fun | n => n⟩
theorem Tryz.lays311 : Go.Proofs.Lays.n311 Tryz.prog Tryz.lays311_ren := {
  mixed := by kernel_rfl
  f311 := Tryz.func183.trans (congrArg some (by kernel_rfl))
  t0 := Tryz.underlying0
  a0 := Tryz.isAgg0
  z0 := Tryz.sizeOf0
  v0 := Tryz.zeroValue0
  t3 := Tryz.underlying3
  a3 := Tryz.isAgg3
  z3 := Tryz.sizeOf3
  v3 := Tryz.zeroValue3
  t4 := Tryz.underlying4
  a4 := Tryz.isAgg4
  z4 := Tryz.sizeOf4
  v4 := Tryz.zeroValue4
  t46 := Tryz.underlying138
  a46 := Tryz.isAgg138
  z46 := Tryz.sizeOf138
  v46 := Tryz.zeroValue138
  t49 := Tryz.underlying224
  a49 := Tryz.isAgg224
  z49 := Tryz.sizeOf224
  v49 := Tryz.zeroValue224
  t193 := Tryz.underlying220
  a193 := Tryz.isAgg220
  z193 := Tryz.sizeOf220
  v193 := Tryz.zeroValue220
  t198 := Tryz.underlying226
  a198 := Tryz.isAgg226
  z198 := Tryz.sizeOf226
  v198 := Tryz.zeroValue226
  t226 := Tryz.underlying240
  a226 := Tryz.isAgg240
  z226 := Tryz.sizeOf240
  v226 := Tryz.zeroValue240 }
open Go.RowKit Go.Lib in
theorem Tryz.unicode_is16_white (R oR : Nat) (z : Nat) (w : World) (hz : z < 65536) (hz0 : 255 < z) (c6 : w.cell? ⟨R, oR + 6, none⟩ = some (.int .u16 160)) (c7 : w.cell? ⟨R, oR + 7, none⟩ = some (.int .u16 5760)) (c8 : w.cell? ⟨R, oR + 8, none⟩ = some (.int .u16 5600)) (c9 : w.cell? ⟨R, oR + 9, none⟩ = some (.int .u16 8192)) (c10 : w.cell? ⟨R, oR + 10, none⟩ = some (.int .u16 8202)) (c11 : w.cell? ⟨R, oR + 11, none⟩ = some (.int .u16 1)) (c12 : w.cell? ⟨R, oR + 12, none⟩ = some (.int .u16 8232)) (c13 : w.cell? ⟨R, oR + 13, none⟩ = some (.int .u16 8233)) (c14 : w.cell? ⟨R, oR + 14, none⟩ = some (.int .u16 1)) (c15 : w.cell? ⟨R, oR + 15, none⟩ = some (.int .u16 8239)) (c16 : w.cell? ⟨R, oR + 16, none⟩ = some (.int .u16 8287)) (c17 : w.cell? ⟨R, oR + 17, none⟩ = some (.int .u16 48)) (c18 : w.cell? ⟨R, oR + 18, none⟩ = some (.int .u16 12288)) (c19 : w.cell? ⟨R, oR + 19, none⟩ = some (.int .u16 12288)) (c20 : w.cell? ⟨R, oR + 20, none⟩ = some (.int .u16 1)) :
    Calls Tryz.prog 183 #[.slice (some ⟨R, oR + 6, none⟩) 5 5, .int .u16 z] w fun e w' => e = .returned (.bool (Lib.isSpaceR z)) ∧ Below w.heap.size w w' := Any.unicode_is16_white Tryz.lays311 R oR z w hz hz0 c6 c7 c8 c9 c10 c11 c12 c13 c14 c15 c16 c17 c18 c19 c20
def Tryz.lays261_ren : Go.Shelf.Ren := ⟨fun | 261 => 163 | 311 => 183 | 312 => 184 | n => n, fun | 141 => 199 | 21 => 21 | 4 => 4 | 0 => 0 | 196 => 223 | 193 => 220 | 3 => 3 | 51 => 155 | 198 => 226 | 49 => 224 | 194 => 221 | 201 => 229 | 226 => 240 | 46 => 138 | 227 => 241 | n => n, fun | n => n⟩
theorem Tryz.lays261 : Go.Proofs.Lays.n261 Tryz.prog Tryz.lays261_ren := {
  mixed := by kernel_rfl
  f261 := Tryz.func163.trans (congrArg some (by kernel_rfl))
  f311 := Tryz.func183.trans (congrArg some (by kernel_rfl))
  f312 := Tryz.func184.trans (congrArg some (by kernel_rfl))
  t0 := Tryz.underlying0
  a0 := Tryz.isAgg0
  z0 := Tryz.sizeOf0
  v0 := Tryz.zeroValue0
  t3 := Tryz.underlying3
  a3 := Tryz.isAgg3
  z3 := Tryz.sizeOf3
  v3 := Tryz.zeroValue3
  t4 := Tryz.underlying4
  a4 := Tryz.isAgg4
  z4 := Tryz.sizeOf4
  v4 := Tryz.zeroValue4
  t21 := Tryz.underlying21
  a21 := Tryz.isAgg21
  z21 := Tryz.sizeOf21
  v21 := Tryz.zeroValue21
  t46 := Tryz.underlying138
  a46 := Tryz.isAgg138
  z46 := Tryz.sizeOf138
  v46 := Tryz.zeroValue138
  t49 := Tryz.underlying224
  a49 := Tryz.isAgg224
  z49 := Tryz.sizeOf224
  v49 := Tryz.zeroValue224
  t51 := Tryz.underlying155
  a51 := Tryz.isAgg155
  z51 := Tryz.sizeOf155
  v51 := Tryz.zeroValue155
  t141 := Tryz.underlying199
  a141 := Tryz.isAgg199
  z141 := Tryz.sizeOf199
  v141 := Tryz.zeroValue199
  t193 := Tryz.underlying220
  a193 := Tryz.isAgg220
  z193 := Tryz.sizeOf220
  v193 := Tryz.zeroValue220
  t194 := Tryz.underlying221
  a194 := Tryz.isAgg221
  z194 := Tryz.sizeOf221
  v194 := Tryz.zeroValue221
  t196 := Tryz.underlying223
  a196 := Tryz.isAgg223
  z196 := Tryz.sizeOf223
  v196 := Tryz.zeroValue223
  t198 := Tryz.underlying226
  a198 := Tryz.isAgg226
  z198 := Tryz.sizeOf226
  v198 := Tryz.zeroValue226
  t201 := Tryz.underlying229
  a201 := Tryz.isAgg229
  z201 := Tryz.sizeOf229
  v201 := Tryz.zeroValue229
  t226 := Tryz.underlying240
  a226 := Tryz.isAgg240
  z226 := Tryz.sizeOf240
  v226 := Tryz.zeroValue240
  t227 := Tryz.underlying241
  a227 := Tryz.isAgg241
  z227 := Tryz.sizeOf241
  v227 := Tryz.zeroValue241 }
open Go.RowKit Go.Lib in
/-- unicode.isExcludingLatin(White_Space, r), r beyond U+00FF or negative. (LAID: no walk: one application.) -/
theorem Tryz.unicode_isExcludingLatin_white (T oT R oR : Nat) (r : Int) (w : World) (hlo : -2147483648 ≤ r) (hhi : r ≤ 2147483647) (hr : r < 0 ∨ 255 < r) (h2 : w.cell? ⟨T, oT, none⟩ = some (.slice (some ⟨R, oR, none⟩) 7 7)) (h3 : w.cell? ⟨T, oT + 1, none⟩ = some (.slice none 0 0)) (h4 : w.cell? ⟨T, oT + 2, none⟩ = some (.int .i64 2)) (h5 : ∀ i, i < 21 → w.cell? ⟨R, oR + i, none⟩ = some (.int .u16 (whiteT.getD i 0))) :
    Calls Tryz.prog 163 #[.pointer (some ⟨T, oT, none⟩), .int .i32 r] w fun e w' => e = .returned (.bool (Lib.isSpaceZ r)) ∧ Below w.heap.size w w' := Any.unicode_isExcludingLatin_white Tryz.lays261 T oT R oR r w hlo hhi hr h2 h3 h4 h5
open Go.RowKit Go.Lib in
/-- **unicode.IsSpace AT EVERY int32.** (LAID: no walk: one application.) -/
theorem Tryz.unicode_IsSpace_any (r : Int) (w : World) (hlo : -2147483648 ≤ r) (hhi : r ≤ 2147483647) (hW : Lib.WhiteTab 1 w) :
    Calls Tryz.prog 142 #[.int .i32 r] w fun e w' => e = .returned (.bool (Lib.isSpaceZ r)) ∧ Below w.heap.size w w' := Any.unicode_IsSpace_any Tryz.lays199 r w hlo hhi hW
def Tryz.lays271_ren : Go.Shelf.Ren := ⟨fun | 271 => 185 | 120 => 196 | 197 => 157 | 260 => 179 | n => n, fun | 9 => 9 | 21 => 21 | 3 => 3 | 4 => 4 | 5 => 5 | 105 => 193 | 119 => 180 | 0 => 0 | 46 => 138 | 139 => 236 | 138 => 235 | n => n, fun | 3 => 6 | 4 => 7 | n => n⟩
theorem Tryz.lays271 : Go.Proofs.Lays.n271 Tryz.prog Tryz.lays271_ren := {
  mixed := by kernel_rfl
  f120 := Tryz.func196.trans (congrArg some (by kernel_rfl))
  f197 := Tryz.func157.trans (congrArg some (by kernel_rfl))
  f260 := Tryz.func179.trans (congrArg some (by kernel_rfl))
  f271 := Tryz.func185.trans (congrArg some (by kernel_rfl))
  t0 := Tryz.underlying0
  a0 := Tryz.isAgg0
  z0 := Tryz.sizeOf0
  v0 := Tryz.zeroValue0
  t3 := Tryz.underlying3
  a3 := Tryz.isAgg3
  z3 := Tryz.sizeOf3
  v3 := Tryz.zeroValue3
  t4 := Tryz.underlying4
  a4 := Tryz.isAgg4
  z4 := Tryz.sizeOf4
  v4 := Tryz.zeroValue4
  t5 := Tryz.underlying5
  a5 := Tryz.isAgg5
  z5 := Tryz.sizeOf5
  v5 := Tryz.zeroValue5
  t9 := Tryz.underlying9
  a9 := Tryz.isAgg9
  z9 := Tryz.sizeOf9
  v9 := Tryz.zeroValue9
  t21 := Tryz.underlying21
  a21 := Tryz.isAgg21
  z21 := Tryz.sizeOf21
  v21 := Tryz.zeroValue21
  t46 := Tryz.underlying138
  a46 := Tryz.isAgg138
  z46 := Tryz.sizeOf138
  v46 := Tryz.zeroValue138
  t105 := Tryz.underlying193
  a105 := Tryz.isAgg193
  z105 := Tryz.sizeOf193
  v105 := Tryz.zeroValue193
  t119 := Tryz.underlying180
  a119 := Tryz.isAgg180
  z119 := Tryz.sizeOf180
  t138 := Tryz.underlying235
  a138 := Tryz.isAgg235
  z138 := Tryz.sizeOf235
  v138 := Tryz.zeroValue235
  t139 := Tryz.underlying236
  a139 := Tryz.isAgg236
  z139 := Tryz.sizeOf236
  v139 := Tryz.zeroValue236
  g3 := by kernel_rfl
  g4 := by kernel_rfl }
open Go.RowKit Go.Lib in
/-- **unicode/utf8.DecodeLastRuneInString AT EVERY STRING.** (LAID: no walk: one application.) -/
theorem Tryz.utf8_DecodeLastRuneInString (s : ByteArray) (w : World) (hs : s.size ≤ 9223372036854775807) (hT : Lib.Utf8Tabs 6 7 w) :
    Calls Tryz.prog 185 #[.string s] w fun e w' => e = .returned (.tuple #[.int .i32 (Lib.decodeLastL s.data.toList).1, .int .i64 (Lib.decodeLastL s.data.toList).2]) ∧ Below w.heap.size w w' := Any.utf8_DecodeLastRuneInString Tryz.lays271 s w hs hT
def Tryz.lays274_ren : Go.Shelf.Ren := ⟨fun | 274 => 194 | n => n, fun | 21 => 21 | 162 => 219 | 160 => 237 | 3 => 3 | 4 => 4 | 46 => 138 | 0 => 0 | 208 => 249 | 51 => 155 | 206 => 247 | n => n, fun | n => n⟩
theorem Tryz.lays274 : Go.Proofs.Lays.n274 Tryz.prog Tryz.lays274_ren := {
  mixed := by kernel_rfl
  f274 := Tryz.func194.trans (congrArg some (by kernel_rfl))
  t0 := Tryz.underlying0
  a0 := Tryz.isAgg0
  z0 := Tryz.sizeOf0
  v0 := Tryz.zeroValue0
  t3 := Tryz.underlying3
  a3 := Tryz.isAgg3
  z3 := Tryz.sizeOf3
  v3 := Tryz.zeroValue3
  t4 := Tryz.underlying4
  a4 := Tryz.isAgg4
  z4 := Tryz.sizeOf4
  v4 := Tryz.zeroValue4
  t21 := Tryz.underlying21
  a21 := Tryz.isAgg21
  z21 := Tryz.sizeOf21
  v21 := Tryz.zeroValue21
  t46 := Tryz.underlying138
  a46 := Tryz.isAgg138
  z46 := Tryz.sizeOf138
  v46 := Tryz.zeroValue138
  t51 := Tryz.underlying155
  a51 := Tryz.isAgg155
  z51 := Tryz.sizeOf155
  v51 := Tryz.zeroValue155
  t160 := Tryz.underlying237
  a160 := Tryz.isAgg237
  z160 := Tryz.sizeOf237
  v160 := Tryz.zeroValue237
  t162 := Tryz.underlying219
  a162 := Tryz.isAgg219
  z162 := Tryz.sizeOf219
  v162 := Tryz.zeroValue219
  t208 := Tryz.underlying249
  a208 := Tryz.isAgg249
  z208 := Tryz.sizeOf249
  v208 := Tryz.zeroValue249 }
open Go.RowKit Go.Lib in
theorem Tryz.unicode_lookupCaseRange (T : Array CaseRow) (R oR cap : Nat) (r : Int) (w : World) (hT : CaseTab R oR T w) (hok : CaseOk T) (hn : T.size ≤ 1000000000) :
    Calls Tryz.prog 194 #[.int .i32 r, .slice (some ⟨R, oR, none⟩) T.size cap] w fun e w' =>
      e = .returned (match lookupIdx T r (T.size + 1) 0 T.size with | some i => .pointer (some ⟨R, oR + i * 5, none⟩) | none => .pointer none) ∧ w' = w := Any.unicode_lookupCaseRange Tryz.lays274 T R oR cap r w hT hok hn
def Tryz.lays275_ren : Go.Shelf.Ren := ⟨fun | 275 => 195 | n => n, fun | 3 => 3 | 21 => 21 | 160 => 237 | 0 => 0 | 208 => 249 | 206 => 247 | 4 => 4 | 51 => 155 | n => n, fun | n => n⟩
theorem Tryz.lays275 : Go.Proofs.Lays.n275 Tryz.prog Tryz.lays275_ren := {
  mixed := by kernel_rfl
  f275 := Tryz.func195.trans (congrArg some (by kernel_rfl))
  t0 := Tryz.underlying0
  a0 := Tryz.isAgg0
  z0 := Tryz.sizeOf0
  v0 := Tryz.zeroValue0
  t3 := Tryz.underlying3
  a3 := Tryz.isAgg3
  z3 := Tryz.sizeOf3
  v3 := Tryz.zeroValue3
  t4 := Tryz.underlying4
  a4 := Tryz.isAgg4
  z4 := Tryz.sizeOf4
  v4 := Tryz.zeroValue4
  t21 := Tryz.underlying21
  a21 := Tryz.isAgg21
  z21 := Tryz.sizeOf21
  v21 := Tryz.zeroValue21
  t51 := Tryz.underlying155
  a51 := Tryz.isAgg155
  z51 := Tryz.sizeOf155
  v51 := Tryz.zeroValue155
  t160 := Tryz.underlying237
  a160 := Tryz.isAgg237
  z160 := Tryz.sizeOf237
  v160 := Tryz.zeroValue237
  t206 := Tryz.underlying247
  a206 := Tryz.isAgg247
  z206 := Tryz.sizeOf247
  v206 := Tryz.zeroValue247
  t208 := Tryz.underlying249
  a208 := Tryz.isAgg249
  z208 := Tryz.sizeOf249
  v208 := Tryz.zeroValue249 }
open Go.RowKit Go.Lib in
theorem Tryz.unicode_convertCase (c : Nat) (hc : c < 3) (r : Int) (A o : Nat) (x : CaseRow) (w : World) (hlo : (x.1 : Int) ≤ r) (hhi : r ≤ (x.2.1 : Int)) (hH : x.2.1 < 2147483647) (c0 : w.cell? ⟨A, o, none⟩ = some (.int .u32 x.1)) (cD : w.cell? ⟨A, o + 2 + c, none⟩ = some (.int .i32 (x.delta c))) :
    Calls Tryz.prog 195 #[.int .i64 c, .int .i32 r, .pointer (some ⟨A, o, none⟩)] w fun e w' => e = .returned (.int .i32 (wrap32 (convertR c r x))) ∧ ∃ q, w' = w.drewN q := Any.unicode_convertCase Tryz.lays275 c hc r A o x w hlo hhi hH c0 cD
def Tryz.lays313_ren : Go.Shelf.Ren := ⟨fun | 313 => 181 | 274 => 194 | 275 => 195 | n => n, fun | 3 => 3 | 21 => 21 | 162 => 219 | 4 => 4 | 160 => 237 | 46 => 138 | 0 => 0 | 208 => 249 | 51 => 155 | 206 => 247 | n => n, fun | n => n⟩
theorem Tryz.lays313 : Go.Proofs.Lays.n313 Tryz.prog Tryz.lays313_ren := {
  mixed := by kernel_rfl
  f274 := Tryz.func194.trans (congrArg some (by kernel_rfl))
  f275 := Tryz.func195.trans (congrArg some (by kernel_rfl))
  f313 := Tryz.func181.trans (congrArg some (by kernel_rfl))
  t0 := Tryz.underlying0
  a0 := Tryz.isAgg0
  z0 := Tryz.sizeOf0
  v0 := Tryz.zeroValue0
  t3 := Tryz.underlying3
  a3 := Tryz.isAgg3
  z3 := Tryz.sizeOf3
  v3 := Tryz.zeroValue3
  t4 := Tryz.underlying4
  a4 := Tryz.isAgg4
  z4 := Tryz.sizeOf4
  v4 := Tryz.zeroValue4
  t21 := Tryz.underlying21
  a21 := Tryz.isAgg21
  z21 := Tryz.sizeOf21
  v21 := Tryz.zeroValue21
  t46 := Tryz.underlying138
  a46 := Tryz.isAgg138
  z46 := Tryz.sizeOf138
  v46 := Tryz.zeroValue138
  t51 := Tryz.underlying155
  a51 := Tryz.isAgg155
  z51 := Tryz.sizeOf155
  v51 := Tryz.zeroValue155
  t160 := Tryz.underlying237
  a160 := Tryz.isAgg237
  z160 := Tryz.sizeOf237
  v160 := Tryz.zeroValue237
  t162 := Tryz.underlying219
  a162 := Tryz.isAgg219
  z162 := Tryz.sizeOf219
  v162 := Tryz.zeroValue219
  t206 := Tryz.underlying247
  a206 := Tryz.isAgg247
  z206 := Tryz.sizeOf247
  v206 := Tryz.zeroValue247
  t208 := Tryz.underlying249
  a208 := Tryz.isAgg249
  z208 := Tryz.sizeOf249
  v208 := Tryz.zeroValue249 }
open Go.RowKit Go.Lib in
theorem Tryz.unicode_to (c : Nat) (hc : c < 3) (r : Int) (T : Array CaseRow) (R oR cap : Nat) (w : World) (hT : CaseTab R oR T w) (hok : CaseOk2 T) (hn : T.size ≤ 1000000000) :
    Calls Tryz.prog 181 #[.int .i64 c, .int .i32 r, .slice (some ⟨R, oR, none⟩) T.size cap] w fun e w' => e = .returned (.tuple #[.int .i32 (toW T c r), .bool (lookupIdx T r (T.size + 1) 0 T.size).isSome]) ∧ ∃ q, w' = w.drewN q := Any.unicode_to Tryz.lays313 c hc r T R oR cap w hT hok hn
def Tryz.lays262_ren : Go.Shelf.Ren := ⟨fun | 262 => 161 | 313 => 181 | 274 => 194 | 275 => 195 | n => n, fun | 3 => 3 | 21 => 21 | 162 => 219 | 203 => 217 | 4 => 4 | 160 => 237 | 46 => 138 | 0 => 0 | 208 => 249 | 51 => 155 | 206 => 247 | n => n, fun | 13 => 4 | n => n⟩
theorem Tryz.lays262 : Go.Proofs.Lays.n262 Tryz.prog Tryz.lays262_ren := {
  mixed := by kernel_rfl
  f262 := Tryz.func161.trans (congrArg some (by kernel_rfl))
  f274 := Tryz.func194.trans (congrArg some (by kernel_rfl))
  f275 := Tryz.func195.trans (congrArg some (by kernel_rfl))
  f313 := Tryz.func181.trans (congrArg some (by kernel_rfl))
  t0 := Tryz.underlying0
  a0 := Tryz.isAgg0
  z0 := Tryz.sizeOf0
  v0 := Tryz.zeroValue0
  t3 := Tryz.underlying3
  a3 := Tryz.isAgg3
  z3 := Tryz.sizeOf3
  v3 := Tryz.zeroValue3
  t4 := Tryz.underlying4
  a4 := Tryz.isAgg4
  z4 := Tryz.sizeOf4
  v4 := Tryz.zeroValue4
  t21 := Tryz.underlying21
  a21 := Tryz.isAgg21
  z21 := Tryz.sizeOf21
  v21 := Tryz.zeroValue21
  t46 := Tryz.underlying138
  a46 := Tryz.isAgg138
  z46 := Tryz.sizeOf138
  v46 := Tryz.zeroValue138
  t51 := Tryz.underlying155
  a51 := Tryz.isAgg155
  z51 := Tryz.sizeOf155
  v51 := Tryz.zeroValue155
  t160 := Tryz.underlying237
  a160 := Tryz.isAgg237
  z160 := Tryz.sizeOf237
  v160 := Tryz.zeroValue237
  t162 := Tryz.underlying219
  a162 := Tryz.isAgg219
  z162 := Tryz.sizeOf219
  v162 := Tryz.zeroValue219
  t203 := Tryz.underlying217
  a203 := Tryz.isAgg217
  z203 := Tryz.sizeOf217
  v203 := Tryz.zeroValue217
  t206 := Tryz.underlying247
  a206 := Tryz.isAgg247
  z206 := Tryz.sizeOf247
  v206 := Tryz.zeroValue247
  t208 := Tryz.underlying249
  a208 := Tryz.isAgg249
  z208 := Tryz.sizeOf249
  v208 := Tryz.zeroValue249
  g13 := by kernel_rfl }
open Go.RowKit Go.Lib in
theorem Tryz.unicode_To (c : Nat) (hc : c < 3) (r : Int) (T : Array CaseRow) (w : World) (hV : CaseVar 4 T w) (hok : CaseOk2 T) (hn : T.size ≤ 1000000000) :
    Calls Tryz.prog 161 #[.int .i64 c, .int .i32 r] w fun e w' => e = .returned (.int .i32 (toW T c r)) ∧ ∃ q, w' = w.drewN q := Any.unicode_To Tryz.lays262 c hc r T w hV hok hn
open Go.RowKit Go.Lib in
theorem Tryz.unicode_ToLower_any (r : Int) (T : Array CaseRow) (w : World) (hV : CaseVar 4 T w) (hok : CaseOk2 T) (hn : T.size ≤ 1000000000) :
    Calls Tryz.prog 140 #[.int .i32 r] w fun e w' => e = .returned (.int .i32 (Lib.toLowerW T r)) ∧ ∃ q, w' = w.drewN q := Any.unicode_ToLower_any Tryz.lays204 r T w hV hok hn
open Go.RowKit Go.Lib in
theorem Tryz.unicode_ToLower_laid (r : Int) (w : World) (hV : CaseVar 4 caseA w) :
    Calls Tryz.prog 140 #[.int .i32 r] w fun e w' => e = .returned (.int .i32 (toLowerU r)) ∧ ∃ q, w' = w.drewN q := Any.unicode_ToLower_laid Tryz.lays204 r w hV
open Go.RowKit Go.Lib in
theorem Tryz.unicode_is16_any (T : Array Rg) (R oR cap : Nat) (z : Nat) (w : World) (hz : z < 65536) (hT : RgTab .u16 R oR T w) (hok : RgOk 65536 T) (hn : T.size ≤ 1000000000) :
    Calls Tryz.prog 183 #[.slice (some ⟨R, oR, none⟩) T.size cap, .int .u16 z] w fun e w' => e = .returned (.bool (is16Go T z)) ∧ ∃ q, w' = w.drewN q := Any.unicode_is16_any Tryz.lays311 T R oR cap z w hz hT hok hn
def Tryz.lays312_ren : Go.Shelf.Ren := ⟨fun | 312 => 184 | n => n, fun | 194 => 221 | 51 => 155 | 4 => 4 | 3 => 3 | 0 => 0 | 227 => 241 | 201 => 229 | 46 => 138 | n => n, fun | n => n⟩
theorem Tryz.lays312 : Go.Proofs.Lays.n312 Tryz.prog Tryz.lays312_ren := {
  mixed := by kernel_rfl
  f312 := Tryz.func184.trans (congrArg some (by kernel_rfl))
  t0 := Tryz.underlying0
  a0 := Tryz.isAgg0
  z0 := Tryz.sizeOf0
  v0 := Tryz.zeroValue0
  t3 := Tryz.underlying3
  a3 := Tryz.isAgg3
  z3 := Tryz.sizeOf3
  v3 := Tryz.zeroValue3
  t4 := Tryz.underlying4
  a4 := Tryz.isAgg4
  z4 := Tryz.sizeOf4
  v4 := Tryz.zeroValue4
  t46 := Tryz.underlying138
  a46 := Tryz.isAgg138
  z46 := Tryz.sizeOf138
  v46 := Tryz.zeroValue138
  t51 := Tryz.underlying155
  a51 := Tryz.isAgg155
  z51 := Tryz.sizeOf155
  v51 := Tryz.zeroValue155
  t194 := Tryz.underlying221
  a194 := Tryz.isAgg221
  z194 := Tryz.sizeOf221
  v194 := Tryz.zeroValue221
  t201 := Tryz.underlying229
  a201 := Tryz.isAgg229
  z201 := Tryz.sizeOf229
  v201 := Tryz.zeroValue229
  t227 := Tryz.underlying241
  a227 := Tryz.isAgg241
  z227 := Tryz.sizeOf241
  v227 := Tryz.zeroValue241 }
open Go.RowKit Go.Lib in
theorem Tryz.unicode_is32_any (T : Array Rg) (R oR cap : Nat) (z : Nat) (w : World) (hz : z < 4294967296) (hT : RgTab .u32 R oR T w) (hok : RgOk 4294967296 T) (hn : T.size ≤ 1000000000) :
    Calls Tryz.prog 184 #[.slice (some ⟨R, oR, none⟩) T.size cap, .int .u32 z] w fun e w' => e = .returned (.bool (is32Go T z)) ∧ Below w.heap.size w w' := Any.unicode_is32_any Tryz.lays312 T R oR cap z w hz hT hok hn
open Go.RowKit Go.Lib in
theorem Tryz.unicode_isExcludingLatin_any (Tb oT : Nat) (T : RTab) (r : Int) (w : World) (hlo : -2147483648 ≤ r) (hhi : r ≤ 2147483647) (hA : RTabAt Tb oT T w) (hok : RTabOk T) :
    Calls Tryz.prog 163 #[.pointer (some ⟨Tb, oT, none⟩), .int .i32 r] w fun e w' => e = .returned (.bool (exclGo T r)) ∧ Below w.heap.size w w' := Any.unicode_isExcludingLatin_any Tryz.lays261 Tb oT T r w hlo hhi hA hok
def Tryz.lays109_ren : Go.Shelf.Ren := ⟨fun | 109 => 106 | n => n, fun | 31 => 22 | 9 => 9 | 3 => 3 | 0 => 0 | 4 => 4 | n => n, fun | n => n⟩
theorem Tryz.lays109 : Go.Proofs.Lays.n109 Tryz.prog Tryz.lays109_ren := {
  mixed := by kernel_rfl
  f109 := Tryz.func106.trans (congrArg some (by kernel_rfl))
  t0 := Tryz.underlying0
  a0 := Tryz.isAgg0
  z0 := Tryz.sizeOf0
  v0 := Tryz.zeroValue0
  t3 := Tryz.underlying3
  a3 := Tryz.isAgg3
  z3 := Tryz.sizeOf3
  v3 := Tryz.zeroValue3
  t4 := Tryz.underlying4
  a4 := Tryz.isAgg4
  z4 := Tryz.sizeOf4
  v4 := Tryz.zeroValue4
  t9 := Tryz.underlying9
  a9 := Tryz.isAgg9
  z9 := Tryz.sizeOf9
  v9 := Tryz.zeroValue9
  t31 := Tryz.underlying22
  a31 := Tryz.isAgg22
  z31 := Tryz.sizeOf22
  v31 := Tryz.zeroValue22 }
open Go.Lib in
/-- slices.Index at []string: "Index returns the index of the first occurrence of v in s, or -1 if not present.": IT RETURNS 'Lib.idxOfS (the elements) v'; the world is as it was. 'zs': what the cells behind the slice's address hold (its spare capacity too, if you have it); 'zs.take n': its elements. (LAID: no walk: one application.) -/
theorem Tryz.slices_Index_string (b off n c : Nat) (zs : List ByteArray) (x : ByteArray) (w : World) (hz : n ≤ zs.length) (hbig : n ≤ 9223372036854775807) (hc : ∀ j, j < zs.length → w.cell? ⟨b, off + j, none⟩ = some (.string (zs.getD j ByteArray.empty))) :
    Calls Tryz.prog 106 #[.slice (some ⟨b, off, none⟩) n c, .string x] w fun e w' => e = .returned (.int .i64 (Lib.idxOfS (zs.take n) x)) ∧ w' = w := Any.slices_Index_string Tryz.lays109 b off n c zs x w hz hbig hc
open Go.Lib in
/-- The same at a slice of length 0, a nil one too: no cell is known, none is asked for. (LAID: no walk: one application.) -/
theorem Tryz.slices_Index_string_empty (a : Option Addr) (c : Nat) (x : ByteArray) (w : World) :
    Calls Tryz.prog 106 #[.slice a 0 c, .string x] w fun e w' => e = .returned (.int .i64 (Lib.idxOfS [] x)) ∧ w' = w := Any.slices_Index_string_empty Tryz.lays109 a c x w
def Tryz.lays110_ren : Go.Shelf.Ren := ⟨fun | 110 => 88 | 109 => 106 | n => n, fun | 31 => 22 | 9 => 9 | 4 => 4 | 3 => 3 | 0 => 0 | n => n, fun | n => n⟩
theorem Tryz.lays110 : Go.Proofs.Lays.n110 Tryz.prog Tryz.lays110_ren := {
  mixed := by kernel_rfl
  f109 := Tryz.func106.trans (congrArg some (by kernel_rfl))
  f110 := Tryz.func88.trans (congrArg some (by kernel_rfl))
  t0 := Tryz.underlying0
  a0 := Tryz.isAgg0
  z0 := Tryz.sizeOf0
  v0 := Tryz.zeroValue0
  t3 := Tryz.underlying3
  a3 := Tryz.isAgg3
  z3 := Tryz.sizeOf3
  v3 := Tryz.zeroValue3
  t4 := Tryz.underlying4
  a4 := Tryz.isAgg4
  z4 := Tryz.sizeOf4
  v4 := Tryz.zeroValue4
  t9 := Tryz.underlying9
  a9 := Tryz.isAgg9
  z9 := Tryz.sizeOf9
  v9 := Tryz.zeroValue9
  t31 := Tryz.underlying22
  a31 := Tryz.isAgg22
  z31 := Tryz.sizeOf22
  v31 := Tryz.zeroValue22 }
open Go.Lib in
/-- slices.Contains at []string: "Contains reports whether v is present in s.": IT RETURNS 'Lib.containsS (the elements) v', which is true just where v is among them ('Lib.containsS_iff'); the world is as it was. ITS CALLEE slices.Index IS MET BY ITS OWN CONTRACT OFF THE SHELF (lay that first): no loop is walked here. (LAID: no walk: one application.) -/
theorem Tryz.slices_Contains_string (b off n c : Nat) (zs : List ByteArray) (x : ByteArray) (w : World) (hz : n ≤ zs.length) (hbig : n ≤ 9223372036854775807) (hc : ∀ j, j < zs.length → w.cell? ⟨b, off + j, none⟩ = some (.string (zs.getD j ByteArray.empty))) :
    Calls Tryz.prog 88 #[.slice (some ⟨b, off, none⟩) n c, .string x] w fun e w' => e = .returned (.bool (Lib.containsS (zs.take n) x)) ∧ w' = w := Any.slices_Contains_string Tryz.lays110 b off n c zs x w hz hbig hc
open Go.Lib in
/-- The same at a slice of length 0, a nil one too. (LAID: no walk: one application.) -/
theorem Tryz.slices_Contains_string_empty (a : Option Addr) (c : Nat) (x : ByteArray) (w : World) :
    Calls Tryz.prog 88 #[.slice a 0 c, .string x] w fun e w' => e = .returned (.bool false) ∧ w' = w := Any.slices_Contains_string_empty Tryz.lays110 a c x w
open Go.RowKit Go.Sort in
/-- .. and plain. (LAID: no walk: one application.) -/
theorem Tryz.slices_Sort_string_none (p : Option Addr) (cap : Nat) (w : World) :
    Calls Tryz.prog 110 #[.slice p 0 cap] w fun e w' => e = .returned (.tuple #[]) ∧ w' = w := Any.slices_Sort_string_none Tryz.lays190 p cap w
open Go.RowKit Go.Sort in
/-- .. and plain. (LAID: no walk: one application.) -/
theorem Tryz.sort_Strings_none (p : Option Addr) (cap : Nat) (w : World) :
    Calls Tryz.prog 94 #[.slice p 0 cap] w fun e w' => e = .returned (.tuple #[]) ∧ w' = w := Any.sort_Strings_none Tryz.lays192 p cap w
def Tryz.laysGg36_ren : Go.Shelf.Ren := ⟨fun | 36 => 148 | n => n, fun | 66 => 208 | 51 => 157 | 0 => 0 | 60 => 182 | 41 => 138 | n => n, fun | n => n⟩
theorem Tryz.laysGg36 : Go.Proofs.LaysGg.n36 Tryz.prog Tryz.laysGg36_ren := {
  mixed := by kernel_rfl
  f36 := Tryz.func148.trans (congrArg some (by kernel_rfl))
  t0 := Tryz.underlying0
  a0 := Tryz.isAgg0
  z0 := Tryz.sizeOf0
  v0 := Tryz.zeroValue0
  i0 := by kernel_rfl
  t41 := Tryz.underlying138
  a41 := Tryz.isAgg138
  z41 := Tryz.sizeOf138
  v41 := Tryz.zeroValue138
  i41 := by kernel_rfl
  t51 := Tryz.underlying157
  a51 := Tryz.isAgg157
  z51 := Tryz.sizeOf157
  v51 := Tryz.zeroValue157
  i51 := by kernel_rfl
  t60 := Tryz.underlying182
  a60 := Tryz.isAgg182
  z60 := Tryz.sizeOf182
  v60 := Tryz.zeroValue182
  i60 := by kernel_rfl
  t66 := Tryz.underlying208
  a66 := Tryz.isAgg208
  z66 := Tryz.sizeOf208
  v66 := Tryz.zeroValue208
  i66 := by kernel_rfl }
open Go.RowKit Go.Lib Go.Sort in
/-- '*r ^= *r << 13; *r ^= *r >> 7; *r ^= *r << 17; return uint64(*r)': the cell holds 'xorNextN X' and that is handed back; three draws; nothing else turns. (LAID: no walk: one application.) -/
theorem Tryz.xorshift_Next (rb ro X : Nat) (hX : X < 18446744073709551616) (w : World) (hc : w.cell? ⟨rb, ro, none⟩ = some (.int .u64 X)) (hf : w.frozen? ⟨rb, ro, none⟩ = false) :
    Calls Tryz.prog 148 #[.pointer (some ⟨rb, ro, none⟩)] w fun e w' => e = .returned (.int .u64 (xorNextN X : Nat)) ∧ w' = (w.setCell ⟨rb, ro, none⟩ (.int .u64 (xorNextN X : Nat))).drewN 3 := Any.xorshift_Next Tryz.laysGg36 rb ro X hX w hc hf
def Tryz.laysGg35_ren : Go.Shelf.Ren := ⟨fun | 35 => 147 | 13 => 104 | 24 => 123 | 25 => 124 | n => n, fun | 3 => 3 | 41 => 138 | 49 => 155 | 51 => 157 | 4 => 4 | 5 => 5 | 9 => 9 | n => n, fun | n => n⟩
theorem Tryz.laysGg35 : Go.Proofs.LaysGg.n35 Tryz.prog Tryz.laysGg35_ren := {
  mixed := by kernel_rfl
  f13 := Tryz.func104.trans (congrArg some (by kernel_rfl))
  f24 := Tryz.func123.trans (congrArg some (by kernel_rfl))
  f25 := Tryz.func124.trans (congrArg some (by kernel_rfl))
  f35 := Tryz.func147.trans (congrArg some (by kernel_rfl))
  t3 := Tryz.underlying3
  a3 := Tryz.isAgg3
  z3 := Tryz.sizeOf3
  v3 := Tryz.zeroValue3
  i3 := by kernel_rfl
  t4 := Tryz.underlying4
  a4 := Tryz.isAgg4
  z4 := Tryz.sizeOf4
  v4 := Tryz.zeroValue4
  i4 := by kernel_rfl
  t5 := Tryz.underlying5
  a5 := Tryz.isAgg5
  z5 := Tryz.sizeOf5
  v5 := Tryz.zeroValue5
  i5 := by kernel_rfl
  t9 := Tryz.underlying9
  a9 := Tryz.isAgg9
  z9 := Tryz.sizeOf9
  v9 := Tryz.zeroValue9
  i9 := by kernel_rfl
  t41 := Tryz.underlying138
  a41 := Tryz.isAgg138
  z41 := Tryz.sizeOf138
  v41 := Tryz.zeroValue138
  i41 := by kernel_rfl
  t49 := Tryz.underlying155
  a49 := Tryz.isAgg155
  z49 := Tryz.sizeOf155
  v49 := Tryz.zeroValue155
  i49 := by kernel_rfl
  t51 := Tryz.underlying157
  a51 := Tryz.isAgg157
  z51 := Tryz.sizeOf157
  v51 := Tryz.zeroValue157
  i51 := by kernel_rfl }
open Go.RowKit Go.Lib Go.Sort in
/-- 'return 1 << bits.Len(uint(length))'. (LAID: no walk: one application.) -/
theorem Tryz.nextPowerOfTwo (n : Nat) (hn : n < 4611686018427387904) (w : World) :
    Calls Tryz.prog 147 #[.int .i64 n] w fun e w' => e = .returned (.int .u64 ((1 <<< bitsLen n : Nat) : Int)) ∧ w' = w := Any.nextPowerOfTwo Tryz.laysGg35 n hn w
open Go.RowKit Go.Lib Go.Sort in
/-- sort.insertionSort_func, from a world to a 'sortWorld' of it. (LAID: no walk: one application.) -/
theorem Tryz.insertionSort_func_cells_w {α : Type} [Inhabited α] (enc : α → List Value) (k : Nat) (hk : ∀ x, (enc x).length = k) (lt : α → α → Bool) (g : Nat) (lb : Array Value) (sf : Nat) (sb : Array Value) (blk off a b : Nat) (d : Array α) (w : World) (eg : ∀ args w, (callFunc g args).run Tryz.prog w = .ok (.enter g args) w) (hless : LessReadsK Tryz.prog g lb enc k lt blk off d.size w) (hswap : SwapSwapsK Tryz.prog sf sb enc k blk off d.size) (hH : HoldsK enc k w blk off d) (hblk : blk < w.heap.size) (hab : a ≤ b) (hb : b ≤ d.size) (hsz : d.size < 4611686018427387904) :
    Calls Tryz.prog 125 #[.agg #[.func (.func g) #[] lb, .func (.func sf) #[] sb], .int .i64 a, .int .i64 b] w fun e w' => e = .returned (.tuple #[]) ∧ ∃ n os, w' = sortWorldK enc k w blk off n (Sort.insertionSort lt d a b) os := Any.insertionSort_func_cells_w Tryz.laysGg26 enc k hk lt g lb sf sb blk off a b d w eg hless hswap hH hblk hab hb hsz
open Go.RowKit Go.Lib Go.Sort in
theorem Tryz.reverseRange_func_cells {α : Type} [Inhabited α] (enc : α → List Value) (k : Nat) (hk : ∀ x, (enc x).length = k) (lf : Fn) (la lb : Array Value) (sf : Nat) (sb : Array Value) (blk off a b : Nat) (d : Array α) (w : World) (hswap : SwapSwapsK Tryz.prog sf sb enc k blk off d.size) (hH : HoldsK enc k w blk off d) (hblk : blk < w.heap.size) (hab : a ≤ b) (hb : b ≤ d.size) (hsz : d.size < 4611686018427387904) :
    Calls Tryz.prog 129 #[.agg #[.func lf la lb, .func (.func sf) #[] sb], .int .i64 a, .int .i64 b] w fun e w' => e = .returned (.tuple #[]) ∧ ∃ n, w' = putRowK enc k (Sort.ahead (w.alloc (.cells #[.func lf la lb, .func (.func sf) #[] sb] 141)) n) blk off (reverseRange d a b) := Any.reverseRange_func_cells Tryz.laysGg30 enc k hk lf la lb sf sb blk off a b d w hswap hH hblk hab hb hsz
open Go.RowKit Go.Lib Go.Sort in
/-- sort.reverseRange_func, from a world to a 'sortWorld' of it. (LAID: no walk: one application.) -/
theorem Tryz.reverseRange_func_cells_w {α : Type} [Inhabited α] (enc : α → List Value) (k : Nat) (hk : ∀ x, (enc x).length = k) (lf : Fn) (la lb : Array Value) (sf : Nat) (sb : Array Value) (blk off a b : Nat) (d : Array α) (w : World) (hswap : SwapSwapsK Tryz.prog sf sb enc k blk off d.size) (hH : HoldsK enc k w blk off d) (hblk : blk < w.heap.size) (hab : a ≤ b) (hb : b ≤ d.size) (hsz : d.size < 4611686018427387904) :
    Calls Tryz.prog 129 #[.agg #[.func lf la lb, .func (.func sf) #[] sb], .int .i64 a, .int .i64 b] w fun e w' => e = .returned (.tuple #[]) ∧ ∃ n os, w' = sortWorldK enc k w blk off n (reverseRange d a b) os := Any.reverseRange_func_cells_w Tryz.laysGg30 enc k hk lf la lb sf sb blk off a b d w hswap hH hblk hab hb hsz
def Tryz.laysGg34_ren : Go.Shelf.Ren := ⟨fun | 34 => 146 | n => n, fun | 44 => 141 | 3 => 3 | 0 => 0 | 4 => 4 | 26 => 113 | 37 => 134 | n => n, fun | n => n⟩
theorem Tryz.laysGg34 : Go.Proofs.LaysGg.n34 Tryz.prog Tryz.laysGg34_ren := {
  mixed := by kernel_rfl
  f34 := Tryz.func146.trans (congrArg some (by kernel_rfl))
  t0 := Tryz.underlying0
  a0 := Tryz.isAgg0
  z0 := Tryz.sizeOf0
  v0 := Tryz.zeroValue0
  i0 := by kernel_rfl
  t3 := Tryz.underlying3
  a3 := Tryz.isAgg3
  z3 := Tryz.sizeOf3
  v3 := Tryz.zeroValue3
  i3 := by kernel_rfl
  t4 := Tryz.underlying4
  a4 := Tryz.isAgg4
  z4 := Tryz.sizeOf4
  v4 := Tryz.zeroValue4
  i4 := by kernel_rfl
  t26 := Tryz.underlying113
  a26 := Tryz.isAgg113
  z26 := Tryz.sizeOf113
  v26 := Tryz.zeroValue113
  i26 := by kernel_rfl
  t37 := Tryz.underlying134
  a37 := Tryz.isAgg134
  z37 := Tryz.sizeOf134
  v37 := Tryz.zeroValue134
  i37 := by kernel_rfl
  t44 := Tryz.underlying141
  a44 := Tryz.isAgg141
  z44 := Tryz.sizeOf141
  v44 := Tryz.zeroValue141
  i44 := by kernel_rfl }
open Go.RowKit Go.Lib Go.Sort in
theorem Tryz.siftDown_func_cells {α : Type} [Inhabited α] (enc : α → List Value) (k : Nat) (hk : ∀ x, (enc x).length = k) (lt : α → α → Bool) (g : Nat) (lb : Array Value) (sf : Nat) (sb : Array Value) (blk off lo hi first : Nat) (d : Array α) (w : World) (eg : ∀ args w, (callFunc g args).run Tryz.prog w = .ok (.enter g args) w) (hless : LessReadsK Tryz.prog g lb enc k lt blk off d.size w) (hswap : SwapSwapsK Tryz.prog sf sb enc k blk off d.size) (hH : HoldsK enc k w blk off d) (hblk : blk < w.heap.size) (hlo : lo ≤ hi) (hb : first + hi ≤ d.size) (hsz : d.size < 4611686018427387904) :
    Calls Tryz.prog 146 #[.agg #[.func (.func g) #[] lb, .func (.func sf) #[] sb], .int .i64 lo, .int .i64 hi, .int .i64 first] w fun e w' =>
      e = .returned (.tuple #[]) ∧ ∃ n, w' = putRowK enc k (Sort.ahead (w.alloc (.cells #[.func (.func g) #[] lb, .func (.func sf) #[] sb] 141)) n) blk off (siftDown lt hi first lo d) := Any.siftDown_func_cells Tryz.laysGg34 enc k hk lt g lb sf sb blk off lo hi first d w eg hless hswap hH hblk hlo hb hsz
open Go.RowKit Go.Lib Go.Sort in
/-- sort.siftDown_func, from a world to a 'sortWorld' of it. (LAID: no walk: one application.) -/
theorem Tryz.siftDown_func_cells_w {α : Type} [Inhabited α] (enc : α → List Value) (k : Nat) (hk : ∀ x, (enc x).length = k) (lt : α → α → Bool) (g : Nat) (lb : Array Value) (sf : Nat) (sb : Array Value) (blk off lo hi first : Nat) (d : Array α) (w : World) (eg : ∀ args w, (callFunc g args).run Tryz.prog w = .ok (.enter g args) w) (hless : LessReadsK Tryz.prog g lb enc k lt blk off d.size w) (hswap : SwapSwapsK Tryz.prog sf sb enc k blk off d.size) (hH : HoldsK enc k w blk off d) (hblk : blk < w.heap.size) (hlo : lo ≤ hi) (hb : first + hi ≤ d.size) (hsz : d.size < 4611686018427387904) :
    Calls Tryz.prog 146 #[.agg #[.func (.func g) #[] lb, .func (.func sf) #[] sb], .int .i64 lo, .int .i64 hi, .int .i64 first] w fun e w' => e = .returned (.tuple #[]) ∧ ∃ n os, w' = sortWorldK enc k w blk off n (siftDown lt hi first lo d) os := Any.siftDown_func_cells_w Tryz.laysGg34 enc k hk lt g lb sf sb blk off lo hi first d w eg hless hswap hH hblk hlo hb hsz
def Tryz.laysGg27_ren : Go.Shelf.Ren := ⟨fun | 27 => 126 | 34 => 146 | n => n, fun | 44 => 141 | 3 => 3 | 0 => 0 | 4 => 4 | 37 => 134 | 26 => 113 | n => n, fun | n => n⟩
theorem Tryz.laysGg27 : Go.Proofs.LaysGg.n27 Tryz.prog Tryz.laysGg27_ren := {
  mixed := by kernel_rfl
  f27 := Tryz.func126.trans (congrArg some (by kernel_rfl))
  f34 := Tryz.func146.trans (congrArg some (by kernel_rfl))
  t0 := Tryz.underlying0
  a0 := Tryz.isAgg0
  z0 := Tryz.sizeOf0
  v0 := Tryz.zeroValue0
  i0 := by kernel_rfl
  t3 := Tryz.underlying3
  a3 := Tryz.isAgg3
  z3 := Tryz.sizeOf3
  v3 := Tryz.zeroValue3
  i3 := by kernel_rfl
  t4 := Tryz.underlying4
  a4 := Tryz.isAgg4
  z4 := Tryz.sizeOf4
  v4 := Tryz.zeroValue4
  i4 := by kernel_rfl
  t26 := Tryz.underlying113
  a26 := Tryz.isAgg113
  z26 := Tryz.sizeOf113
  v26 := Tryz.zeroValue113
  i26 := by kernel_rfl
  t37 := Tryz.underlying134
  a37 := Tryz.isAgg134
  z37 := Tryz.sizeOf134
  v37 := Tryz.zeroValue134
  i37 := by kernel_rfl
  t44 := Tryz.underlying141
  a44 := Tryz.isAgg141
  z44 := Tryz.sizeOf141
  v44 := Tryz.zeroValue141
  i44 := by kernel_rfl }
open Go.RowKit Go.Lib Go.Sort in
theorem Tryz.heapSort_func_cells_w {α : Type} [Inhabited α] (enc : α → List Value) (k : Nat) (hk : ∀ x, (enc x).length = k) (lt : α → α → Bool) (g : Nat) (lb : Array Value) (sf : Nat) (sb : Array Value) (blk off a b : Nat) (d : Array α) (w : World) (eg : ∀ args w, (callFunc g args).run Tryz.prog w = .ok (.enter g args) w) (hless : LessReadsK Tryz.prog g lb enc k lt blk off d.size w) (hswap : SwapSwapsK Tryz.prog sf sb enc k blk off d.size) (hH : HoldsK enc k w blk off d) (hblk : blk < w.heap.size) (hab : a ≤ b) (hb : b ≤ d.size) (hsz : d.size < 4611686018427387904) :
    Calls Tryz.prog 126 #[.agg #[.func (.func g) #[] lb, .func (.func sf) #[] sb], .int .i64 a, .int .i64 b] w fun e w' => e = .returned (.tuple #[]) ∧ ∃ n os, w' = sortWorldK enc k w blk off n (heapSort lt d a b) os := Any.heapSort_func_cells_w Tryz.laysGg27 enc k hk lt g lb sf sb blk off a b d w eg hless hswap hH hblk hab hb hsz
def Tryz.laysGg31_ren : Go.Shelf.Ren := ⟨fun | 31 => 130 | n => n, fun | 44 => 141 | 3 => 3 | 4 => 4 | 0 => 0 | 26 => 113 | 37 => 134 | n => n, fun | n => n⟩
theorem Tryz.laysGg31 : Go.Proofs.LaysGg.n31 Tryz.prog Tryz.laysGg31_ren := {
  mixed := by kernel_rfl
  f31 := Tryz.func130.trans (congrArg some (by kernel_rfl))
  t0 := Tryz.underlying0
  a0 := Tryz.isAgg0
  z0 := Tryz.sizeOf0
  v0 := Tryz.zeroValue0
  i0 := by kernel_rfl
  t3 := Tryz.underlying3
  a3 := Tryz.isAgg3
  z3 := Tryz.sizeOf3
  v3 := Tryz.zeroValue3
  i3 := by kernel_rfl
  t4 := Tryz.underlying4
  a4 := Tryz.isAgg4
  z4 := Tryz.sizeOf4
  v4 := Tryz.zeroValue4
  i4 := by kernel_rfl
  t26 := Tryz.underlying113
  a26 := Tryz.isAgg113
  z26 := Tryz.sizeOf113
  v26 := Tryz.zeroValue113
  i26 := by kernel_rfl
  t37 := Tryz.underlying134
  a37 := Tryz.isAgg134
  z37 := Tryz.sizeOf134
  v37 := Tryz.zeroValue134
  i37 := by kernel_rfl
  t44 := Tryz.underlying141
  a44 := Tryz.isAgg141
  z44 := Tryz.sizeOf141
  v44 := Tryz.zeroValue141
  i44 := by kernel_rfl }
open Go.RowKit Go.Lib Go.Sort in
theorem Tryz.partialInsertionSort_func_cells {α : Type} [Inhabited α] (enc : α → List Value) (k : Nat) (hk : ∀ x, (enc x).length = k) (lt : α → α → Bool) (g : Nat) (lb : Array Value) (sf : Nat) (sb : Array Value) (blk off a b : Nat) (d : Array α) (w : World) (eg : ∀ args w, (callFunc g args).run Tryz.prog w = .ok (.enter g args) w) (hless : LessReadsK Tryz.prog g lb enc k lt blk off d.size w) (hswap : SwapSwapsK Tryz.prog sf sb enc k blk off d.size) (hH : HoldsK enc k w blk off d) (hblk : blk < w.heap.size) (hab : a < b) (hb : b ≤ d.size) (hsz : d.size < 4611686018427387904) :
    Calls Tryz.prog 130 #[.agg #[.func (.func g) #[] lb, .func (.func sf) #[] sb], .int .i64 a, .int .i64 b] w fun e w' =>
      e = .returned (.bool (Sort.partialInsertionSort lt d a b).2) ∧ ∃ n, w' = putRowK enc k (Sort.ahead (w.alloc (.cells #[.func (.func g) #[] lb, .func (.func sf) #[] sb] 141)) n) blk off (Sort.partialInsertionSort lt d a b).1 := Any.partialInsertionSort_func_cells Tryz.laysGg31 enc k hk lt g lb sf sb blk off a b d w eg hless hswap hH hblk hab hb hsz
open Go.RowKit Go.Lib Go.Sort in
/-- sort.partialInsertionSort_func, from a world to a 'sortWorld' of it. (LAID: no walk: one application.) -/
theorem Tryz.partialInsertionSort_func_cells_w {α : Type} [Inhabited α] (enc : α → List Value) (k : Nat) (hk : ∀ x, (enc x).length = k) (lt : α → α → Bool) (g : Nat) (lb : Array Value) (sf : Nat) (sb : Array Value) (blk off a b : Nat) (d : Array α) (w : World) (eg : ∀ args w, (callFunc g args).run Tryz.prog w = .ok (.enter g args) w) (hless : LessReadsK Tryz.prog g lb enc k lt blk off d.size w) (hswap : SwapSwapsK Tryz.prog sf sb enc k blk off d.size) (hH : HoldsK enc k w blk off d) (hblk : blk < w.heap.size) (hab : a < b) (hb : b ≤ d.size) (hsz : d.size < 4611686018427387904) :
    Calls Tryz.prog 130 #[.agg #[.func (.func g) #[] lb, .func (.func sf) #[] sb], .int .i64 a, .int .i64 b] w fun e w' => e = .returned (.bool (Sort.partialInsertionSort lt d a b).2) ∧ ∃ n os, w' = sortWorldK enc k w blk off n (Sort.partialInsertionSort lt d a b).1 os := Any.partialInsertionSort_func_cells_w Tryz.laysGg31 enc k hk lt g lb sf sb blk off a b d w eg hless hswap hH hblk hab hb hsz
open Go.RowKit Go.Lib Go.Sort in
theorem Tryz.order2_func_cells {α : Type} [Inhabited α] (enc : α → List Value) (k : Nat) (hk : ∀ x, (enc x).length = k) (lt : α → α → Bool) (g : Nat) (lb : Array Value) (sfn : Fn) (sa sb : Array Value) (blk off : Nat) (w0 W : World) (d : Array α) (a b cb co s : Nat) (eg : ∀ args w, (callFunc g args).run Tryz.prog w = .ok (.enter g args) w) (hL : LessReadsK Tryz.prog g lb enc k lt blk off d.size w0) (hW : SWK enc k w0 blk off d W) (ha : a < d.size) (hb : b < d.size) (hS : Holds (Value.int .i64) W cb co (one s)) (hcb : cb < W.heap.size) (hs : s < 4611686018427387904) :
    Calls Tryz.prog 174 #[.agg #[.func (.func g) #[] lb, .func sfn sa sb], .int .i64 a, .int .i64 b, .pointer (some ⟨cb, co, none⟩)] W fun e w' =>
      e = .returned (.tuple #[.int .i64 (order2 lt d a b s).1, .int .i64 (order2 lt d a b s).2.1]) ∧ ∃ n os, w' = sortWorld (Value.int .i64) W cb co n (one (order2 lt d a b s).2.2) os := Any.order2_func_cells Tryz.laysGg39 enc k hk lt g lb sfn sa sb blk off w0 W d a b cb co s eg hL hW ha hb hS hcb hs
open Go.RowKit Go.Lib Go.Sort in
theorem Tryz.median_func_cells {α : Type} [Inhabited α] (enc : α → List Value) (k : Nat) (hk : ∀ x, (enc x).length = k) (lt : α → α → Bool) (g : Nat) (lb : Array Value) (sfn : Fn) (sa sb : Array Value) (blk off : Nat) (w0 W : World) (d : Array α) (a b c cb co s : Nat) (eg : ∀ args w, (callFunc g args).run Tryz.prog w = .ok (.enter g args) w) (hL : LessReadsK Tryz.prog g lb enc k lt blk off d.size w0) (hW : SWK enc k w0 blk off d W) (ha : a < d.size) (hb : b < d.size) (hc : c < d.size) (hS : Holds (Value.int .i64) W cb co (one s)) (hcb0 : w0.heap.size ≤ cb) (hcb : cb < W.heap.size) (hs : s + 3 < 4611686018427387904) :
    Calls Tryz.prog 150 #[.agg #[.func (.func g) #[] lb, .func sfn sa sb], .int .i64 a, .int .i64 b, .int .i64 c, .pointer (some ⟨cb, co, none⟩)] W fun e w' =>
      e = .returned (.int .i64 (median lt d a b c s).1) ∧ ∃ n os, w' = sortWorld (Value.int .i64) W cb co n (one (median lt d a b c s).2) os := Any.median_func_cells Tryz.laysGg38 enc k hk lt g lb sfn sa sb blk off w0 W d a b c cb co s eg hL hW ha hb hc hS hcb0 hcb hs
open Go.RowKit Go.Lib Go.Sort in
theorem Tryz.medianAdjacent_func_cells {α : Type} [Inhabited α] (enc : α → List Value) (k : Nat) (hk : ∀ x, (enc x).length = k) (lt : α → α → Bool) (g : Nat) (lb : Array Value) (sfn : Fn) (sa sb : Array Value) (blk off : Nat) (w0 W : World) (d : Array α) (a cb co s : Nat) (eg : ∀ args w, (callFunc g args).run Tryz.prog w = .ok (.enter g args) w) (hL : LessReadsK Tryz.prog g lb enc k lt blk off d.size w0) (hW : SWK enc k w0 blk off d W) (ha1 : 1 ≤ a) (ha2 : a + 1 < d.size) (hsz : d.size < 4611686018427387904) (hS : Holds (Value.int .i64) W cb co (one s)) (hcb0 : w0.heap.size ≤ cb) (hcb : cb < W.heap.size) (hs : s + 3 < 4611686018427387904) :
    Calls Tryz.prog 149 #[.agg #[.func (.func g) #[] lb, .func sfn sa sb], .int .i64 a, .pointer (some ⟨cb, co, none⟩)] W fun e w' =>
      e = .returned (.int .i64 (medianAdjacent lt d a s).1) ∧ ∃ n os, w' = sortWorld (Value.int .i64) W cb co n (one (medianAdjacent lt d a s).2) os := Any.medianAdjacent_func_cells Tryz.laysGg37 enc k hk lt g lb sfn sa sb blk off w0 W d a cb co s eg hL hW ha1 ha2 hsz hS hcb0 hcb hs
def Tryz.laysGg29_ren : Go.Shelf.Ren := ⟨fun | 29 => 128 | 37 => 149 | 38 => 150 | 39 => 174 | n => n, fun | 44 => 141 | 3 => 3 | 53 => 159 | 0 => 0 | 4 => 4 | 64 => 186 | 67 => 209 | 26 => 113 | 37 => 134 | n => n, fun | n => n⟩
theorem Tryz.laysGg29 : Go.Proofs.LaysGg.n29 Tryz.prog Tryz.laysGg29_ren := {
  mixed := by kernel_rfl
  f29 := Tryz.func128.trans (congrArg some (by kernel_rfl))
  f37 := Tryz.func149.trans (congrArg some (by kernel_rfl))
  f38 := Tryz.func150.trans (congrArg some (by kernel_rfl))
  f39 := Tryz.func174.trans (congrArg some (by kernel_rfl))
  t0 := Tryz.underlying0
  a0 := Tryz.isAgg0
  z0 := Tryz.sizeOf0
  v0 := Tryz.zeroValue0
  i0 := by kernel_rfl
  t3 := Tryz.underlying3
  a3 := Tryz.isAgg3
  z3 := Tryz.sizeOf3
  v3 := Tryz.zeroValue3
  i3 := by kernel_rfl
  t4 := Tryz.underlying4
  a4 := Tryz.isAgg4
  z4 := Tryz.sizeOf4
  v4 := Tryz.zeroValue4
  i4 := by kernel_rfl
  t26 := Tryz.underlying113
  a26 := Tryz.isAgg113
  z26 := Tryz.sizeOf113
  v26 := Tryz.zeroValue113
  i26 := by kernel_rfl
  t37 := Tryz.underlying134
  a37 := Tryz.isAgg134
  z37 := Tryz.sizeOf134
  v37 := Tryz.zeroValue134
  i37 := by kernel_rfl
  t44 := Tryz.underlying141
  a44 := Tryz.isAgg141
  z44 := Tryz.sizeOf141
  v44 := Tryz.zeroValue141
  i44 := by kernel_rfl
  t53 := Tryz.underlying159
  a53 := Tryz.isAgg159
  z53 := Tryz.sizeOf159
  v53 := Tryz.zeroValue159
  i53 := by kernel_rfl
  t64 := Tryz.underlying186
  a64 := Tryz.isAgg186
  z64 := Tryz.sizeOf186
  v64 := Tryz.zeroValue186
  i64 := by kernel_rfl
  t67 := Tryz.underlying209
  a67 := Tryz.isAgg209
  z67 := Tryz.sizeOf209
  v67 := Tryz.zeroValue209
  i67 := by kernel_rfl }
open Go.RowKit Go.Lib Go.Sort in
/-- sort.choosePivot_func: THE LIBRARY's OWN TEXT COMPUTES 'Sort.choosePivot lt d a b'; the row is not turned; W is grown. (After Derived/Sort/Walk11.lean's 'So.choosePivot_int', row for row.) (LAID: no walk: one application.) -/
theorem Tryz.choosePivot_func_cells {α : Type} [Inhabited α] (enc : α → List Value) (k : Nat) (hk : ∀ x, (enc x).length = k) (lt : α → α → Bool) (g : Nat) (lb : Array Value) (sfn : Fn) (sa sb : Array Value) (blk off a b : Nat) (W : World) (d : Array α) (eg : ∀ args w, (callFunc g args).run Tryz.prog w = .ok (.enter g args) w) (hless : LessReadsK Tryz.prog g lb enc k lt blk off d.size W) (hH : HoldsK enc k W blk off d) (hab : a < b) (hb : b ≤ d.size) (hsz : d.size < 4611686018427387904) :
    Calls Tryz.prog 128 #[.agg #[.func (.func g) #[] lb, .func sfn sa sb], .int .i64 a, .int .i64 b] W fun e w' =>
      e = .returned (.tuple #[.int .i64 (choosePivot lt d a b).1, .int .i64 (hintCode (choosePivot lt d a b).2)]) ∧ ∃ n os, w' = grow (Sort.ahead W n) os := Any.choosePivot_func_cells Tryz.laysGg29 enc k hk lt g lb sfn sa sb blk off a b W d eg hless hH hab hb hsz
def Tryz.laysGg32_ren : Go.Shelf.Ren := ⟨fun | 32 => 131 | n => n, fun | 44 => 141 | 3 => 3 | 0 => 0 | 37 => 134 | 4 => 4 | 26 => 113 | n => n, fun | n => n⟩
theorem Tryz.laysGg32 : Go.Proofs.LaysGg.n32 Tryz.prog Tryz.laysGg32_ren := {
  mixed := by kernel_rfl
  f32 := Tryz.func131.trans (congrArg some (by kernel_rfl))
  t0 := Tryz.underlying0
  a0 := Tryz.isAgg0
  z0 := Tryz.sizeOf0
  v0 := Tryz.zeroValue0
  i0 := by kernel_rfl
  t3 := Tryz.underlying3
  a3 := Tryz.isAgg3
  z3 := Tryz.sizeOf3
  v3 := Tryz.zeroValue3
  i3 := by kernel_rfl
  t4 := Tryz.underlying4
  a4 := Tryz.isAgg4
  z4 := Tryz.sizeOf4
  v4 := Tryz.zeroValue4
  i4 := by kernel_rfl
  t26 := Tryz.underlying113
  a26 := Tryz.isAgg113
  z26 := Tryz.sizeOf113
  v26 := Tryz.zeroValue113
  i26 := by kernel_rfl
  t37 := Tryz.underlying134
  a37 := Tryz.isAgg134
  z37 := Tryz.sizeOf134
  v37 := Tryz.zeroValue134
  i37 := by kernel_rfl
  t44 := Tryz.underlying141
  a44 := Tryz.isAgg141
  z44 := Tryz.sizeOf141
  v44 := Tryz.zeroValue141
  i44 := by kernel_rfl }
open Go.RowKit Go.Lib Go.Sort in
theorem Tryz.partitionEqual_func_cells {α : Type} [Inhabited α] (enc : α → List Value) (k : Nat) (hk : ∀ x, (enc x).length = k) (lt : α → α → Bool) (g : Nat) (lb : Array Value) (sf : Nat) (sb : Array Value) (blk off a b pivot : Nat) (d : Array α) (W : World) (eg : ∀ args w, (callFunc g args).run Tryz.prog w = .ok (.enter g args) w) (hless : LessReadsK Tryz.prog g lb enc k lt blk off d.size W) (hswap : SwapSwapsK Tryz.prog sf sb enc k blk off d.size) (hH : HoldsK enc k W blk off d) (hblk : blk < W.heap.size) (hap : a ≤ pivot) (hpb : pivot < b) (hb : b ≤ d.size) (hsz : d.size < 4611686018427387904) :
    Calls Tryz.prog 131 #[.agg #[.func (.func g) #[] lb, .func (.func sf) #[] sb], .int .i64 a, .int .i64 b, .int .i64 pivot] W fun e w' =>
      e = .returned (.int .i64 (Sort.partitionEqual lt d a b pivot).1) ∧ ∃ n, w' = (putRowK enc k (W.alloc (.cells #[.func (.func g) #[] lb, .func (.func sf) #[] sb] 141)) blk off (Sort.partitionEqual lt d a b pivot).2).drewN n := Any.partitionEqual_func_cells Tryz.laysGg32 enc k hk lt g lb sf sb blk off a b pivot d W eg hless hswap hH hblk hap hpb hb hsz
def Tryz.laysGg33_ren : Go.Shelf.Ren := ⟨fun | 33 => 132 | n => n, fun | 44 => 141 | 3 => 3 | 4 => 4 | 0 => 0 | 37 => 134 | 26 => 113 | n => n, fun | n => n⟩
theorem Tryz.laysGg33 : Go.Proofs.LaysGg.n33 Tryz.prog Tryz.laysGg33_ren := {
  mixed := by kernel_rfl
  f33 := Tryz.func132.trans (congrArg some (by kernel_rfl))
  t0 := Tryz.underlying0
  a0 := Tryz.isAgg0
  z0 := Tryz.sizeOf0
  v0 := Tryz.zeroValue0
  i0 := by kernel_rfl
  t3 := Tryz.underlying3
  a3 := Tryz.isAgg3
  z3 := Tryz.sizeOf3
  v3 := Tryz.zeroValue3
  i3 := by kernel_rfl
  t4 := Tryz.underlying4
  a4 := Tryz.isAgg4
  z4 := Tryz.sizeOf4
  v4 := Tryz.zeroValue4
  i4 := by kernel_rfl
  t26 := Tryz.underlying113
  a26 := Tryz.isAgg113
  z26 := Tryz.sizeOf113
  v26 := Tryz.zeroValue113
  i26 := by kernel_rfl
  t37 := Tryz.underlying134
  a37 := Tryz.isAgg134
  z37 := Tryz.sizeOf134
  v37 := Tryz.zeroValue134
  i37 := by kernel_rfl
  t44 := Tryz.underlying141
  a44 := Tryz.isAgg141
  z44 := Tryz.sizeOf141
  v44 := Tryz.zeroValue141
  i44 := by kernel_rfl }
open Go.RowKit Go.Lib Go.Sort in
theorem Tryz.partition_func_cells {α : Type} [Inhabited α] (enc : α → List Value) (k : Nat) (hk : ∀ x, (enc x).length = k) (lt : α → α → Bool) (g : Nat) (lb : Array Value) (sf : Nat) (sb : Array Value) (blk off a b pivot : Nat) (d : Array α) (W : World) (eg : ∀ args w, (callFunc g args).run Tryz.prog w = .ok (.enter g args) w) (hless : LessReadsK Tryz.prog g lb enc k lt blk off d.size W) (hswap : SwapSwapsK Tryz.prog sf sb enc k blk off d.size) (hH : HoldsK enc k W blk off d) (hblk : blk < W.heap.size) (hap : a ≤ pivot) (hpb : pivot < b) (hb : b ≤ d.size) (hsz : d.size < 4611686018427387904) :
    Calls Tryz.prog 132 #[.agg #[.func (.func g) #[] lb, .func (.func sf) #[] sb], .int .i64 a, .int .i64 b, .int .i64 pivot] W fun e w' =>
      e = .returned (.tuple #[.int .i64 (Sort.partition lt d a b pivot).1, .bool (Sort.partition lt d a b pivot).2.1]) ∧ ∃ n, w' = (putRowK enc k (W.alloc (.cells #[.func (.func g) #[] lb, .func (.func sf) #[] sb] 141)) blk off (Sort.partition lt d a b pivot).2.2).drewN n := Any.partition_func_cells Tryz.laysGg33 enc k hk lt g lb sf sb blk off a b pivot d W eg hless hswap hH hblk hap hpb hb hsz
open Go.RowKit Go.Lib Go.Sort in
/-- sort.partitionEqual_func, from a world to a 'sortWorld' of it. (LAID: no walk: one application.) -/
theorem Tryz.partitionEqual_func_cells_w {α : Type} [Inhabited α] (enc : α → List Value) (k : Nat) (hk : ∀ x, (enc x).length = k) (lt : α → α → Bool) (g : Nat) (lb : Array Value) (sf : Nat) (sb : Array Value) (blk off a b pivot : Nat) (d : Array α) (W : World) (eg : ∀ args w, (callFunc g args).run Tryz.prog w = .ok (.enter g args) w) (hless : LessReadsK Tryz.prog g lb enc k lt blk off d.size W) (hswap : SwapSwapsK Tryz.prog sf sb enc k blk off d.size) (hH : HoldsK enc k W blk off d) (hblk : blk < W.heap.size) (hap : a ≤ pivot) (hpb : pivot < b) (hb : b ≤ d.size) (hsz : d.size < 4611686018427387904) :
    Calls Tryz.prog 131 #[.agg #[.func (.func g) #[] lb, .func (.func sf) #[] sb], .int .i64 a, .int .i64 b, .int .i64 pivot] W fun e w' => e = .returned (.int .i64 (Sort.partitionEqual lt d a b pivot).1) ∧ ∃ n os, w' = sortWorldK enc k W blk off n (Sort.partitionEqual lt d a b pivot).2 os := Any.partitionEqual_func_cells_w Tryz.laysGg32 enc k hk lt g lb sf sb blk off a b pivot d W eg hless hswap hH hblk hap hpb hb hsz
open Go.RowKit Go.Lib Go.Sort in
/-- sort.partition_func, from a world to a 'sortWorld' of it. (LAID: no walk: one application.) -/
theorem Tryz.partition_func_cells_w {α : Type} [Inhabited α] (enc : α → List Value) (k : Nat) (hk : ∀ x, (enc x).length = k) (lt : α → α → Bool) (g : Nat) (lb : Array Value) (sf : Nat) (sb : Array Value) (blk off a b pivot : Nat) (d : Array α) (W : World) (eg : ∀ args w, (callFunc g args).run Tryz.prog w = .ok (.enter g args) w) (hless : LessReadsK Tryz.prog g lb enc k lt blk off d.size W) (hswap : SwapSwapsK Tryz.prog sf sb enc k blk off d.size) (hH : HoldsK enc k W blk off d) (hblk : blk < W.heap.size) (hap : a ≤ pivot) (hpb : pivot < b) (hb : b ≤ d.size) (hsz : d.size < 4611686018427387904) :
    Calls Tryz.prog 132 #[.agg #[.func (.func g) #[] lb, .func (.func sf) #[] sb], .int .i64 a, .int .i64 b, .int .i64 pivot] W fun e w' => e = .returned (.tuple #[.int .i64 (Sort.partition lt d a b pivot).1, .bool (Sort.partition lt d a b pivot).2.1]) ∧ ∃ n os, w' = sortWorldK enc k W blk off n (Sort.partition lt d a b pivot).2.2 os := Any.partition_func_cells_w Tryz.laysGg33 enc k hk lt g lb sf sb blk off a b pivot d W eg hless hswap hH hblk hap hpb hb hsz
open Go.RowKit Go.Lib Go.Sort in
theorem Tryz.pdqsort_func_cells_all {α : Type} [Inhabited α] (enc : α → List Value) (k : Nat) (hk : ∀ x, (enc x).length = k) (lt : α → α → Bool) (hO : SWO lt) (g : Nat) (lb : Array Value) (sf : Nat) (sb : Array Value) (eg : ∀ args w, (callFunc g args).run Tryz.prog w = .ok (.enter g args) w) :
    ∀ (N blk off a b limit : Nat) (d : Array α) (w : World), b - a < N → LessReadsK Tryz.prog g lb enc k lt blk off d.size w → SwapSwapsK Tryz.prog sf sb enc k blk off d.size → HoldsK enc k w blk off d → blk < w.heap.size → a ≤ b → b ≤ d.size → d.size < 4611686018427387904 → limit < 4611686018427387904 → Below lt a b d →
    Calls Tryz.prog 105 #[.agg #[.func (.func g) #[] lb, .func (.func sf) #[] sb], .int .i64 a, .int .i64 b, .int .i64 limit] w fun e w' => e = .returned (.tuple #[]) ∧ AtK enc k w blk off (pdq lt d a b limit true true) w' := Any.pdqsort_func_cells_all Tryz.laysGg14 enc k hk lt hO g lb sf sb eg
end Go.Proofs
