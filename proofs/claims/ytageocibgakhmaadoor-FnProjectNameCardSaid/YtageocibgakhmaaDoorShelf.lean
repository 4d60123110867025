/-
  DERIVED: THE SHELF's CONTRACTS AT THIS DUMP, IN PLAIN WORDS (tools/lay-plain.mjs out of 'TrydShelf.lean', which tools/lay-shelf.mjs wrote): THE SAME DECLARATIONS UNDER THE SAME NAMES: 'import', 'namespace', 'open', 'def', 'theorem' AND NOTHING ELSE: no command of the shelf's: FOR A HAND-IN. Each laying: the table of numbers ('.._ren') and one theorem, a field a fact of the dump's own or the kernel's comparison; each contract: ONE APPLICATION.
-/
import Derived.Shelf.Strings.Builder1
import Derived.Shelf.Strings.Builder2
import Derived.Shelf.Strings.OnBuilder
import Derived.Shelf.Small.Utf8
import Derived.Shelf.Strings.BuilderF
import Derived.Shelf.Strings.Builder2Cap
import Derived.Shelf.Strconv.Itoa0
import Derived.Shelf.Strconv.Itoa1
import Derived.Shelf.LaysM
import Derived.Shelf.Strconv.Itoa2
import Derived.Shelf.Strconv.Itoa3
import Derived.Shelf.Unicode.Latin
import Derived.Shelf.Unicode.Props
import Derived.Shelf.Unicode.Decode
import Derived.Shelf.Unicode.DecodeSlow
import Derived.Shelf.Unicode.DecodeAny
import Derived.Shelf.Unicode.Is16White
import Derived.Shelf.Unicode.IsSpaceAny
import Derived.Shelf.Unicode.CaseLookup
import Derived.Shelf.Unicode.CaseConvert
import Derived.Shelf.Unicode.CaseTo
import Derived.Shelf.Unicode.CaseLaid
import Derived.Shelf.Unicode.Is16Any
import Derived.Shelf.Unicode.Is32Any
import Derived.Shelf.Unicode.ExclAny
import Derived.Shelf.Unicode.PredsAny
import Derived.Test.YtageocibgakhmaaDoorProg
namespace Go.Proofs
open Go.Shelf
def Tryd.lays169_ren : Go.Shelf.Ren := ⟨fun | 169 => 51 | n => n, fun | 70 => 94 | 9 => 9 | 0 => 0 | 72 => 96 | 37 => 60 | 127 => 113 | 3 => 3 | 5 => 5 | n => n, fun | n => n⟩
theorem Tryd.lays169 : Go.Proofs.Lays.n169 Tryd.prog Tryd.lays169_ren := {
  mixed := by kernel_rfl
  f169 := Tryd.func51.trans (congrArg some (by kernel_rfl))
  t0 := Tryd.underlying0
  a0 := Tryd.isAgg0
  z0 := Tryd.sizeOf0
  v0 := Tryd.zeroValue0
  t3 := Tryd.underlying3
  a3 := Tryd.isAgg3
  z3 := Tryd.sizeOf3
  v3 := Tryd.zeroValue3
  t9 := Tryd.underlying9
  a9 := Tryd.isAgg9
  z9 := Tryd.sizeOf9
  v9 := Tryd.zeroValue9
  t37 := Tryd.underlying60
  a37 := Tryd.isAgg60
  z37 := Tryd.sizeOf60
  v37 := Tryd.zeroValue60
  t70 := Tryd.underlying94
  a70 := Tryd.isAgg94
  z70 := Tryd.sizeOf94
  v70 := Tryd.zeroValue94
  t72 := Tryd.underlying96
  a72 := Tryd.isAgg96
  z72 := Tryd.sizeOf96
  v72 := Tryd.zeroValue96
  t127 := Tryd.underlying113
  a127 := Tryd.isAgg113
  z127 := Tryd.sizeOf113
  v127 := Tryd.zeroValue113 }
theorem Tryd.Builder_Extra_169 : Builder.Extra Tryd.prog Tryd.lays169_ren := {
  sizeBuilder := by kernel_rfl
  liesBuilder := by kernel_rfl
  t5 := Tryd.underlying5
  a5 := Tryd.isAgg5
  z5 := Tryd.sizeOf5
  v5 := Tryd.zeroValue5
  infoByte := by kernel_rfl
  cellsByte := by kernel_rfl
  sizeByte := by kernel_rfl
  neB5 := by decide }
open Go.RowKit in
/-- (*strings.Builder).String: "String returns the accumulated string.": OF A BUILDER THAT HOLDS AT LEAST ONE BYTE. ✋ THE MODEL FREEZES THOSE BYTES IN THE BUFFER (unsafe.String): a later write INTO them ends the model's run without an answer; a later append BEHIND them goes on. The statement's order of evaluation is drawn: one draw. (LAID: no walk: one application.) -/
theorem Tryd.Builder_String (B b : Nat) (l : List UInt8) (w : World) (h : Lib.IsBuilder 96 5 B b (Lib.byteCells l) w) (h0 : l ≠ []) :
    Calls Tryd.prog 51 #[.pointer (some ⟨b, 0, none⟩)] w fun e w' => e = .returned (.string ⟨l.toArray⟩) ∧ Below B w w' := Any.Builder_String Tryd.lays169 Tryd.Builder_Extra_169 B b l w h h0
open Go.RowKit in
/-- (*strings.Builder).String OF A BUILDER THAT HOLDS NO BYTE: the empty string. (Its buffer is nil, or a row of which it has taken nothing yet; where that row has NO capacity the model lays one new block for unsafe.SliceData's 'some address'.) One draw. (LAID: no walk: one application.) -/
theorem Tryd.Builder_String_empty (B b : Nat) (w : World) (h : Lib.IsBuilder 96 5 B b [] w) (hBw : B ≤ w.heap.size) :
    Calls Tryd.prog 51 #[.pointer (some ⟨b, 0, none⟩)] w fun e w' => e = .returned (.string ⟨#[]⟩) ∧ Below B w w' := Any.Builder_String_empty Tryd.lays169 Tryd.Builder_Extra_169 B b w h hBw
open Go.RowKit in
/-- (*strings.Builder).String: "String returns the accumulated string.": WHATEVER THE BUILDER HOLDS. (LAID: no walk: one application.) -/
theorem Tryd.Builder_String_any (B b : Nat) (l : List UInt8) (w : World) (h : Lib.IsBuilder 96 5 B b (Lib.byteCells l) w) (hBw : B ≤ w.heap.size) :
    Calls Tryd.prog 51 #[.pointer (some ⟨b, 0, none⟩)] w fun e w' => e = .returned (.string ⟨l.toArray⟩) ∧ Below B w w' := Any.Builder_String_any Tryd.lays169 Tryd.Builder_Extra_169 B b l w h hBw
def Tryd.lays241_ren : Go.Shelf.Ren := ⟨fun | 241 => 63 | 277 => 76 | n => n, fun | 70 => 94 | 3 => 3 | 0 => 0 | 72 => 96 | 37 => 60 | 5 => 5 | n => n, fun | n => n⟩
theorem Tryd.lays241 : Go.Proofs.Lays.n241 Tryd.prog Tryd.lays241_ren := {
  mixed := by kernel_rfl
  f241 := Tryd.func63.trans (congrArg some (by kernel_rfl))
  f277 := Tryd.func76.trans (congrArg some (by kernel_rfl))
  t0 := Tryd.underlying0
  a0 := Tryd.isAgg0
  z0 := Tryd.sizeOf0
  v0 := Tryd.zeroValue0
  t3 := Tryd.underlying3
  a3 := Tryd.isAgg3
  z3 := Tryd.sizeOf3
  v3 := Tryd.zeroValue3
  t37 := Tryd.underlying60
  a37 := Tryd.isAgg60
  z37 := Tryd.sizeOf60
  v37 := Tryd.zeroValue60
  t70 := Tryd.underlying94
  a70 := Tryd.isAgg94
  z70 := Tryd.sizeOf94
  v70 := Tryd.zeroValue94
  t72 := Tryd.underlying96
  a72 := Tryd.isAgg96
  z72 := Tryd.sizeOf96
  v72 := Tryd.zeroValue96 }
theorem Tryd.Builder_Extra_241 : Builder.Extra Tryd.prog Tryd.lays241_ren := {
  sizeBuilder := by kernel_rfl
  liesBuilder := by kernel_rfl
  t5 := Tryd.underlying5
  a5 := Tryd.isAgg5
  z5 := Tryd.sizeOf5
  v5 := Tryd.zeroValue5
  infoByte := by kernel_rfl
  cellsByte := by kernel_rfl
  sizeByte := by kernel_rfl
  neB5 := by decide }
open Go.RowKit in
/-- (*strings.Builder).grow (no doc but "grow copies the buffer to a new, larger buffer so that there are at least n bytes of capacity beyond len(b.buf)."): AT A BUILDER WITHOUT A BUFFER: a new row of whatever bytes for its buffer, none of them its own yet. Three draws. (LAID: no walk: one application.) -/
theorem Tryd.Builder_grow_fresh (B b n : Nat) (w : World) (hB : B ≤ b) (hbk : w.heap[b]? = some (.cells #[.pointer (some ⟨b, 0, none⟩), .slice none 0 0] 96 (0, 0))) (hBw : B ≤ w.heap.size) (hn : n ≤ 281474976710656) :
    Calls Tryd.prog 63 #[.pointer (some ⟨b, 0, none⟩), .int .i64 n] w fun e w' => e = .returned (.tuple #[]) ∧ (Lib.BuilderAt 96 5 B b (.pointer (some ⟨b, 0, none⟩)) [] w' ∧ Below B w w') := Any.Builder_grow_fresh Tryd.lays241 Tryd.Builder_Extra_241 B b n w hB hbk hBw hn
def Tryd.lays165_ren : Go.Shelf.Ren := ⟨fun | 165 => 48 | 240 => 62 | 241 => 63 | 276 => 75 | 277 => 76 | n => n, fun | 70 => 94 | 3 => 3 | 0 => 0 | 4 => 4 | 9 => 9 | 20 => 20 | 72 => 96 | 37 => 60 | 164 => 125 | 5 => 5 | n => n, fun | n => n⟩
theorem Tryd.lays165 : Go.Proofs.Lays.n165 Tryd.prog Tryd.lays165_ren := {
  mixed := by kernel_rfl
  f165 := Tryd.func48.trans (congrArg some (by kernel_rfl))
  f240 := Tryd.func62.trans (congrArg some (by kernel_rfl))
  f241 := Tryd.func63.trans (congrArg some (by kernel_rfl))
  f276 := Tryd.func75.trans (congrArg some (by kernel_rfl))
  f277 := Tryd.func76.trans (congrArg some (by kernel_rfl))
  t0 := Tryd.underlying0
  a0 := Tryd.isAgg0
  z0 := Tryd.sizeOf0
  v0 := Tryd.zeroValue0
  t3 := Tryd.underlying3
  a3 := Tryd.isAgg3
  z3 := Tryd.sizeOf3
  v3 := Tryd.zeroValue3
  t4 := Tryd.underlying4
  a4 := Tryd.isAgg4
  z4 := Tryd.sizeOf4
  v4 := Tryd.zeroValue4
  t9 := Tryd.underlying9
  a9 := Tryd.isAgg9
  z9 := Tryd.sizeOf9
  v9 := Tryd.zeroValue9
  t20 := Tryd.underlying20
  a20 := Tryd.isAgg20
  z20 := Tryd.sizeOf20
  v20 := Tryd.zeroValue20
  t37 := Tryd.underlying60
  a37 := Tryd.isAgg60
  z37 := Tryd.sizeOf60
  v37 := Tryd.zeroValue60
  t70 := Tryd.underlying94
  a70 := Tryd.isAgg94
  z70 := Tryd.sizeOf94
  v70 := Tryd.zeroValue94
  t72 := Tryd.underlying96
  a72 := Tryd.isAgg96
  z72 := Tryd.sizeOf96
  v72 := Tryd.zeroValue96
  t164 := Tryd.underlying125
  a164 := Tryd.isAgg125
  z164 := Tryd.sizeOf125
  v164 := Tryd.zeroValue125 }
theorem Tryd.Builder_Extra_165 : Builder.Extra Tryd.prog Tryd.lays165_ren := {
  sizeBuilder := by kernel_rfl
  liesBuilder := by kernel_rfl
  t5 := Tryd.underlying5
  a5 := Tryd.isAgg5
  z5 := Tryd.sizeOf5
  v5 := Tryd.zeroValue5
  infoByte := by kernel_rfl
  cellsByte := by kernel_rfl
  sizeByte := by kernel_rfl
  neB5 := by decide }
open Go.RowKit in
/-- (*strings.Builder).Grow AT A BUILDER THAT HAS NOT BEEN WRITTEN ('var b strings.Builder; b.Grow(n)'): "Grow grows b's capacity, if necessary, to guarantee space for another n bytes.": it holds no byte behind it as before it. (LAID: no walk: one application.) -/
theorem Tryd.Builder_Grow_fresh (B b n : Nat) (w : World) (hB : B ≤ b) (hbk : w.heap[b]? = some (.cells #[.pointer none, .slice none 0 0] 96 (0, 0))) (hBw : B ≤ w.heap.size) (hn : n ≤ 281474976710656) :
    Calls Tryd.prog 48 #[.pointer (some ⟨b, 0, none⟩), .int .i64 n] w fun e w' => e = .returned (.tuple #[]) ∧ (Lib.BuilderAt 96 5 B b (.pointer (some ⟨b, 0, none⟩)) [] w' ∧ Below B w w') := Any.Builder_Grow_fresh Tryd.lays165 Tryd.Builder_Extra_165 B b n w hB hbk hBw hn
def Tryd.lays159_ren : Go.Shelf.Ren := ⟨fun | 159 => 36 | 165 => 48 | 166 => 49 | 167 => 50 | 169 => 51 | 230 => 52 | 204 => 53 | 240 => 62 | 241 => 63 | 197 => 60 | 118 => 64 | 168 => 65 | 270 => 66 | 262 => 67 | 276 => 75 | 277 => 76 | 260 => 73 | 242 => 77 | 313 => 78 | 278 => 85 | 274 => 86 | 275 => 87 | n => n, fun | 9 => 9 | 4 => 4 | 3 => 3 | 5 => 5 | 72 => 96 | 0 => 0 | 76 => 98 | 75 => 54 | 107 => 103 | 70 => 94 | 20 => 20 | 37 => 60 | 127 => 113 | 21 => 21 | 105 => 111 | 164 => 125 | 162 => 131 | 203 => 129 | 119 => 119 | 46 => 143 | 139 => 146 | 138 => 145 | 51 => 118 | 160 => 153 | 208 => 167 | 206 => 165 | 80 => 101 | n => n, fun | 13 => 2 | 3 => 3 | 4 => 4 | n => n⟩
theorem Tryd.lays159 : Go.Proofs.Lays.n159 Tryd.prog Tryd.lays159_ren := {
  mixed := by kernel_rfl
  f118 := Tryd.func64.trans (congrArg some (by kernel_rfl))
  f159 := Tryd.func36.trans (congrArg some (by kernel_rfl))
  f165 := Tryd.func48.trans (congrArg some (by kernel_rfl))
  f166 := Tryd.func49.trans (congrArg some (by kernel_rfl))
  f167 := Tryd.func50.trans (congrArg some (by kernel_rfl))
  f168 := Tryd.func65.trans (congrArg some (by kernel_rfl))
  f169 := Tryd.func51.trans (congrArg some (by kernel_rfl))
  f197 := Tryd.func60.trans (congrArg some (by kernel_rfl))
  f204 := Tryd.func53.trans (congrArg some (by kernel_rfl))
  f230 := Tryd.func52.trans (congrArg some (by kernel_rfl))
  f240 := Tryd.func62.trans (congrArg some (by kernel_rfl))
  f241 := Tryd.func63.trans (congrArg some (by kernel_rfl))
  f242 := Tryd.func77.trans (congrArg some (by kernel_rfl))
  f260 := Tryd.func73.trans (congrArg some (by kernel_rfl))
  f262 := Tryd.func67.trans (congrArg some (by kernel_rfl))
  f270 := Tryd.func66.trans (congrArg some (by kernel_rfl))
  f274 := Tryd.func86.trans (congrArg some (by kernel_rfl))
  f275 := Tryd.func87.trans (congrArg some (by kernel_rfl))
  f276 := Tryd.func75.trans (congrArg some (by kernel_rfl))
  f277 := Tryd.func76.trans (congrArg some (by kernel_rfl))
  f278 := Tryd.func85.trans (congrArg some (by kernel_rfl))
  f313 := Tryd.func78.trans (congrArg some (by kernel_rfl))
  t0 := Tryd.underlying0
  a0 := Tryd.isAgg0
  z0 := Tryd.sizeOf0
  v0 := Tryd.zeroValue0
  t3 := Tryd.underlying3
  a3 := Tryd.isAgg3
  z3 := Tryd.sizeOf3
  v3 := Tryd.zeroValue3
  t4 := Tryd.underlying4
  a4 := Tryd.isAgg4
  z4 := Tryd.sizeOf4
  v4 := Tryd.zeroValue4
  t5 := Tryd.underlying5
  a5 := Tryd.isAgg5
  z5 := Tryd.sizeOf5
  v5 := Tryd.zeroValue5
  t9 := Tryd.underlying9
  a9 := Tryd.isAgg9
  z9 := Tryd.sizeOf9
  v9 := Tryd.zeroValue9
  t20 := Tryd.underlying20
  a20 := Tryd.isAgg20
  z20 := Tryd.sizeOf20
  v20 := Tryd.zeroValue20
  t21 := Tryd.underlying21
  a21 := Tryd.isAgg21
  z21 := Tryd.sizeOf21
  v21 := Tryd.zeroValue21
  t37 := Tryd.underlying60
  a37 := Tryd.isAgg60
  z37 := Tryd.sizeOf60
  v37 := Tryd.zeroValue60
  t46 := Tryd.underlying143
  a46 := Tryd.isAgg143
  z46 := Tryd.sizeOf143
  v46 := Tryd.zeroValue143
  t51 := Tryd.underlying118
  a51 := Tryd.isAgg118
  z51 := Tryd.sizeOf118
  v51 := Tryd.zeroValue118
  t70 := Tryd.underlying94
  a70 := Tryd.isAgg94
  z70 := Tryd.sizeOf94
  v70 := Tryd.zeroValue94
  t72 := Tryd.underlying96
  a72 := Tryd.isAgg96
  z72 := Tryd.sizeOf96
  v72 := Tryd.zeroValue96
  t75 := Tryd.underlying54
  a75 := Tryd.isAgg54
  z75 := Tryd.sizeOf54
  v75 := Tryd.zeroValue54
  t76 := Tryd.underlying98
  a76 := Tryd.isAgg98
  z76 := Tryd.sizeOf98
  v76 := Tryd.zeroValue98
  t105 := Tryd.underlying111
  a105 := Tryd.isAgg111
  z105 := Tryd.sizeOf111
  v105 := Tryd.zeroValue111
  t107 := Tryd.underlying103
  a107 := Tryd.isAgg103
  z107 := Tryd.sizeOf103
  v107 := Tryd.zeroValue103
  t119 := Tryd.underlying119
  a119 := Tryd.isAgg119
  z119 := Tryd.sizeOf119
  t127 := Tryd.underlying113
  a127 := Tryd.isAgg113
  z127 := Tryd.sizeOf113
  v127 := Tryd.zeroValue113
  t138 := Tryd.underlying145
  a138 := Tryd.isAgg145
  z138 := Tryd.sizeOf145
  v138 := Tryd.zeroValue145
  t139 := Tryd.underlying146
  a139 := Tryd.isAgg146
  z139 := Tryd.sizeOf146
  v139 := Tryd.zeroValue146
  t160 := Tryd.underlying153
  a160 := Tryd.isAgg153
  z160 := Tryd.sizeOf153
  v160 := Tryd.zeroValue153
  t162 := Tryd.underlying131
  a162 := Tryd.isAgg131
  z162 := Tryd.sizeOf131
  v162 := Tryd.zeroValue131
  t164 := Tryd.underlying125
  a164 := Tryd.isAgg125
  z164 := Tryd.sizeOf125
  v164 := Tryd.zeroValue125
  t203 := Tryd.underlying129
  a203 := Tryd.isAgg129
  z203 := Tryd.sizeOf129
  v203 := Tryd.zeroValue129
  t206 := Tryd.underlying165
  a206 := Tryd.isAgg165
  z206 := Tryd.sizeOf165
  v206 := Tryd.zeroValue165
  t208 := Tryd.underlying167
  a208 := Tryd.isAgg167
  z208 := Tryd.sizeOf167
  v208 := Tryd.zeroValue167
  g3 := by kernel_rfl
  g4 := by kernel_rfl
  g13 := by kernel_rfl }
theorem Tryd.Builder_Extra_159 : Builder.Extra Tryd.prog Tryd.lays159_ren := {
  sizeBuilder := by kernel_rfl
  liesBuilder := by kernel_rfl
  t5 := Tryd.underlying5
  a5 := Tryd.isAgg5
  z5 := Tryd.sizeOf5
  v5 := Tryd.zeroValue5
  infoByte := by kernel_rfl
  cellsByte := by kernel_rfl
  sizeByte := by kernel_rfl
  neB5 := by decide }
open Go.RowKit in
/-- strings.ToLower: "ToLower returns s with all Unicode letters mapped to their lower case.": ON ASCII TEXT OF AT MOST 2^47 BYTES. Below the heap's end the world is as it was: where a letter turns, the call makes a builder and its buffer. (LAID: no walk: one application.) -/
theorem Tryd.strings_ToLower_ascii (s : ByteArray) (w : World) (hs : s.size ≤ 140737488355328) (hascii : ∀ (j : Nat) (b : UInt8), s.data.toList[j]? = some b → b.toNat < 128) :
    Calls Tryd.prog 36 #[.string s] w fun e w' => e = .returned (.string ⟨(Lib.toLowerA s.data.toList).toArray⟩) ∧ Below w.heap.size w w' := Any.strings_ToLower_ascii Tryd.lays159 Tryd.Builder_Extra_159 s w hs hascii
def Tryd.lays156_ren : Go.Shelf.Ren := ⟨fun | 156 => 47 | 165 => 48 | 166 => 49 | 169 => 51 | 240 => 62 | 241 => 63 | 276 => 75 | 277 => 76 | n => n, fun | 31 => 25 | 9 => 9 | 3 => 3 | 4 => 4 | 0 => 0 | 20 => 20 | 72 => 96 | 76 => 98 | 70 => 94 | 37 => 60 | 75 => 54 | 127 => 113 | 164 => 125 | 5 => 5 | 80 => 101 | n => n, fun | n => n⟩
theorem Tryd.lays156 : Go.Proofs.Lays.n156 Tryd.prog Tryd.lays156_ren := {
  mixed := by kernel_rfl
  f156 := Tryd.func47.trans (congrArg some (by kernel_rfl))
  f165 := Tryd.func48.trans (congrArg some (by kernel_rfl))
  f166 := Tryd.func49.trans (congrArg some (by kernel_rfl))
  f169 := Tryd.func51.trans (congrArg some (by kernel_rfl))
  f240 := Tryd.func62.trans (congrArg some (by kernel_rfl))
  f241 := Tryd.func63.trans (congrArg some (by kernel_rfl))
  f276 := Tryd.func75.trans (congrArg some (by kernel_rfl))
  f277 := Tryd.func76.trans (congrArg some (by kernel_rfl))
  t0 := Tryd.underlying0
  a0 := Tryd.isAgg0
  z0 := Tryd.sizeOf0
  v0 := Tryd.zeroValue0
  t3 := Tryd.underlying3
  a3 := Tryd.isAgg3
  z3 := Tryd.sizeOf3
  v3 := Tryd.zeroValue3
  t4 := Tryd.underlying4
  a4 := Tryd.isAgg4
  z4 := Tryd.sizeOf4
  v4 := Tryd.zeroValue4
  t9 := Tryd.underlying9
  a9 := Tryd.isAgg9
  z9 := Tryd.sizeOf9
  v9 := Tryd.zeroValue9
  t20 := Tryd.underlying20
  a20 := Tryd.isAgg20
  z20 := Tryd.sizeOf20
  v20 := Tryd.zeroValue20
  t31 := Tryd.underlying25
  a31 := Tryd.isAgg25
  z31 := Tryd.sizeOf25
  v31 := Tryd.zeroValue25
  t37 := Tryd.underlying60
  a37 := Tryd.isAgg60
  z37 := Tryd.sizeOf60
  v37 := Tryd.zeroValue60
  t70 := Tryd.underlying94
  a70 := Tryd.isAgg94
  z70 := Tryd.sizeOf94
  v70 := Tryd.zeroValue94
  t72 := Tryd.underlying96
  a72 := Tryd.isAgg96
  z72 := Tryd.sizeOf96
  v72 := Tryd.zeroValue96
  t75 := Tryd.underlying54
  a75 := Tryd.isAgg54
  z75 := Tryd.sizeOf54
  v75 := Tryd.zeroValue54
  t76 := Tryd.underlying98
  a76 := Tryd.isAgg98
  z76 := Tryd.sizeOf98
  v76 := Tryd.zeroValue98
  t127 := Tryd.underlying113
  a127 := Tryd.isAgg113
  z127 := Tryd.sizeOf113
  v127 := Tryd.zeroValue113
  t164 := Tryd.underlying125
  a164 := Tryd.isAgg125
  z164 := Tryd.sizeOf125
  v164 := Tryd.zeroValue125 }
theorem Tryd.Builder_Extra_156 : Builder.Extra Tryd.prog Tryd.lays156_ren := {
  sizeBuilder := by kernel_rfl
  liesBuilder := by kernel_rfl
  t5 := Tryd.underlying5
  a5 := Tryd.isAgg5
  z5 := Tryd.sizeOf5
  v5 := Tryd.zeroValue5
  infoByte := by kernel_rfl
  cellsByte := by kernel_rfl
  sizeByte := by kernel_rfl
  neB5 := by decide }
open Go.RowKit in
/-- No element: the empty string; the world is as it was. (Whatever the slice's address and capacity: a nil slice too.) (LAID: no walk: one application.) -/
theorem Tryd.strings_Join_none (a : Option Addr) (c : Nat) (sep : ByteArray) (w : World) :
    Calls Tryd.prog 47 #[.slice a 0 c, .string sep] w fun e w' => e = .returned (.string ⟨#[]⟩) ∧ w' = w := Any.strings_Join_none Tryd.lays156 Tryd.Builder_Extra_156 a c sep w
open Go.RowKit in
/-- strings.Join: "Join concatenates the elements of its first argument to create a single string. The separator string sep is placed between elements in the resulting string.": HOWEVER MANY ELEMENTS. Below the heap's end the world is as it was. (LAID: no walk: one application.) -/
theorem Tryd.strings_Join (bk o c : Nat) (xs : List ByteArray) (sep : ByteArray) (w : World) (hcells : ∀ (j : Nat) x, xs[j]? = some x → w.cell? ⟨bk, o + j, none⟩ = some (.string x)) (hbk : bk < w.heap.size) (hN : xs.length ≤ 140737488355328) (hcap : xs.length ≤ c) (hlen : (Lib.join (xs.map (·.data.toList)) sep.data.toList).length ≤ 140737488355328) :
    Calls Tryd.prog 47 #[.slice (some ⟨bk, o, none⟩) xs.length c, .string sep] w fun e w' => e = .returned (.string ⟨(Lib.join (xs.map (·.data.toList)) sep.data.toList).toArray⟩) ∧ Below w.heap.size w w' := Any.strings_Join Tryd.lays156 Tryd.Builder_Extra_156 bk o c xs sep w hcells hbk hN hcap hlen
def Tryd.lays118_ren : Go.Shelf.Ren := ⟨fun | 118 => 64 | n => n, fun | 21 => 21 | 3 => 3 | 4 => 4 | n => n, fun | n => n⟩
theorem Tryd.lays118 : Go.Proofs.Lays.n118 Tryd.prog Tryd.lays118_ren := {
  mixed := by kernel_rfl
  f118 := Tryd.func64.trans (congrArg some (by kernel_rfl))
  t3 := Tryd.underlying3
  a3 := Tryd.isAgg3
  z3 := Tryd.sizeOf3
  v3 := Tryd.zeroValue3
  t4 := Tryd.underlying4
  a4 := Tryd.isAgg4
  z4 := Tryd.sizeOf4
  v4 := Tryd.zeroValue4
  t21 := Tryd.underlying21
  a21 := Tryd.isAgg21
  z21 := Tryd.sizeOf21
  v21 := Tryd.zeroValue21 }
/-- utf8.RuneLen: "RuneLen returns the number of bytes in the UTF-8 encoding of the rune. It returns -1 if the rune is not a valid value to encode in UTF-8.": IT RETURNS 'Lib.runeLen r'; the world is as it was. (LAID: no walk: one application.) -/
theorem Tryd.utf8_RuneLen (r : Int) (w : World) :
    Calls Tryd.prog 64 #[.int .i32 r] w fun e w' => e = .returned (.int .i64 (Lib.runeLen r)) ∧ w' = w := Any.utf8_RuneLen Tryd.lays118 r w
open Go.RowKit in
/-- (*strings.Builder).String: "String returns the accumulated string.": OF A BUILDER THAT HOLDS AT LEAST ONE BYTE. ✋ THE MODEL FREEZES THOSE BYTES IN THE BUFFER (unsafe.String): a later write INTO them ends the model's run without an answer; a later append BEHIND them goes on. The statement's order of evaluation is drawn: one draw. THE FORM '_f': IT SAYS BESIDES THAT THE BUILDER IS A BUILDER STILL ('Lib.IsBuilderF', the same bytes): SO IT CAN BE WRITTEN ON: 'b.WriteString(b.String()[:k])'. (LAID: no walk: one application.) -/
theorem Tryd.Builder_String_f (B b : Nat) (l : List UInt8) (w : World) (h : Lib.IsBuilderF 96 5 B b (Lib.byteCells l) w) (h0 : l ≠ []) :
    Calls Tryd.prog 51 #[.pointer (some ⟨b, 0, none⟩)] w fun e w' => e = .returned (.string ⟨l.toArray⟩) ∧ (Lib.IsBuilderF 96 5 B b (Lib.byteCells l) w' ∧ Below B w w') := Any.Builder_String_f Tryd.lays169 Tryd.Builder_Extra_169 B b l w h h0
open Go.RowKit in
/-- (*strings.Builder).String OF A BUILDER THAT HOLDS NO BYTE: the empty string; THE FORM '_f': a builder still. (LAID: no walk: one application.) -/
theorem Tryd.Builder_String_empty_f (B b : Nat) (w : World) (h : Lib.IsBuilderF 96 5 B b [] w) (hBw : B ≤ w.heap.size) :
    Calls Tryd.prog 51 #[.pointer (some ⟨b, 0, none⟩)] w fun e w' => e = .returned (.string ⟨#[]⟩) ∧ (Lib.IsBuilderF 96 5 B b [] w' ∧ Below B w w') := Any.Builder_String_empty_f Tryd.lays169 Tryd.Builder_Extra_169 B b w h hBw
open Go.RowKit in
/-- (*strings.Builder).String: "String returns the accumulated string.": WHATEVER THE BUILDER HOLDS; THE FORM '_f': OF A BUILDER THAT MAY HAVE BEEN READ BEFORE; AND IT IS A BUILDER STILL, holding the same bytes: it can be written on. (LAID: no walk: one application.) -/
theorem Tryd.Builder_String_any_f (B b : Nat) (l : List UInt8) (w : World) (h : Lib.IsBuilderF 96 5 B b (Lib.byteCells l) w) (hBw : B ≤ w.heap.size) :
    Calls Tryd.prog 51 #[.pointer (some ⟨b, 0, none⟩)] w fun e w' => e = .returned (.string ⟨l.toArray⟩) ∧ (Lib.IsBuilderF 96 5 B b (Lib.byteCells l) w' ∧ Below B w w') := Any.Builder_String_any_f Tryd.lays169 Tryd.Builder_Extra_169 B b l w h hBw
open Go.RowKit in
/-- (*strings.Builder).grow (no doc but "grow copies the buffer to a new, larger buffer so that there are at least n bytes of capacity beyond len(b.buf)."): AT A BUILDER WITHOUT A BUFFER: a new row of whatever bytes for its buffer, none of them its own yet. Three draws. (LAID: no walk: one application.) -/
theorem Tryd.Builder_grow_fresh_cap (B b n : Nat) (w : World) (hB : B ≤ b) (hbk : w.heap[b]? = some (.cells #[.pointer (some ⟨b, 0, none⟩), .slice none 0 0] 96 (0, 0))) (hBw : B ≤ w.heap.size) (hn : n ≤ 281474976710656) :
    Calls Tryd.prog 63 #[.pointer (some ⟨b, 0, none⟩), .int .i64 n] w fun e w' => e = .returned (.tuple #[]) ∧ (Lib.BuilderAt 96 5 B b (.pointer (some ⟨b, 0, none⟩)) [] w' ∧ Below B w w') ∧ ∃ p cap, w'.cell? ⟨b, 1, none⟩ = some (.slice p 0 cap) ∧ n ≤ cap := Any.Builder_grow_fresh_cap Tryd.lays241 Tryd.Builder_Extra_241 B b n w hB hbk hBw hn
open Go.RowKit in
/-- (*strings.Builder).Grow AT A BUILDER THAT HAS NOT BEEN WRITTEN ('var b strings.Builder; b.Grow(n)'): "Grow grows b's capacity, if necessary, to guarantee space for another n bytes.": it holds no byte behind it as before it. (LAID: no walk: one application.) -/
theorem Tryd.Builder_Grow_fresh_cap (B b n : Nat) (w : World) (hB : B ≤ b) (hbk : w.heap[b]? = some (.cells #[.pointer none, .slice none 0 0] 96 (0, 0))) (hBw : B ≤ w.heap.size) (hn : n ≤ 281474976710656) :
    Calls Tryd.prog 48 #[.pointer (some ⟨b, 0, none⟩), .int .i64 n] w fun e w' => e = .returned (.tuple #[]) ∧ (Lib.BuilderAt 96 5 B b (.pointer (some ⟨b, 0, none⟩)) [] w' ∧ Below B w w') ∧ ∃ p cap, w'.cell? ⟨b, 1, none⟩ = some (.slice p 0 cap) ∧ n ≤ cap := Any.Builder_Grow_fresh_cap Tryd.lays165 Tryd.Builder_Extra_165 B b n w hB hbk hBw hn
def Tryd.lays129_ren : Go.Shelf.Ren := ⟨fun | 129 => 89 | n => n, fun | 53 => 148 | 3 => 3 | 4 => 4 | 46 => 143 | 5 => 5 | 9 => 9 | n => n, fun | n => n⟩
theorem Tryd.lays129 : Go.Proofs.Lays.n129 Tryd.prog Tryd.lays129_ren := {
  mixed := by kernel_rfl
  f129 := Tryd.func89.trans (congrArg some (by kernel_rfl))
  t3 := Tryd.underlying3
  a3 := Tryd.isAgg3
  z3 := Tryd.sizeOf3
  v3 := Tryd.zeroValue3
  t4 := Tryd.underlying4
  a4 := Tryd.isAgg4
  z4 := Tryd.sizeOf4
  v4 := Tryd.zeroValue4
  t5 := Tryd.underlying5
  a5 := Tryd.isAgg5
  z5 := Tryd.sizeOf5
  v5 := Tryd.zeroValue5
  t9 := Tryd.underlying9
  a9 := Tryd.isAgg9
  z9 := Tryd.sizeOf9
  v9 := Tryd.zeroValue9
  t46 := Tryd.underlying143
  a46 := Tryd.isAgg143
  z46 := Tryd.sizeOf143
  v46 := Tryd.zeroValue143
  t53 := Tryd.underlying148
  a53 := Tryd.isAgg148
  z53 := Tryd.sizeOf148
  v53 := Tryd.zeroValue148 }
/-- bits.Len64: "Len64 returns the minimum number of bits required to represent x; the result is 0 for x == 0.": IT RETURNS 'Lib.bitLen x'; the world is as it was. ('h0', 'h1': x is a uint64.) (LAID: no walk: one application.) -/
theorem Tryd.bits_Len64 (x : Int) (w : World) (h0 : 0 ≤ x) (h1 : x ≤ 18446744073709551615) :
    Calls Tryd.prog 89 #[.int .u64 x] w fun e w' => e = .returned (.int .i64 (Lib.bitLen x.toNat)) ∧ w' = w := Any.bits_Len64 Tryd.lays129 x w h0 h1
def Tryd.lays317_ren : Go.Shelf.Ren := ⟨fun | 317 => 88 | n => n, fun | 3 => 3 | 46 => 143 | n => n, fun | n => n⟩
theorem Tryd.lays317 : Go.Proofs.Lays.n317 Tryd.prog Tryd.lays317_ren := {
  mixed := by kernel_rfl
  f317 := Tryd.func88.trans (congrArg some (by kernel_rfl))
  t3 := Tryd.underlying3
  a3 := Tryd.isAgg3
  z3 := Tryd.sizeOf3
  v3 := Tryd.zeroValue3
  t46 := Tryd.underlying143
  a46 := Tryd.isAgg143
  z46 := Tryd.sizeOf143
  v46 := Tryd.zeroValue143 }
open Go.Lib in
/-- internal/strconv.log10Pow2: "log10Pow2(x) returns ⌊log₁₀ 2**x⌋ = ⌊x * log₁₀ 2⌋.": '(x * 78913) >> 18', at an x up to 64 (a length in bits). The world is as it was. (LAID: no walk: one application.) -/
theorem Tryd.internal_strconv_log10Pow2 (x : Nat) (h : x ≤ 64) (w : World) :
    Calls Tryd.prog 88 #[.int .i64 x] w fun e w' => e = .returned (.int .i64 (Lib.l10 x)) ∧ w' = w := Any.internal_strconv_log10Pow2 Tryd.lays317 x h w
def Tryd.lays318_ren : Go.Shelf.Ren := ⟨fun | 318 => 90 | n => n, fun | 3 => 3 | 4 => 4 | n => n, fun | n => n⟩
theorem Tryd.lays318 : Go.Proofs.Lays.n318 Tryd.prog Tryd.lays318_ren := {
  mixed := by kernel_rfl
  f318 := Tryd.func90.trans (congrArg some (by kernel_rfl))
  t3 := Tryd.underlying3
  a3 := Tryd.isAgg3
  z3 := Tryd.sizeOf3
  v3 := Tryd.zeroValue3
  t4 := Tryd.underlying4
  a4 := Tryd.isAgg4
  z4 := Tryd.sizeOf4
  v4 := Tryd.zeroValue4 }
open Go.Lib in
/-- internal/strconv.bool2: "bool2 converts b to an integer: 1 for true, 0 for false." The world is as it was. (LAID: no walk: one application.) -/
theorem Tryd.internal_strconv_bool2_int (b : Bool) (w : World) :
    Calls Tryd.prog 90 #[.bool b] w fun e w' => e = .returned (.int .i64 (if b then 1 else 0)) ∧ w' = w := Any.internal_strconv_bool2_int Tryd.lays318 b w
def Tryd.lays283_ren : Go.Shelf.Ren := ⟨fun | 283 => 81 | n => n, fun | 3 => 3 | 9 => 9 | 4 => 4 | n => n, fun | n => n⟩
theorem Tryd.lays283 : Go.Proofs.Lays.n283 Tryd.prog Tryd.lays283_ren := {
  mixed := by kernel_rfl
  f283 := Tryd.func81.trans (congrArg some (by kernel_rfl))
  t3 := Tryd.underlying3
  a3 := Tryd.isAgg3
  z3 := Tryd.sizeOf3
  v3 := Tryd.zeroValue3
  t4 := Tryd.underlying4
  a4 := Tryd.isAgg4
  z4 := Tryd.sizeOf4
  v4 := Tryd.zeroValue4
  t9 := Tryd.underlying9
  a9 := Tryd.isAgg9
  z9 := Tryd.sizeOf9
  v9 := Tryd.zeroValue9 }
open Go.Lib in
/-- internal/strconv.small: "small returns the string for an i with 0 <= i < nSmalls.": i's decimal numeral. The world is as it was. (LAID: no walk: one application.) -/
theorem Tryd.internal_strconv_small (i : Nat) (h : i < 100) (w : World) :
    Calls Tryd.prog 81 #[.int .i64 i] w fun e w' => e = .returned (.string ⟨(Lib.decDigits i).toArray⟩) ∧ w' = w := Any.internal_strconv_small Tryd.lays283 i h w
def Tryd.laysM284_ren : Go.Shelf.Ren := ⟨fun | 284 => 82 | 129 => 89 | 317 => 88 | 318 => 90 | n => n, fun | 53 => 148 | 3 => 3 | 212 => 160 | 0 => 0 | 4 => 4 | 46 => 143 | 5 => 5 | 9 => 9 | n => n, fun | 17 => 6 | n => n⟩
theorem Tryd.laysM284 : Go.Proofs.LaysM.n284 Tryd.prog Tryd.laysM284_ren := {
  mixed := by kernel_rfl
  f129 := Tryd.func89.trans (congrArg some (by kernel_rfl))
  f284 := Tryd.func82.trans (congrArg some (by kernel_rfl))
  f317 := Tryd.func88.trans (congrArg some (by kernel_rfl))
  f318 := Tryd.func90.trans (congrArg some (by kernel_rfl))
  t0 := Tryd.underlying0
  a0 := Tryd.isAgg0
  z0 := Tryd.sizeOf0
  v0 := Tryd.zeroValue0
  t3 := Tryd.underlying3
  a3 := Tryd.isAgg3
  z3 := Tryd.sizeOf3
  v3 := Tryd.zeroValue3
  t4 := Tryd.underlying4
  a4 := Tryd.isAgg4
  z4 := Tryd.sizeOf4
  v4 := Tryd.zeroValue4
  t5 := Tryd.underlying5
  a5 := Tryd.isAgg5
  z5 := Tryd.sizeOf5
  v5 := Tryd.zeroValue5
  t9 := Tryd.underlying9
  a9 := Tryd.isAgg9
  z9 := Tryd.sizeOf9
  v9 := Tryd.zeroValue9
  t46 := Tryd.underlying143
  a46 := Tryd.isAgg143
  z46 := Tryd.sizeOf143
  v46 := Tryd.zeroValue143
  t53 := Tryd.underlying148
  a53 := Tryd.isAgg148
  z53 := Tryd.sizeOf148
  v53 := Tryd.zeroValue148
  t212 := Tryd.underlying160
  a212 := Tryd.isAgg160
  z212 := Tryd.sizeOf160
  v212 := Tryd.zeroValue160
  g17 := by kernel_rfl
  i0 := by kernel_rfl
  i3 := by kernel_rfl
  i4 := by kernel_rfl
  i5 := by kernel_rfl
  i9 := by kernel_rfl
  i46 := by kernel_rfl
  i53 := by kernel_rfl
  i212 := by kernel_rfl
  m17 := by kernel_rfl }
open Go.Lib in
/-- internal/strconv.numDigits, at a d that is not 0: THE NUMBER OF d's DECIMAL DIGITS. The world is as it was. (LAID: no walk: one application.) -/
theorem Tryd.internal_strconv_numDigits (u : Nat) (h1 : 1 ≤ u) (h2 : u < 18446744073709551616) (w : World) (htab : Lib.TabIs Tryd.prog w "internal/strconv.uint64pow10" .u64 Lib.pow10Tab) :
    Calls Tryd.prog 82 #[.int .u64 u] w fun e w' => e = .returned (.int .i64 (Lib.nDigits u)) ∧ w' = w := Any.internal_strconv_numDigits Tryd.laysM284 u h1 h2 w htab
def Tryd.lays285_ren : Go.Shelf.Ren := ⟨fun | 285 => 83 | n => n, fun | 37 => 60 | 53 => 148 | 3 => 3 | 4 => 4 | 51 => 118 | 9 => 9 | 5 => 5 | 0 => 0 | n => n, fun | n => n⟩
theorem Tryd.lays285 : Go.Proofs.Lays.n285 Tryd.prog Tryd.lays285_ren := {
  mixed := by kernel_rfl
  f285 := Tryd.func83.trans (congrArg some (by kernel_rfl))
  t0 := Tryd.underlying0
  a0 := Tryd.isAgg0
  z0 := Tryd.sizeOf0
  v0 := Tryd.zeroValue0
  t3 := Tryd.underlying3
  a3 := Tryd.isAgg3
  z3 := Tryd.sizeOf3
  v3 := Tryd.zeroValue3
  t4 := Tryd.underlying4
  a4 := Tryd.isAgg4
  z4 := Tryd.sizeOf4
  v4 := Tryd.zeroValue4
  t5 := Tryd.underlying5
  a5 := Tryd.isAgg5
  z5 := Tryd.sizeOf5
  v5 := Tryd.zeroValue5
  t9 := Tryd.underlying9
  a9 := Tryd.isAgg9
  z9 := Tryd.sizeOf9
  v9 := Tryd.zeroValue9
  t37 := Tryd.underlying60
  a37 := Tryd.isAgg60
  z37 := Tryd.sizeOf60
  v37 := Tryd.zeroValue60
  t51 := Tryd.underlying118
  a51 := Tryd.isAgg118
  z51 := Tryd.sizeOf118
  v51 := Tryd.zeroValue118
  t53 := Tryd.underlying148
  a53 := Tryd.isAgg148
  z53 := Tryd.sizeOf148
  v53 := Tryd.zeroValue148 }
open Go.RowKit Go.Sort Go.Lib in
/-- internal/strconv.formatBase10: "formatBase10 formats the decimal representation of u into a. The caller is responsible for ensuring that a is big enough to hold u. If a is too big, leading zeros will be filled in as needed.": THE ROW HOLDS u's DIGITS ('FmtInv .. 0 ..': every place t holds 'dg u (len - 1 - t)'); all else is as it was but for the count of draws. (LAID: no walk: one application.) -/
theorem Tryd.internal_strconv_formatBase10 (blk off cap : Nat) (u : Nat) (d : Array UInt8) (w : World) (hH : Holds (fun (b : UInt8) => Value.int .u8 (b.toNat : Int)) w blk off d) (hu : u < 10 ^ d.size) (hu64 : u < 18446744073709551616) (hsz : d.size < 4611686018427387904) :
    Calls Tryd.prog 83 #[.slice (some ⟨blk, off, none⟩) d.size cap, .int .u64 u] w fun e w' =>
      e = .returned (.tuple #[]) ∧ ∃ (n v' : Nat) (dk : Array UInt8), w' = (putRow (fun (b : UInt8) => Value.int .u8 (b.toNat : Int)) w blk off dk).drewN n ∧ FmtInv d.size u 0 v' dk := Any.internal_strconv_formatBase10 Tryd.lays285 blk off cap u d w hH hu hu64 hsz
def Tryd.laysM246_ren : Go.Shelf.Ren := ⟨fun | 246 => 74 | 283 => 81 | 284 => 82 | 285 => 83 | 286 => 84 | 129 => 89 | 317 => 88 | 318 => 90 | 319 => 91 | 320 => 92 | 337 => 93 | 338 => 94 | n => n, fun | 2 => 2 | 3 => 3 | 9 => 9 | 4 => 4 | 171 => 147 | 0 => 0 | 53 => 148 | 37 => 60 | 5 => 5 | 173 => 151 | 212 => 160 | 51 => 118 | 20 => 20 | 213 => 161 | 46 => 143 | 232 => 169 | 233 => 170 | n => n, fun | 17 => 6 | 18 => 7 | 19 => 8 | n => n⟩
theorem Tryd.laysM246 : Go.Proofs.LaysM.n246 Tryd.prog Tryd.laysM246_ren := {
  mixed := by kernel_rfl
  f129 := Tryd.func89.trans (congrArg some (by kernel_rfl))
  f246 := Tryd.func74.trans (congrArg some (by kernel_rfl))
  f283 := Tryd.func81.trans (congrArg some (by kernel_rfl))
  f284 := Tryd.func82.trans (congrArg some (by kernel_rfl))
  f285 := Tryd.func83.trans (congrArg some (by kernel_rfl))
  f286 := Tryd.func84.trans (congrArg some (by kernel_rfl))
  f317 := Tryd.func88.trans (congrArg some (by kernel_rfl))
  f318 := Tryd.func90.trans (congrArg some (by kernel_rfl))
  f319 := Tryd.func91.trans (congrArg some (by kernel_rfl))
  f320 := Tryd.func92.trans (congrArg some (by kernel_rfl))
  f337 := Tryd.func93.trans (congrArg some (by kernel_rfl))
  f338 := Tryd.func94.trans (congrArg some (by kernel_rfl))
  t0 := Tryd.underlying0
  a0 := Tryd.isAgg0
  z0 := Tryd.sizeOf0
  v0 := Tryd.zeroValue0
  t2 := Tryd.underlying2
  a2 := Tryd.isAgg2
  z2 := Tryd.sizeOf2
  v2 := Tryd.zeroValue2
  t3 := Tryd.underlying3
  a3 := Tryd.isAgg3
  z3 := Tryd.sizeOf3
  v3 := Tryd.zeroValue3
  t4 := Tryd.underlying4
  a4 := Tryd.isAgg4
  z4 := Tryd.sizeOf4
  v4 := Tryd.zeroValue4
  t5 := Tryd.underlying5
  a5 := Tryd.isAgg5
  z5 := Tryd.sizeOf5
  v5 := Tryd.zeroValue5
  t9 := Tryd.underlying9
  a9 := Tryd.isAgg9
  z9 := Tryd.sizeOf9
  v9 := Tryd.zeroValue9
  t20 := Tryd.underlying20
  a20 := Tryd.isAgg20
  z20 := Tryd.sizeOf20
  v20 := Tryd.zeroValue20
  t37 := Tryd.underlying60
  a37 := Tryd.isAgg60
  z37 := Tryd.sizeOf60
  v37 := Tryd.zeroValue60
  t46 := Tryd.underlying143
  a46 := Tryd.isAgg143
  z46 := Tryd.sizeOf143
  v46 := Tryd.zeroValue143
  t51 := Tryd.underlying118
  a51 := Tryd.isAgg118
  z51 := Tryd.sizeOf118
  v51 := Tryd.zeroValue118
  t53 := Tryd.underlying148
  a53 := Tryd.isAgg148
  z53 := Tryd.sizeOf148
  v53 := Tryd.zeroValue148
  t171 := Tryd.underlying147
  a171 := Tryd.isAgg147
  z171 := Tryd.sizeOf147
  v171 := Tryd.zeroValue147
  t173 := Tryd.underlying151
  a173 := Tryd.isAgg151
  z173 := Tryd.sizeOf151
  v173 := Tryd.zeroValue151
  t212 := Tryd.underlying160
  a212 := Tryd.isAgg160
  z212 := Tryd.sizeOf160
  v212 := Tryd.zeroValue160
  t213 := Tryd.underlying161
  a213 := Tryd.isAgg161
  z213 := Tryd.sizeOf161
  t232 := Tryd.underlying169
  a232 := Tryd.isAgg169
  z232 := Tryd.sizeOf169
  v232 := Tryd.zeroValue169
  t233 := Tryd.underlying170
  a233 := Tryd.isAgg170
  z233 := Tryd.sizeOf170
  v233 := Tryd.zeroValue170
  g17 := by kernel_rfl
  g18 := by kernel_rfl
  g19 := by kernel_rfl
  i0 := by kernel_rfl
  i2 := by kernel_rfl
  i3 := by kernel_rfl
  i4 := by kernel_rfl
  i5 := by kernel_rfl
  i9 := by kernel_rfl
  i20 := by kernel_rfl
  i37 := by kernel_rfl
  i46 := by kernel_rfl
  i51 := by kernel_rfl
  i53 := by kernel_rfl
  i171 := by kernel_rfl
  i173 := by kernel_rfl
  i212 := by kernel_rfl
  i232 := by kernel_rfl
  i233 := by kernel_rfl
  m17 := by kernel_rfl
  m18 := by kernel_rfl
  m19 := by kernel_rfl }
open Go.RowKit Go.Sort Go.Lib in
/-- internal/strconv.FormatInt: "FormatInt returns the string representation of i in the given base": AT BASE 10: i's decimal numeral, for every int64. The world behind the call: the world before it, new blocks behind the heap, draws. (LAID: no walk: one application.) -/
theorem Tryd.internal_strconv_FormatInt_10 (n : Int) (h0 : -9223372036854775808 ≤ n) (h1 : n ≤ 9223372036854775807) (w : World) (htab : Lib.TabIs Tryd.prog w "internal/strconv.uint64pow10" .u64 Lib.pow10Tab) :
    Calls Tryd.prog 74 #[.int .i64 n, .int .i64 10] w fun e w' => e = .returned (.string ⟨(Lib.itoa n).toArray⟩) ∧ ∃ k os, w' = grow (w.drewN k) os := Any.internal_strconv_FormatInt_10 Tryd.laysM246 n h0 h1 w htab
def Tryd.lays246_ren : Go.Shelf.Ren := ⟨fun | 246 => 74 | 283 => 81 | 284 => 82 | 285 => 83 | 286 => 84 | 129 => 89 | 317 => 88 | 318 => 90 | 319 => 91 | 320 => 92 | 337 => 93 | 338 => 94 | n => n, fun | 2 => 2 | 3 => 3 | 9 => 9 | 4 => 4 | 171 => 147 | 0 => 0 | 53 => 148 | 37 => 60 | 5 => 5 | 173 => 151 | 212 => 160 | 51 => 118 | 20 => 20 | 213 => 161 | 46 => 143 | 232 => 169 | 233 => 170 | n => n, fun | 17 => 6 | 18 => 7 | 19 => 8 | n => n⟩
theorem Tryd.lays246 : Go.Proofs.Lays.n246 Tryd.prog Tryd.lays246_ren := {
  mixed := by kernel_rfl
  f129 := Tryd.func89.trans (congrArg some (by kernel_rfl))
  f246 := Tryd.func74.trans (congrArg some (by kernel_rfl))
  f283 := Tryd.func81.trans (congrArg some (by kernel_rfl))
  f284 := Tryd.func82.trans (congrArg some (by kernel_rfl))
  f285 := Tryd.func83.trans (congrArg some (by kernel_rfl))
  f286 := Tryd.func84.trans (congrArg some (by kernel_rfl))
  f317 := Tryd.func88.trans (congrArg some (by kernel_rfl))
  f318 := Tryd.func90.trans (congrArg some (by kernel_rfl))
  f319 := Tryd.func91.trans (congrArg some (by kernel_rfl))
  f320 := Tryd.func92.trans (congrArg some (by kernel_rfl))
  f337 := Tryd.func93.trans (congrArg some (by kernel_rfl))
  f338 := Tryd.func94.trans (congrArg some (by kernel_rfl))
  t0 := Tryd.underlying0
  a0 := Tryd.isAgg0
  z0 := Tryd.sizeOf0
  v0 := Tryd.zeroValue0
  t2 := Tryd.underlying2
  a2 := Tryd.isAgg2
  z2 := Tryd.sizeOf2
  v2 := Tryd.zeroValue2
  t3 := Tryd.underlying3
  a3 := Tryd.isAgg3
  z3 := Tryd.sizeOf3
  v3 := Tryd.zeroValue3
  t4 := Tryd.underlying4
  a4 := Tryd.isAgg4
  z4 := Tryd.sizeOf4
  v4 := Tryd.zeroValue4
  t5 := Tryd.underlying5
  a5 := Tryd.isAgg5
  z5 := Tryd.sizeOf5
  v5 := Tryd.zeroValue5
  t9 := Tryd.underlying9
  a9 := Tryd.isAgg9
  z9 := Tryd.sizeOf9
  v9 := Tryd.zeroValue9
  t20 := Tryd.underlying20
  a20 := Tryd.isAgg20
  z20 := Tryd.sizeOf20
  v20 := Tryd.zeroValue20
  t37 := Tryd.underlying60
  a37 := Tryd.isAgg60
  z37 := Tryd.sizeOf60
  v37 := Tryd.zeroValue60
  t46 := Tryd.underlying143
  a46 := Tryd.isAgg143
  z46 := Tryd.sizeOf143
  v46 := Tryd.zeroValue143
  t51 := Tryd.underlying118
  a51 := Tryd.isAgg118
  z51 := Tryd.sizeOf118
  v51 := Tryd.zeroValue118
  t53 := Tryd.underlying148
  a53 := Tryd.isAgg148
  z53 := Tryd.sizeOf148
  v53 := Tryd.zeroValue148
  t171 := Tryd.underlying147
  a171 := Tryd.isAgg147
  z171 := Tryd.sizeOf147
  v171 := Tryd.zeroValue147
  t173 := Tryd.underlying151
  a173 := Tryd.isAgg151
  z173 := Tryd.sizeOf151
  v173 := Tryd.zeroValue151
  t212 := Tryd.underlying160
  a212 := Tryd.isAgg160
  z212 := Tryd.sizeOf160
  v212 := Tryd.zeroValue160
  t213 := Tryd.underlying161
  a213 := Tryd.isAgg161
  z213 := Tryd.sizeOf161
  t232 := Tryd.underlying169
  a232 := Tryd.isAgg169
  z232 := Tryd.sizeOf169
  v232 := Tryd.zeroValue169
  t233 := Tryd.underlying170
  a233 := Tryd.isAgg170
  z233 := Tryd.sizeOf170
  v233 := Tryd.zeroValue170
  g17 := by kernel_rfl
  g18 := by kernel_rfl
  g19 := by kernel_rfl }
open Go.RowKit Go.Sort Go.Lib in
/-- THE ROAD WITHOUT THE TABLE: 0 <= i < 100: two constants are read, nothing is laid: no premise on the world, and the world is as it was. (LAID: no walk: one application.) -/
theorem Tryd.internal_strconv_FormatInt_10_small (i : Nat) (hi : i < 100) (w : World) :
    Calls Tryd.prog 74 #[.int .i64 i, .int .i64 10] w fun e w' => e = .returned (.string ⟨(Lib.decDigits i).toArray⟩) ∧ w' = w := Any.internal_strconv_FormatInt_10_small Tryd.lays246 i hi w
def Tryd.laysM243_ren : Go.Shelf.Ren := ⟨fun | 243 => 61 | 246 => 74 | 283 => 81 | 284 => 82 | 285 => 83 | 286 => 84 | 129 => 89 | 317 => 88 | 318 => 90 | 319 => 91 | 320 => 92 | 337 => 93 | 338 => 94 | n => n, fun | 3 => 3 | 9 => 9 | 2 => 2 | 4 => 4 | 171 => 147 | 0 => 0 | 53 => 148 | 37 => 60 | 5 => 5 | 173 => 151 | 212 => 160 | 51 => 118 | 20 => 20 | 213 => 161 | 46 => 143 | 232 => 169 | 233 => 170 | n => n, fun | 17 => 6 | 18 => 7 | 19 => 8 | n => n⟩
theorem Tryd.laysM243 : Go.Proofs.LaysM.n243 Tryd.prog Tryd.laysM243_ren := {
  mixed := by kernel_rfl
  f129 := Tryd.func89.trans (congrArg some (by kernel_rfl))
  f243 := Tryd.func61.trans (congrArg some (by kernel_rfl))
  f246 := Tryd.func74.trans (congrArg some (by kernel_rfl))
  f283 := Tryd.func81.trans (congrArg some (by kernel_rfl))
  f284 := Tryd.func82.trans (congrArg some (by kernel_rfl))
  f285 := Tryd.func83.trans (congrArg some (by kernel_rfl))
  f286 := Tryd.func84.trans (congrArg some (by kernel_rfl))
  f317 := Tryd.func88.trans (congrArg some (by kernel_rfl))
  f318 := Tryd.func90.trans (congrArg some (by kernel_rfl))
  f319 := Tryd.func91.trans (congrArg some (by kernel_rfl))
  f320 := Tryd.func92.trans (congrArg some (by kernel_rfl))
  f337 := Tryd.func93.trans (congrArg some (by kernel_rfl))
  f338 := Tryd.func94.trans (congrArg some (by kernel_rfl))
  t0 := Tryd.underlying0
  a0 := Tryd.isAgg0
  z0 := Tryd.sizeOf0
  v0 := Tryd.zeroValue0
  t2 := Tryd.underlying2
  a2 := Tryd.isAgg2
  z2 := Tryd.sizeOf2
  v2 := Tryd.zeroValue2
  t3 := Tryd.underlying3
  a3 := Tryd.isAgg3
  z3 := Tryd.sizeOf3
  v3 := Tryd.zeroValue3
  t4 := Tryd.underlying4
  a4 := Tryd.isAgg4
  z4 := Tryd.sizeOf4
  v4 := Tryd.zeroValue4
  t5 := Tryd.underlying5
  a5 := Tryd.isAgg5
  z5 := Tryd.sizeOf5
  v5 := Tryd.zeroValue5
  t9 := Tryd.underlying9
  a9 := Tryd.isAgg9
  z9 := Tryd.sizeOf9
  v9 := Tryd.zeroValue9
  t20 := Tryd.underlying20
  a20 := Tryd.isAgg20
  z20 := Tryd.sizeOf20
  v20 := Tryd.zeroValue20
  t37 := Tryd.underlying60
  a37 := Tryd.isAgg60
  z37 := Tryd.sizeOf60
  v37 := Tryd.zeroValue60
  t46 := Tryd.underlying143
  a46 := Tryd.isAgg143
  z46 := Tryd.sizeOf143
  v46 := Tryd.zeroValue143
  t51 := Tryd.underlying118
  a51 := Tryd.isAgg118
  z51 := Tryd.sizeOf118
  v51 := Tryd.zeroValue118
  t53 := Tryd.underlying148
  a53 := Tryd.isAgg148
  z53 := Tryd.sizeOf148
  v53 := Tryd.zeroValue148
  t171 := Tryd.underlying147
  a171 := Tryd.isAgg147
  z171 := Tryd.sizeOf147
  v171 := Tryd.zeroValue147
  t173 := Tryd.underlying151
  a173 := Tryd.isAgg151
  z173 := Tryd.sizeOf151
  v173 := Tryd.zeroValue151
  t212 := Tryd.underlying160
  a212 := Tryd.isAgg160
  z212 := Tryd.sizeOf160
  v212 := Tryd.zeroValue160
  t213 := Tryd.underlying161
  a213 := Tryd.isAgg161
  z213 := Tryd.sizeOf161
  t232 := Tryd.underlying169
  a232 := Tryd.isAgg169
  z232 := Tryd.sizeOf169
  v232 := Tryd.zeroValue169
  t233 := Tryd.underlying170
  a233 := Tryd.isAgg170
  z233 := Tryd.sizeOf170
  v233 := Tryd.zeroValue170
  g17 := by kernel_rfl
  g18 := by kernel_rfl
  g19 := by kernel_rfl
  i0 := by kernel_rfl
  i2 := by kernel_rfl
  i3 := by kernel_rfl
  i4 := by kernel_rfl
  i5 := by kernel_rfl
  i9 := by kernel_rfl
  i20 := by kernel_rfl
  i37 := by kernel_rfl
  i46 := by kernel_rfl
  i51 := by kernel_rfl
  i53 := by kernel_rfl
  i171 := by kernel_rfl
  i173 := by kernel_rfl
  i212 := by kernel_rfl
  i232 := by kernel_rfl
  i233 := by kernel_rfl
  m17 := by kernel_rfl
  m18 := by kernel_rfl
  m19 := by kernel_rfl }
open Go.RowKit Go.Sort Go.Lib in
/-- internal/strconv.Itoa: "Itoa is equivalent to FormatInt(int64(i), 10).": i's decimal numeral, for every int. (LAID: no walk: one application.) -/
theorem Tryd.internal_strconv_Itoa (n : Int) (h0 : -9223372036854775808 ≤ n) (h1 : n ≤ 9223372036854775807) (w : World) (htab : Lib.TabIs Tryd.prog w "internal/strconv.uint64pow10" .u64 Lib.pow10Tab) :
    Calls Tryd.prog 61 #[.int .i64 n] w fun e w' => e = .returned (.string ⟨(Lib.itoa n).toArray⟩) ∧ ∃ k os, w' = grow (w.drewN k) os := Any.internal_strconv_Itoa Tryd.laysM243 n h0 h1 w htab
def Tryd.lays243_ren : Go.Shelf.Ren := ⟨fun | 243 => 61 | 246 => 74 | 283 => 81 | 284 => 82 | 285 => 83 | 286 => 84 | 129 => 89 | 317 => 88 | 318 => 90 | 319 => 91 | 320 => 92 | 337 => 93 | 338 => 94 | n => n, fun | 3 => 3 | 9 => 9 | 2 => 2 | 4 => 4 | 171 => 147 | 0 => 0 | 53 => 148 | 37 => 60 | 5 => 5 | 173 => 151 | 212 => 160 | 51 => 118 | 20 => 20 | 213 => 161 | 46 => 143 | 232 => 169 | 233 => 170 | n => n, fun | 17 => 6 | 18 => 7 | 19 => 8 | n => n⟩
theorem Tryd.lays243 : Go.Proofs.Lays.n243 Tryd.prog Tryd.lays243_ren := {
  mixed := by kernel_rfl
  f129 := Tryd.func89.trans (congrArg some (by kernel_rfl))
  f243 := Tryd.func61.trans (congrArg some (by kernel_rfl))
  f246 := Tryd.func74.trans (congrArg some (by kernel_rfl))
  f283 := Tryd.func81.trans (congrArg some (by kernel_rfl))
  f284 := Tryd.func82.trans (congrArg some (by kernel_rfl))
  f285 := Tryd.func83.trans (congrArg some (by kernel_rfl))
  f286 := Tryd.func84.trans (congrArg some (by kernel_rfl))
  f317 := Tryd.func88.trans (congrArg some (by kernel_rfl))
  f318 := Tryd.func90.trans (congrArg some (by kernel_rfl))
  f319 := Tryd.func91.trans (congrArg some (by kernel_rfl))
  f320 := Tryd.func92.trans (congrArg some (by kernel_rfl))
  f337 := Tryd.func93.trans (congrArg some (by kernel_rfl))
  f338 := Tryd.func94.trans (congrArg some (by kernel_rfl))
  t0 := Tryd.underlying0
  a0 := Tryd.isAgg0
  z0 := Tryd.sizeOf0
  v0 := Tryd.zeroValue0
  t2 := Tryd.underlying2
  a2 := Tryd.isAgg2
  z2 := Tryd.sizeOf2
  v2 := Tryd.zeroValue2
  t3 := Tryd.underlying3
  a3 := Tryd.isAgg3
  z3 := Tryd.sizeOf3
  v3 := Tryd.zeroValue3
  t4 := Tryd.underlying4
  a4 := Tryd.isAgg4
  z4 := Tryd.sizeOf4
  v4 := Tryd.zeroValue4
  t5 := Tryd.underlying5
  a5 := Tryd.isAgg5
  z5 := Tryd.sizeOf5
  v5 := Tryd.zeroValue5
  t9 := Tryd.underlying9
  a9 := Tryd.isAgg9
  z9 := Tryd.sizeOf9
  v9 := Tryd.zeroValue9
  t20 := Tryd.underlying20
  a20 := Tryd.isAgg20
  z20 := Tryd.sizeOf20
  v20 := Tryd.zeroValue20
  t37 := Tryd.underlying60
  a37 := Tryd.isAgg60
  z37 := Tryd.sizeOf60
  v37 := Tryd.zeroValue60
  t46 := Tryd.underlying143
  a46 := Tryd.isAgg143
  z46 := Tryd.sizeOf143
  v46 := Tryd.zeroValue143
  t51 := Tryd.underlying118
  a51 := Tryd.isAgg118
  z51 := Tryd.sizeOf118
  v51 := Tryd.zeroValue118
  t53 := Tryd.underlying148
  a53 := Tryd.isAgg148
  z53 := Tryd.sizeOf148
  v53 := Tryd.zeroValue148
  t171 := Tryd.underlying147
  a171 := Tryd.isAgg147
  z171 := Tryd.sizeOf147
  v171 := Tryd.zeroValue147
  t173 := Tryd.underlying151
  a173 := Tryd.isAgg151
  z173 := Tryd.sizeOf151
  v173 := Tryd.zeroValue151
  t212 := Tryd.underlying160
  a212 := Tryd.isAgg160
  z212 := Tryd.sizeOf160
  v212 := Tryd.zeroValue160
  t213 := Tryd.underlying161
  a213 := Tryd.isAgg161
  z213 := Tryd.sizeOf161
  t232 := Tryd.underlying169
  a232 := Tryd.isAgg169
  z232 := Tryd.sizeOf169
  v232 := Tryd.zeroValue169
  t233 := Tryd.underlying170
  a233 := Tryd.isAgg170
  z233 := Tryd.sizeOf170
  v233 := Tryd.zeroValue170
  g17 := by kernel_rfl
  g18 := by kernel_rfl
  g19 := by kernel_rfl }
open Go.RowKit Go.Sort Go.Lib in
/-- THE ROAD WITHOUT THE TABLE: 0 <= i < 100. (LAID: no walk: one application.) -/
theorem Tryd.internal_strconv_Itoa_small (i : Nat) (hi : i < 100) (w : World) :
    Calls Tryd.prog 61 #[.int .i64 i] w fun e w' => e = .returned (.string ⟨(Lib.decDigits i).toArray⟩) ∧ w' = w := Any.internal_strconv_Itoa_small Tryd.lays243 i hi w
def Tryd.laysM171_ren : Go.Shelf.Ren := ⟨fun | 171 => 46 | 243 => 61 | 246 => 74 | 283 => 81 | 284 => 82 | 285 => 83 | 286 => 84 | 129 => 89 | 317 => 88 | 318 => 90 | 319 => 91 | 320 => 92 | 337 => 93 | 338 => 94 | n => n, fun | 3 => 3 | 9 => 9 | 2 => 2 | 4 => 4 | 171 => 147 | 0 => 0 | 53 => 148 | 37 => 60 | 5 => 5 | 173 => 151 | 212 => 160 | 51 => 118 | 20 => 20 | 213 => 161 | 46 => 143 | 232 => 169 | 233 => 170 | n => n, fun | 17 => 6 | 18 => 7 | 19 => 8 | n => n⟩
theorem Tryd.laysM171 : Go.Proofs.LaysM.n171 Tryd.prog Tryd.laysM171_ren := {
  mixed := by kernel_rfl
  f129 := Tryd.func89.trans (congrArg some (by kernel_rfl))
  f171 := Tryd.func46.trans (congrArg some (by kernel_rfl))
  f243 := Tryd.func61.trans (congrArg some (by kernel_rfl))
  f246 := Tryd.func74.trans (congrArg some (by kernel_rfl))
  f283 := Tryd.func81.trans (congrArg some (by kernel_rfl))
  f284 := Tryd.func82.trans (congrArg some (by kernel_rfl))
  f285 := Tryd.func83.trans (congrArg some (by kernel_rfl))
  f286 := Tryd.func84.trans (congrArg some (by kernel_rfl))
  f317 := Tryd.func88.trans (congrArg some (by kernel_rfl))
  f318 := Tryd.func90.trans (congrArg some (by kernel_rfl))
  f319 := Tryd.func91.trans (congrArg some (by kernel_rfl))
  f320 := Tryd.func92.trans (congrArg some (by kernel_rfl))
  f337 := Tryd.func93.trans (congrArg some (by kernel_rfl))
  f338 := Tryd.func94.trans (congrArg some (by kernel_rfl))
  t0 := Tryd.underlying0
  a0 := Tryd.isAgg0
  z0 := Tryd.sizeOf0
  v0 := Tryd.zeroValue0
  t2 := Tryd.underlying2
  a2 := Tryd.isAgg2
  z2 := Tryd.sizeOf2
  v2 := Tryd.zeroValue2
  t3 := Tryd.underlying3
  a3 := Tryd.isAgg3
  z3 := Tryd.sizeOf3
  v3 := Tryd.zeroValue3
  t4 := Tryd.underlying4
  a4 := Tryd.isAgg4
  z4 := Tryd.sizeOf4
  v4 := Tryd.zeroValue4
  t5 := Tryd.underlying5
  a5 := Tryd.isAgg5
  z5 := Tryd.sizeOf5
  v5 := Tryd.zeroValue5
  t9 := Tryd.underlying9
  a9 := Tryd.isAgg9
  z9 := Tryd.sizeOf9
  v9 := Tryd.zeroValue9
  t20 := Tryd.underlying20
  a20 := Tryd.isAgg20
  z20 := Tryd.sizeOf20
  v20 := Tryd.zeroValue20
  t37 := Tryd.underlying60
  a37 := Tryd.isAgg60
  z37 := Tryd.sizeOf60
  v37 := Tryd.zeroValue60
  t46 := Tryd.underlying143
  a46 := Tryd.isAgg143
  z46 := Tryd.sizeOf143
  v46 := Tryd.zeroValue143
  t51 := Tryd.underlying118
  a51 := Tryd.isAgg118
  z51 := Tryd.sizeOf118
  v51 := Tryd.zeroValue118
  t53 := Tryd.underlying148
  a53 := Tryd.isAgg148
  z53 := Tryd.sizeOf148
  v53 := Tryd.zeroValue148
  t171 := Tryd.underlying147
  a171 := Tryd.isAgg147
  z171 := Tryd.sizeOf147
  v171 := Tryd.zeroValue147
  t173 := Tryd.underlying151
  a173 := Tryd.isAgg151
  z173 := Tryd.sizeOf151
  v173 := Tryd.zeroValue151
  t212 := Tryd.underlying160
  a212 := Tryd.isAgg160
  z212 := Tryd.sizeOf160
  v212 := Tryd.zeroValue160
  t213 := Tryd.underlying161
  a213 := Tryd.isAgg161
  z213 := Tryd.sizeOf161
  t232 := Tryd.underlying169
  a232 := Tryd.isAgg169
  z232 := Tryd.sizeOf169
  v232 := Tryd.zeroValue169
  t233 := Tryd.underlying170
  a233 := Tryd.isAgg170
  z233 := Tryd.sizeOf170
  v233 := Tryd.zeroValue170
  g17 := by kernel_rfl
  g18 := by kernel_rfl
  g19 := by kernel_rfl
  i0 := by kernel_rfl
  i2 := by kernel_rfl
  i3 := by kernel_rfl
  i4 := by kernel_rfl
  i5 := by kernel_rfl
  i9 := by kernel_rfl
  i20 := by kernel_rfl
  i37 := by kernel_rfl
  i46 := by kernel_rfl
  i51 := by kernel_rfl
  i53 := by kernel_rfl
  i171 := by kernel_rfl
  i173 := by kernel_rfl
  i212 := by kernel_rfl
  i232 := by kernel_rfl
  i233 := by kernel_rfl
  m17 := by kernel_rfl
  m18 := by kernel_rfl
  m19 := by kernel_rfl }
open Go.RowKit Go.Sort Go.Lib in
/-- strconv.Itoa: "Itoa is equivalent to FormatInt(int64(i), 10).": i's DECIMAL NUMERAL ('Lib.itoa': a '-' where i is negative, then the digits), FOR EVERY int. The world behind the call: the world before it, new blocks behind the heap (the library's 'var a [24]byte'), draws. (LAID: no walk: one application.) -/
theorem Tryd.strconv_Itoa (n : Int) (h0 : -9223372036854775808 ≤ n) (h1 : n ≤ 9223372036854775807) (w : World) (htab : Lib.TabIs Tryd.prog w "internal/strconv.uint64pow10" .u64 Lib.pow10Tab) :
    Calls Tryd.prog 46 #[.int .i64 n] w fun e w' => e = .returned (.string ⟨(Lib.itoa n).toArray⟩) ∧ ∃ k os, w' = grow (w.drewN k) os := Any.strconv_Itoa Tryd.laysM171 n h0 h1 w htab
def Tryd.lays171_ren : Go.Shelf.Ren := ⟨fun | 171 => 46 | 243 => 61 | 246 => 74 | 283 => 81 | 284 => 82 | 285 => 83 | 286 => 84 | 129 => 89 | 317 => 88 | 318 => 90 | 319 => 91 | 320 => 92 | 337 => 93 | 338 => 94 | n => n, fun | 3 => 3 | 9 => 9 | 2 => 2 | 4 => 4 | 171 => 147 | 0 => 0 | 53 => 148 | 37 => 60 | 5 => 5 | 173 => 151 | 212 => 160 | 51 => 118 | 20 => 20 | 213 => 161 | 46 => 143 | 232 => 169 | 233 => 170 | n => n, fun | 17 => 6 | 18 => 7 | 19 => 8 | n => n⟩
theorem Tryd.lays171 : Go.Proofs.Lays.n171 Tryd.prog Tryd.lays171_ren := {
  mixed := by kernel_rfl
  f129 := Tryd.func89.trans (congrArg some (by kernel_rfl))
  f171 := Tryd.func46.trans (congrArg some (by kernel_rfl))
  f243 := Tryd.func61.trans (congrArg some (by kernel_rfl))
  f246 := Tryd.func74.trans (congrArg some (by kernel_rfl))
  f283 := Tryd.func81.trans (congrArg some (by kernel_rfl))
  f284 := Tryd.func82.trans (congrArg some (by kernel_rfl))
  f285 := Tryd.func83.trans (congrArg some (by kernel_rfl))
  f286 := Tryd.func84.trans (congrArg some (by kernel_rfl))
  f317 := Tryd.func88.trans (congrArg some (by kernel_rfl))
  f318 := Tryd.func90.trans (congrArg some (by kernel_rfl))
  f319 := Tryd.func91.trans (congrArg some (by kernel_rfl))
  f320 := Tryd.func92.trans (congrArg some (by kernel_rfl))
  f337 := Tryd.func93.trans (congrArg some (by kernel_rfl))
  f338 := Tryd.func94.trans (congrArg some (by kernel_rfl))
  t0 := Tryd.underlying0
  a0 := Tryd.isAgg0
  z0 := Tryd.sizeOf0
  v0 := Tryd.zeroValue0
  t2 := Tryd.underlying2
  a2 := Tryd.isAgg2
  z2 := Tryd.sizeOf2
  v2 := Tryd.zeroValue2
  t3 := Tryd.underlying3
  a3 := Tryd.isAgg3
  z3 := Tryd.sizeOf3
  v3 := Tryd.zeroValue3
  t4 := Tryd.underlying4
  a4 := Tryd.isAgg4
  z4 := Tryd.sizeOf4
  v4 := Tryd.zeroValue4
  t5 := Tryd.underlying5
  a5 := Tryd.isAgg5
  z5 := Tryd.sizeOf5
  v5 := Tryd.zeroValue5
  t9 := Tryd.underlying9
  a9 := Tryd.isAgg9
  z9 := Tryd.sizeOf9
  v9 := Tryd.zeroValue9
  t20 := Tryd.underlying20
  a20 := Tryd.isAgg20
  z20 := Tryd.sizeOf20
  v20 := Tryd.zeroValue20
  t37 := Tryd.underlying60
  a37 := Tryd.isAgg60
  z37 := Tryd.sizeOf60
  v37 := Tryd.zeroValue60
  t46 := Tryd.underlying143
  a46 := Tryd.isAgg143
  z46 := Tryd.sizeOf143
  v46 := Tryd.zeroValue143
  t51 := Tryd.underlying118
  a51 := Tryd.isAgg118
  z51 := Tryd.sizeOf118
  v51 := Tryd.zeroValue118
  t53 := Tryd.underlying148
  a53 := Tryd.isAgg148
  z53 := Tryd.sizeOf148
  v53 := Tryd.zeroValue148
  t171 := Tryd.underlying147
  a171 := Tryd.isAgg147
  z171 := Tryd.sizeOf147
  v171 := Tryd.zeroValue147
  t173 := Tryd.underlying151
  a173 := Tryd.isAgg151
  z173 := Tryd.sizeOf151
  v173 := Tryd.zeroValue151
  t212 := Tryd.underlying160
  a212 := Tryd.isAgg160
  z212 := Tryd.sizeOf160
  v212 := Tryd.zeroValue160
  t213 := Tryd.underlying161
  a213 := Tryd.isAgg161
  z213 := Tryd.sizeOf161
  t232 := Tryd.underlying169
  a232 := Tryd.isAgg169
  z232 := Tryd.sizeOf169
  v232 := Tryd.zeroValue169
  t233 := Tryd.underlying170
  a233 := Tryd.isAgg170
  z233 := Tryd.sizeOf170
  v233 := Tryd.zeroValue170
  g17 := by kernel_rfl
  g18 := by kernel_rfl
  g19 := by kernel_rfl }
open Go.RowKit Go.Sort Go.Lib in
/-- THE ROAD WITHOUT THE TABLE: 0 <= i < 100: NO PREMISE ON THE WORLD, AND THE WORLD IS AS IT WAS: a row that keeps its argument in that range need list no table ('laid = []'). (LAID: no walk: one application.) -/
theorem Tryd.strconv_Itoa_small (i : Nat) (hi : i < 100) (w : World) :
    Calls Tryd.prog 46 #[.int .i64 i] w fun e w' => e = .returned (.string ⟨(Lib.decDigits i).toArray⟩) ∧ w' = w := Any.strconv_Itoa_small Tryd.lays171 i hi w
def Tryd.lays204_ren : Go.Shelf.Ren := ⟨fun | 204 => 53 | 262 => 67 | 313 => 78 | 274 => 86 | 275 => 87 | n => n, fun | 21 => 21 | 4 => 4 | 3 => 3 | 162 => 131 | 203 => 129 | 160 => 153 | 46 => 143 | 0 => 0 | 208 => 167 | 51 => 118 | 206 => 165 | n => n, fun | 13 => 2 | n => n⟩
theorem Tryd.lays204 : Go.Proofs.Lays.n204 Tryd.prog Tryd.lays204_ren := {
  mixed := by kernel_rfl
  f204 := Tryd.func53.trans (congrArg some (by kernel_rfl))
  f262 := Tryd.func67.trans (congrArg some (by kernel_rfl))
  f274 := Tryd.func86.trans (congrArg some (by kernel_rfl))
  f275 := Tryd.func87.trans (congrArg some (by kernel_rfl))
  f313 := Tryd.func78.trans (congrArg some (by kernel_rfl))
  t0 := Tryd.underlying0
  a0 := Tryd.isAgg0
  z0 := Tryd.sizeOf0
  v0 := Tryd.zeroValue0
  t3 := Tryd.underlying3
  a3 := Tryd.isAgg3
  z3 := Tryd.sizeOf3
  v3 := Tryd.zeroValue3
  t4 := Tryd.underlying4
  a4 := Tryd.isAgg4
  z4 := Tryd.sizeOf4
  v4 := Tryd.zeroValue4
  t21 := Tryd.underlying21
  a21 := Tryd.isAgg21
  z21 := Tryd.sizeOf21
  v21 := Tryd.zeroValue21
  t46 := Tryd.underlying143
  a46 := Tryd.isAgg143
  z46 := Tryd.sizeOf143
  v46 := Tryd.zeroValue143
  t51 := Tryd.underlying118
  a51 := Tryd.isAgg118
  z51 := Tryd.sizeOf118
  v51 := Tryd.zeroValue118
  t160 := Tryd.underlying153
  a160 := Tryd.isAgg153
  z160 := Tryd.sizeOf153
  v160 := Tryd.zeroValue153
  t162 := Tryd.underlying131
  a162 := Tryd.isAgg131
  z162 := Tryd.sizeOf131
  v162 := Tryd.zeroValue131
  t203 := Tryd.underlying129
  a203 := Tryd.isAgg129
  z203 := Tryd.sizeOf129
  v203 := Tryd.zeroValue129
  t206 := Tryd.underlying165
  a206 := Tryd.isAgg165
  z206 := Tryd.sizeOf165
  v206 := Tryd.zeroValue165
  t208 := Tryd.underlying167
  a208 := Tryd.isAgg167
  z208 := Tryd.sizeOf167
  v208 := Tryd.zeroValue167
  g13 := by kernel_rfl }
open Go.RowKit Go.Lib in
theorem Tryd.unicode_ToLower (r : Int) (w : World) (h : r ≤ 127) :
    Calls Tryd.prog 53 #[.int .i32 r] w fun e w' => e = .returned (.int .i32 (Lib.toLowerR r)) ∧ w' = w := Any.unicode_ToLower Tryd.lays204 r w h
def Tryd.lays200_ren : Go.Shelf.Ren := ⟨fun | 200 => 55 | 261 => 68 | 311 => 79 | 312 => 80 | n => n, fun | 21 => 21 | 4 => 4 | 51 => 118 | 5 => 5 | 119 => 119 | 0 => 0 | 141 => 121 | 196 => 135 | 193 => 132 | 3 => 3 | 198 => 138 | 49 => 136 | 194 => 133 | 201 => 141 | 226 => 156 | 46 => 143 | 227 => 157 | n => n, fun | 7 => 0 | 8 => 1 | n => n⟩
theorem Tryd.lays200 : Go.Proofs.Lays.n200 Tryd.prog Tryd.lays200_ren := {
  mixed := by kernel_rfl
  f200 := Tryd.func55.trans (congrArg some (by kernel_rfl))
  f261 := Tryd.func68.trans (congrArg some (by kernel_rfl))
  f311 := Tryd.func79.trans (congrArg some (by kernel_rfl))
  f312 := Tryd.func80.trans (congrArg some (by kernel_rfl))
  t0 := Tryd.underlying0
  a0 := Tryd.isAgg0
  z0 := Tryd.sizeOf0
  v0 := Tryd.zeroValue0
  t3 := Tryd.underlying3
  a3 := Tryd.isAgg3
  z3 := Tryd.sizeOf3
  v3 := Tryd.zeroValue3
  t4 := Tryd.underlying4
  a4 := Tryd.isAgg4
  z4 := Tryd.sizeOf4
  v4 := Tryd.zeroValue4
  t5 := Tryd.underlying5
  a5 := Tryd.isAgg5
  z5 := Tryd.sizeOf5
  v5 := Tryd.zeroValue5
  t21 := Tryd.underlying21
  a21 := Tryd.isAgg21
  z21 := Tryd.sizeOf21
  v21 := Tryd.zeroValue21
  t46 := Tryd.underlying143
  a46 := Tryd.isAgg143
  z46 := Tryd.sizeOf143
  v46 := Tryd.zeroValue143
  t49 := Tryd.underlying136
  a49 := Tryd.isAgg136
  z49 := Tryd.sizeOf136
  v49 := Tryd.zeroValue136
  t51 := Tryd.underlying118
  a51 := Tryd.isAgg118
  z51 := Tryd.sizeOf118
  v51 := Tryd.zeroValue118
  t119 := Tryd.underlying119
  a119 := Tryd.isAgg119
  z119 := Tryd.sizeOf119
  t141 := Tryd.underlying121
  a141 := Tryd.isAgg121
  z141 := Tryd.sizeOf121
  v141 := Tryd.zeroValue121
  t193 := Tryd.underlying132
  a193 := Tryd.isAgg132
  z193 := Tryd.sizeOf132
  v193 := Tryd.zeroValue132
  t194 := Tryd.underlying133
  a194 := Tryd.isAgg133
  z194 := Tryd.sizeOf133
  v194 := Tryd.zeroValue133
  t196 := Tryd.underlying135
  a196 := Tryd.isAgg135
  z196 := Tryd.sizeOf135
  v196 := Tryd.zeroValue135
  t198 := Tryd.underlying138
  a198 := Tryd.isAgg138
  z198 := Tryd.sizeOf138
  v198 := Tryd.zeroValue138
  t201 := Tryd.underlying141
  a201 := Tryd.isAgg141
  z201 := Tryd.sizeOf141
  v201 := Tryd.zeroValue141
  t226 := Tryd.underlying156
  a226 := Tryd.isAgg156
  z226 := Tryd.sizeOf156
  v226 := Tryd.zeroValue156
  t227 := Tryd.underlying157
  a227 := Tryd.isAgg157
  z227 := Tryd.sizeOf157
  v227 := Tryd.zeroValue157
  g7 := by kernel_rfl
  g8 := by kernel_rfl }
open Go.RowKit Go.Lib in
theorem Tryd.unicode_IsLetter (c : Nat) (w : World) (hc : c < 256) (htab : Lib.TabIs Tryd.prog w "unicode.properties" .u8 Lib.propertiesTab) :
    Calls Tryd.prog 55 #[.int .i32 c] w fun e w' => e = .returned (.bool (Lib.isLetterL c)) ∧ w' = w := Any.unicode_IsLetter Tryd.lays200 (by kernel_rfl) c w hc htab
def Tryd.lays197_ren : Go.Shelf.Ren := ⟨fun | 197 => 60 | 260 => 73 | n => n, fun | 9 => 9 | 21 => 21 | 3 => 3 | 4 => 4 | 5 => 5 | 105 => 111 | 119 => 119 | 0 => 0 | 46 => 143 | 139 => 146 | 138 => 145 | n => n, fun | 3 => 3 | 4 => 4 | n => n⟩
theorem Tryd.lays197 : Go.Proofs.Lays.n197 Tryd.prog Tryd.lays197_ren := {
  mixed := by kernel_rfl
  f197 := Tryd.func60.trans (congrArg some (by kernel_rfl))
  f260 := Tryd.func73.trans (congrArg some (by kernel_rfl))
  t0 := Tryd.underlying0
  a0 := Tryd.isAgg0
  z0 := Tryd.sizeOf0
  v0 := Tryd.zeroValue0
  t3 := Tryd.underlying3
  a3 := Tryd.isAgg3
  z3 := Tryd.sizeOf3
  v3 := Tryd.zeroValue3
  t4 := Tryd.underlying4
  a4 := Tryd.isAgg4
  z4 := Tryd.sizeOf4
  v4 := Tryd.zeroValue4
  t5 := Tryd.underlying5
  a5 := Tryd.isAgg5
  z5 := Tryd.sizeOf5
  v5 := Tryd.zeroValue5
  t9 := Tryd.underlying9
  a9 := Tryd.isAgg9
  z9 := Tryd.sizeOf9
  v9 := Tryd.zeroValue9
  t21 := Tryd.underlying21
  a21 := Tryd.isAgg21
  z21 := Tryd.sizeOf21
  v21 := Tryd.zeroValue21
  t46 := Tryd.underlying143
  a46 := Tryd.isAgg143
  z46 := Tryd.sizeOf143
  v46 := Tryd.zeroValue143
  t105 := Tryd.underlying111
  a105 := Tryd.isAgg111
  z105 := Tryd.sizeOf111
  v105 := Tryd.zeroValue111
  t119 := Tryd.underlying119
  a119 := Tryd.isAgg119
  z119 := Tryd.sizeOf119
  t138 := Tryd.underlying145
  a138 := Tryd.isAgg145
  z138 := Tryd.sizeOf145
  v138 := Tryd.zeroValue145
  t139 := Tryd.underlying146
  a139 := Tryd.isAgg146
  z139 := Tryd.sizeOf146
  v139 := Tryd.zeroValue146
  g3 := by kernel_rfl
  g4 := by kernel_rfl }
open Go.RowKit Go.Lib in
/-- unicode/utf8.DecodeRuneInString: "DecodeRuneInString is like DecodeRune but its input is a string.": ("DecodeRune unpacks the first UTF-8 encoding in p and returns the rune and its width in bytes."): WHERE s BEGINS WITH AN ASCII BYTE x: (x, 1). (LAID: no walk: one application.) -/
theorem Tryd.utf8_DecodeRuneInString_ascii (s : ByteArray) (x : UInt8) (w : World) (h0 : s.data.toList[0]? = some x) (hx : x.toNat < 128) :
    Calls Tryd.prog 60 #[.string s] w fun e w' => e = .returned (.tuple #[.int .i32 x.toNat, .int .i64 1]) ∧ w' = w := Any.utf8_DecodeRuneInString_ascii Tryd.lays197 s x w h0 hx
def Tryd.lays260_ren : Go.Shelf.Ren := ⟨fun | 260 => 73 | n => n, fun | 9 => 9 | 21 => 21 | 3 => 3 | 4 => 4 | 5 => 5 | 119 => 119 | 0 => 0 | 46 => 143 | 139 => 146 | 138 => 145 | n => n, fun | 3 => 3 | 4 => 4 | n => n⟩
theorem Tryd.lays260 : Go.Proofs.Lays.n260 Tryd.prog Tryd.lays260_ren := {
  mixed := by kernel_rfl
  f260 := Tryd.func73.trans (congrArg some (by kernel_rfl))
  t0 := Tryd.underlying0
  a0 := Tryd.isAgg0
  z0 := Tryd.sizeOf0
  v0 := Tryd.zeroValue0
  t3 := Tryd.underlying3
  a3 := Tryd.isAgg3
  z3 := Tryd.sizeOf3
  v3 := Tryd.zeroValue3
  t4 := Tryd.underlying4
  a4 := Tryd.isAgg4
  z4 := Tryd.sizeOf4
  v4 := Tryd.zeroValue4
  t5 := Tryd.underlying5
  a5 := Tryd.isAgg5
  z5 := Tryd.sizeOf5
  v5 := Tryd.zeroValue5
  t9 := Tryd.underlying9
  a9 := Tryd.isAgg9
  z9 := Tryd.sizeOf9
  v9 := Tryd.zeroValue9
  t21 := Tryd.underlying21
  a21 := Tryd.isAgg21
  z21 := Tryd.sizeOf21
  v21 := Tryd.zeroValue21
  t46 := Tryd.underlying143
  a46 := Tryd.isAgg143
  z46 := Tryd.sizeOf143
  v46 := Tryd.zeroValue143
  t119 := Tryd.underlying119
  a119 := Tryd.isAgg119
  z119 := Tryd.sizeOf119
  t138 := Tryd.underlying145
  a138 := Tryd.isAgg145
  z138 := Tryd.sizeOf145
  v138 := Tryd.zeroValue145
  t139 := Tryd.underlying146
  a139 := Tryd.isAgg146
  z139 := Tryd.sizeOf146
  v139 := Tryd.zeroValue146
  g3 := by kernel_rfl
  g4 := by kernel_rfl }
open Go.RowKit Go.Lib in
theorem Tryd.utf8_decodeRuneInStringSlow (s : ByteArray) (w : World) (hT : Lib.Utf8Tabs 3 4 w) :
    Calls Tryd.prog 73 #[.string s] w fun e w' => e = .returned (.tuple #[.int .i32 (Lib.decodeGo s).1, .int .i64 (Lib.decodeGo s).2]) ∧ Below w.heap.size w w' := Any.utf8_decodeRuneInStringSlow Tryd.lays260 s w hT
open Go.RowKit Go.Lib in
/-- **unicode/utf8.DecodeRuneInString AT EVERY STRING.** (LAID: no walk: one application.) -/
theorem Tryd.utf8_DecodeRuneInString (s : ByteArray) (w : World) (hT : Lib.Utf8Tabs 3 4 w) :
    Calls Tryd.prog 60 #[.string s] w fun e w' => e = .returned (.tuple #[.int .i32 (Lib.decodeGo s).1, .int .i64 (Lib.decodeGo s).2]) ∧ Below w.heap.size w w' := Any.utf8_DecodeRuneInString Tryd.lays197 s w hT
def Tryd.lays311_ren : Go.Shelf.Ren := ⟨fun | 311 => 79 | n => n, fun | 193 => 132 | 49 => 136 | 4 => 4 | 3 => 3 | 0 => 0 | 226 => 156 | 198 => 138 | 46 => 143 | n => n, fun | n => n⟩
theorem Tryd.lays311 : Go.Proofs.Lays.n311 Tryd.prog Tryd.lays311_ren := {
  mixed := by kernel_rfl
  f311 := Tryd.func79.trans (congrArg some (by kernel_rfl))
  t0 := Tryd.underlying0
  a0 := Tryd.isAgg0
  z0 := Tryd.sizeOf0
  v0 := Tryd.zeroValue0
  t3 := Tryd.underlying3
  a3 := Tryd.isAgg3
  z3 := Tryd.sizeOf3
  v3 := Tryd.zeroValue3
  t4 := Tryd.underlying4
  a4 := Tryd.isAgg4
  z4 := Tryd.sizeOf4
  v4 := Tryd.zeroValue4
  t46 := Tryd.underlying143
  a46 := Tryd.isAgg143
  z46 := Tryd.sizeOf143
  v46 := Tryd.zeroValue143
  t49 := Tryd.underlying136
  a49 := Tryd.isAgg136
  z49 := Tryd.sizeOf136
  v49 := Tryd.zeroValue136
  t193 := Tryd.underlying132
  a193 := Tryd.isAgg132
  z193 := Tryd.sizeOf132
  v193 := Tryd.zeroValue132
  t198 := Tryd.underlying138
  a198 := Tryd.isAgg138
  z198 := Tryd.sizeOf138
  v198 := Tryd.zeroValue138
  t226 := Tryd.underlying156
  a226 := Tryd.isAgg156
  z226 := Tryd.sizeOf156
  v226 := Tryd.zeroValue156 }
open Go.RowKit Go.Lib in
theorem Tryd.unicode_is16_white (R oR : Nat) (z : Nat) (w : World) (hz : z < 65536) (hz0 : 255 < z) (c6 : w.cell? ⟨R, oR + 6, none⟩ = some (.int .u16 160)) (c7 : w.cell? ⟨R, oR + 7, none⟩ = some (.int .u16 5760)) (c8 : w.cell? ⟨R, oR + 8, none⟩ = some (.int .u16 5600)) (c9 : w.cell? ⟨R, oR + 9, none⟩ = some (.int .u16 8192)) (c10 : w.cell? ⟨R, oR + 10, none⟩ = some (.int .u16 8202)) (c11 : w.cell? ⟨R, oR + 11, none⟩ = some (.int .u16 1)) (c12 : w.cell? ⟨R, oR + 12, none⟩ = some (.int .u16 8232)) (c13 : w.cell? ⟨R, oR + 13, none⟩ = some (.int .u16 8233)) (c14 : w.cell? ⟨R, oR + 14, none⟩ = some (.int .u16 1)) (c15 : w.cell? ⟨R, oR + 15, none⟩ = some (.int .u16 8239)) (c16 : w.cell? ⟨R, oR + 16, none⟩ = some (.int .u16 8287)) (c17 : w.cell? ⟨R, oR + 17, none⟩ = some (.int .u16 48)) (c18 : w.cell? ⟨R, oR + 18, none⟩ = some (.int .u16 12288)) (c19 : w.cell? ⟨R, oR + 19, none⟩ = some (.int .u16 12288)) (c20 : w.cell? ⟨R, oR + 20, none⟩ = some (.int .u16 1)) :
    Calls Tryd.prog 79 #[.slice (some ⟨R, oR + 6, none⟩) 5 5, .int .u16 z] w fun e w' => e = .returned (.bool (Lib.isSpaceR z)) ∧ Below w.heap.size w w' := Any.unicode_is16_white Tryd.lays311 R oR z w hz hz0 c6 c7 c8 c9 c10 c11 c12 c13 c14 c15 c16 c17 c18 c19 c20
def Tryd.lays261_ren : Go.Shelf.Ren := ⟨fun | 261 => 68 | 311 => 79 | 312 => 80 | n => n, fun | 141 => 121 | 21 => 21 | 4 => 4 | 0 => 0 | 196 => 135 | 193 => 132 | 3 => 3 | 51 => 118 | 198 => 138 | 49 => 136 | 194 => 133 | 201 => 141 | 226 => 156 | 46 => 143 | 227 => 157 | n => n, fun | n => n⟩
theorem Tryd.lays261 : Go.Proofs.Lays.n261 Tryd.prog Tryd.lays261_ren := {
  mixed := by kernel_rfl
  f261 := Tryd.func68.trans (congrArg some (by kernel_rfl))
  f311 := Tryd.func79.trans (congrArg some (by kernel_rfl))
  f312 := Tryd.func80.trans (congrArg some (by kernel_rfl))
  t0 := Tryd.underlying0
  a0 := Tryd.isAgg0
  z0 := Tryd.sizeOf0
  v0 := Tryd.zeroValue0
  t3 := Tryd.underlying3
  a3 := Tryd.isAgg3
  z3 := Tryd.sizeOf3
  v3 := Tryd.zeroValue3
  t4 := Tryd.underlying4
  a4 := Tryd.isAgg4
  z4 := Tryd.sizeOf4
  v4 := Tryd.zeroValue4
  t21 := Tryd.underlying21
  a21 := Tryd.isAgg21
  z21 := Tryd.sizeOf21
  v21 := Tryd.zeroValue21
  t46 := Tryd.underlying143
  a46 := Tryd.isAgg143
  z46 := Tryd.sizeOf143
  v46 := Tryd.zeroValue143
  t49 := Tryd.underlying136
  a49 := Tryd.isAgg136
  z49 := Tryd.sizeOf136
  v49 := Tryd.zeroValue136
  t51 := Tryd.underlying118
  a51 := Tryd.isAgg118
  z51 := Tryd.sizeOf118
  v51 := Tryd.zeroValue118
  t141 := Tryd.underlying121
  a141 := Tryd.isAgg121
  z141 := Tryd.sizeOf121
  v141 := Tryd.zeroValue121
  t193 := Tryd.underlying132
  a193 := Tryd.isAgg132
  z193 := Tryd.sizeOf132
  v193 := Tryd.zeroValue132
  t194 := Tryd.underlying133
  a194 := Tryd.isAgg133
  z194 := Tryd.sizeOf133
  v194 := Tryd.zeroValue133
  t196 := Tryd.underlying135
  a196 := Tryd.isAgg135
  z196 := Tryd.sizeOf135
  v196 := Tryd.zeroValue135
  t198 := Tryd.underlying138
  a198 := Tryd.isAgg138
  z198 := Tryd.sizeOf138
  v198 := Tryd.zeroValue138
  t201 := Tryd.underlying141
  a201 := Tryd.isAgg141
  z201 := Tryd.sizeOf141
  v201 := Tryd.zeroValue141
  t226 := Tryd.underlying156
  a226 := Tryd.isAgg156
  z226 := Tryd.sizeOf156
  v226 := Tryd.zeroValue156
  t227 := Tryd.underlying157
  a227 := Tryd.isAgg157
  z227 := Tryd.sizeOf157
  v227 := Tryd.zeroValue157 }
open Go.RowKit Go.Lib in
/-- unicode.isExcludingLatin(White_Space, r), r beyond U+00FF or negative. (LAID: no walk: one application.) -/
theorem Tryd.unicode_isExcludingLatin_white (T oT R oR : Nat) (r : Int) (w : World) (hlo : -2147483648 ≤ r) (hhi : r ≤ 2147483647) (hr : r < 0 ∨ 255 < r) (h2 : w.cell? ⟨T, oT, none⟩ = some (.slice (some ⟨R, oR, none⟩) 7 7)) (h3 : w.cell? ⟨T, oT + 1, none⟩ = some (.slice none 0 0)) (h4 : w.cell? ⟨T, oT + 2, none⟩ = some (.int .i64 2)) (h5 : ∀ i, i < 21 → w.cell? ⟨R, oR + i, none⟩ = some (.int .u16 (whiteT.getD i 0))) :
    Calls Tryd.prog 68 #[.pointer (some ⟨T, oT, none⟩), .int .i32 r] w fun e w' => e = .returned (.bool (Lib.isSpaceZ r)) ∧ Below w.heap.size w w' := Any.unicode_isExcludingLatin_white Tryd.lays261 T oT R oR r w hlo hhi hr h2 h3 h4 h5
def Tryd.lays274_ren : Go.Shelf.Ren := ⟨fun | 274 => 86 | n => n, fun | 21 => 21 | 162 => 131 | 160 => 153 | 3 => 3 | 4 => 4 | 46 => 143 | 0 => 0 | 208 => 167 | 51 => 118 | 206 => 165 | n => n, fun | n => n⟩
theorem Tryd.lays274 : Go.Proofs.Lays.n274 Tryd.prog Tryd.lays274_ren := {
  mixed := by kernel_rfl
  f274 := Tryd.func86.trans (congrArg some (by kernel_rfl))
  t0 := Tryd.underlying0
  a0 := Tryd.isAgg0
  z0 := Tryd.sizeOf0
  v0 := Tryd.zeroValue0
  t3 := Tryd.underlying3
  a3 := Tryd.isAgg3
  z3 := Tryd.sizeOf3
  v3 := Tryd.zeroValue3
  t4 := Tryd.underlying4
  a4 := Tryd.isAgg4
  z4 := Tryd.sizeOf4
  v4 := Tryd.zeroValue4
  t21 := Tryd.underlying21
  a21 := Tryd.isAgg21
  z21 := Tryd.sizeOf21
  v21 := Tryd.zeroValue21
  t46 := Tryd.underlying143
  a46 := Tryd.isAgg143
  z46 := Tryd.sizeOf143
  v46 := Tryd.zeroValue143
  t51 := Tryd.underlying118
  a51 := Tryd.isAgg118
  z51 := Tryd.sizeOf118
  v51 := Tryd.zeroValue118
  t160 := Tryd.underlying153
  a160 := Tryd.isAgg153
  z160 := Tryd.sizeOf153
  v160 := Tryd.zeroValue153
  t162 := Tryd.underlying131
  a162 := Tryd.isAgg131
  z162 := Tryd.sizeOf131
  v162 := Tryd.zeroValue131
  t208 := Tryd.underlying167
  a208 := Tryd.isAgg167
  z208 := Tryd.sizeOf167
  v208 := Tryd.zeroValue167 }
open Go.RowKit Go.Lib in
theorem Tryd.unicode_lookupCaseRange (T : Array CaseRow) (R oR cap : Nat) (r : Int) (w : World) (hT : CaseTab R oR T w) (hok : CaseOk T) (hn : T.size ≤ 1000000000) :
    Calls Tryd.prog 86 #[.int .i32 r, .slice (some ⟨R, oR, none⟩) T.size cap] w fun e w' =>
      e = .returned (match lookupIdx T r (T.size + 1) 0 T.size with | some i => .pointer (some ⟨R, oR + i * 5, none⟩) | none => .pointer none) ∧ w' = w := Any.unicode_lookupCaseRange Tryd.lays274 T R oR cap r w hT hok hn
def Tryd.lays275_ren : Go.Shelf.Ren := ⟨fun | 275 => 87 | n => n, fun | 3 => 3 | 21 => 21 | 160 => 153 | 0 => 0 | 208 => 167 | 206 => 165 | 4 => 4 | 51 => 118 | n => n, fun | n => n⟩
theorem Tryd.lays275 : Go.Proofs.Lays.n275 Tryd.prog Tryd.lays275_ren := {
  mixed := by kernel_rfl
  f275 := Tryd.func87.trans (congrArg some (by kernel_rfl))
  t0 := Tryd.underlying0
  a0 := Tryd.isAgg0
  z0 := Tryd.sizeOf0
  v0 := Tryd.zeroValue0
  t3 := Tryd.underlying3
  a3 := Tryd.isAgg3
  z3 := Tryd.sizeOf3
  v3 := Tryd.zeroValue3
  t4 := Tryd.underlying4
  a4 := Tryd.isAgg4
  z4 := Tryd.sizeOf4
  v4 := Tryd.zeroValue4
  t21 := Tryd.underlying21
  a21 := Tryd.isAgg21
  z21 := Tryd.sizeOf21
  v21 := Tryd.zeroValue21
  t51 := Tryd.underlying118
  a51 := Tryd.isAgg118
  z51 := Tryd.sizeOf118
  v51 := Tryd.zeroValue118
  t160 := Tryd.underlying153
  a160 := Tryd.isAgg153
  z160 := Tryd.sizeOf153
  v160 := Tryd.zeroValue153
  t206 := Tryd.underlying165
  a206 := Tryd.isAgg165
  z206 := Tryd.sizeOf165
  v206 := Tryd.zeroValue165
  t208 := Tryd.underlying167
  a208 := Tryd.isAgg167
  z208 := Tryd.sizeOf167
  v208 := Tryd.zeroValue167 }
open Go.RowKit Go.Lib in
theorem Tryd.unicode_convertCase (c : Nat) (hc : c < 3) (r : Int) (A o : Nat) (x : CaseRow) (w : World) (hlo : (x.1 : Int) ≤ r) (hhi : r ≤ (x.2.1 : Int)) (hH : x.2.1 < 2147483647) (c0 : w.cell? ⟨A, o, none⟩ = some (.int .u32 x.1)) (cD : w.cell? ⟨A, o + 2 + c, none⟩ = some (.int .i32 (x.delta c))) :
    Calls Tryd.prog 87 #[.int .i64 c, .int .i32 r, .pointer (some ⟨A, o, none⟩)] w fun e w' => e = .returned (.int .i32 (wrap32 (convertR c r x))) ∧ ∃ q, w' = w.drewN q := Any.unicode_convertCase Tryd.lays275 c hc r A o x w hlo hhi hH c0 cD
def Tryd.lays313_ren : Go.Shelf.Ren := ⟨fun | 313 => 78 | 274 => 86 | 275 => 87 | n => n, fun | 3 => 3 | 21 => 21 | 162 => 131 | 4 => 4 | 160 => 153 | 46 => 143 | 0 => 0 | 208 => 167 | 51 => 118 | 206 => 165 | n => n, fun | n => n⟩
theorem Tryd.lays313 : Go.Proofs.Lays.n313 Tryd.prog Tryd.lays313_ren := {
  mixed := by kernel_rfl
  f274 := Tryd.func86.trans (congrArg some (by kernel_rfl))
  f275 := Tryd.func87.trans (congrArg some (by kernel_rfl))
  f313 := Tryd.func78.trans (congrArg some (by kernel_rfl))
  t0 := Tryd.underlying0
  a0 := Tryd.isAgg0
  z0 := Tryd.sizeOf0
  v0 := Tryd.zeroValue0
  t3 := Tryd.underlying3
  a3 := Tryd.isAgg3
  z3 := Tryd.sizeOf3
  v3 := Tryd.zeroValue3
  t4 := Tryd.underlying4
  a4 := Tryd.isAgg4
  z4 := Tryd.sizeOf4
  v4 := Tryd.zeroValue4
  t21 := Tryd.underlying21
  a21 := Tryd.isAgg21
  z21 := Tryd.sizeOf21
  v21 := Tryd.zeroValue21
  t46 := Tryd.underlying143
  a46 := Tryd.isAgg143
  z46 := Tryd.sizeOf143
  v46 := Tryd.zeroValue143
  t51 := Tryd.underlying118
  a51 := Tryd.isAgg118
  z51 := Tryd.sizeOf118
  v51 := Tryd.zeroValue118
  t160 := Tryd.underlying153
  a160 := Tryd.isAgg153
  z160 := Tryd.sizeOf153
  v160 := Tryd.zeroValue153
  t162 := Tryd.underlying131
  a162 := Tryd.isAgg131
  z162 := Tryd.sizeOf131
  v162 := Tryd.zeroValue131
  t206 := Tryd.underlying165
  a206 := Tryd.isAgg165
  z206 := Tryd.sizeOf165
  v206 := Tryd.zeroValue165
  t208 := Tryd.underlying167
  a208 := Tryd.isAgg167
  z208 := Tryd.sizeOf167
  v208 := Tryd.zeroValue167 }
open Go.RowKit Go.Lib in
theorem Tryd.unicode_to (c : Nat) (hc : c < 3) (r : Int) (T : Array CaseRow) (R oR cap : Nat) (w : World) (hT : CaseTab R oR T w) (hok : CaseOk2 T) (hn : T.size ≤ 1000000000) :
    Calls Tryd.prog 78 #[.int .i64 c, .int .i32 r, .slice (some ⟨R, oR, none⟩) T.size cap] w fun e w' => e = .returned (.tuple #[.int .i32 (toW T c r), .bool (lookupIdx T r (T.size + 1) 0 T.size).isSome]) ∧ ∃ q, w' = w.drewN q := Any.unicode_to Tryd.lays313 c hc r T R oR cap w hT hok hn
def Tryd.lays262_ren : Go.Shelf.Ren := ⟨fun | 262 => 67 | 313 => 78 | 274 => 86 | 275 => 87 | n => n, fun | 3 => 3 | 21 => 21 | 162 => 131 | 203 => 129 | 4 => 4 | 160 => 153 | 46 => 143 | 0 => 0 | 208 => 167 | 51 => 118 | 206 => 165 | n => n, fun | 13 => 2 | n => n⟩
theorem Tryd.lays262 : Go.Proofs.Lays.n262 Tryd.prog Tryd.lays262_ren := {
  mixed := by kernel_rfl
  f262 := Tryd.func67.trans (congrArg some (by kernel_rfl))
  f274 := Tryd.func86.trans (congrArg some (by kernel_rfl))
  f275 := Tryd.func87.trans (congrArg some (by kernel_rfl))
  f313 := Tryd.func78.trans (congrArg some (by kernel_rfl))
  t0 := Tryd.underlying0
  a0 := Tryd.isAgg0
  z0 := Tryd.sizeOf0
  v0 := Tryd.zeroValue0
  t3 := Tryd.underlying3
  a3 := Tryd.isAgg3
  z3 := Tryd.sizeOf3
  v3 := Tryd.zeroValue3
  t4 := Tryd.underlying4
  a4 := Tryd.isAgg4
  z4 := Tryd.sizeOf4
  v4 := Tryd.zeroValue4
  t21 := Tryd.underlying21
  a21 := Tryd.isAgg21
  z21 := Tryd.sizeOf21
  v21 := Tryd.zeroValue21
  t46 := Tryd.underlying143
  a46 := Tryd.isAgg143
  z46 := Tryd.sizeOf143
  v46 := Tryd.zeroValue143
  t51 := Tryd.underlying118
  a51 := Tryd.isAgg118
  z51 := Tryd.sizeOf118
  v51 := Tryd.zeroValue118
  t160 := Tryd.underlying153
  a160 := Tryd.isAgg153
  z160 := Tryd.sizeOf153
  v160 := Tryd.zeroValue153
  t162 := Tryd.underlying131
  a162 := Tryd.isAgg131
  z162 := Tryd.sizeOf131
  v162 := Tryd.zeroValue131
  t203 := Tryd.underlying129
  a203 := Tryd.isAgg129
  z203 := Tryd.sizeOf129
  v203 := Tryd.zeroValue129
  t206 := Tryd.underlying165
  a206 := Tryd.isAgg165
  z206 := Tryd.sizeOf165
  v206 := Tryd.zeroValue165
  t208 := Tryd.underlying167
  a208 := Tryd.isAgg167
  z208 := Tryd.sizeOf167
  v208 := Tryd.zeroValue167
  g13 := by kernel_rfl }
open Go.RowKit Go.Lib in
theorem Tryd.unicode_To (c : Nat) (hc : c < 3) (r : Int) (T : Array CaseRow) (w : World) (hV : CaseVar 2 T w) (hok : CaseOk2 T) (hn : T.size ≤ 1000000000) :
    Calls Tryd.prog 67 #[.int .i64 c, .int .i32 r] w fun e w' => e = .returned (.int .i32 (toW T c r)) ∧ ∃ q, w' = w.drewN q := Any.unicode_To Tryd.lays262 c hc r T w hV hok hn
open Go.RowKit Go.Lib in
theorem Tryd.unicode_ToLower_any (r : Int) (T : Array CaseRow) (w : World) (hV : CaseVar 2 T w) (hok : CaseOk2 T) (hn : T.size ≤ 1000000000) :
    Calls Tryd.prog 53 #[.int .i32 r] w fun e w' => e = .returned (.int .i32 (Lib.toLowerW T r)) ∧ ∃ q, w' = w.drewN q := Any.unicode_ToLower_any Tryd.lays204 r T w hV hok hn
open Go.RowKit Go.Lib in
theorem Tryd.unicode_ToLower_laid (r : Int) (w : World) (hV : CaseVar 2 caseA w) :
    Calls Tryd.prog 53 #[.int .i32 r] w fun e w' => e = .returned (.int .i32 (toLowerU r)) ∧ ∃ q, w' = w.drewN q := Any.unicode_ToLower_laid Tryd.lays204 r w hV
open Go.RowKit Go.Lib in
theorem Tryd.unicode_is16_any (T : Array Rg) (R oR cap : Nat) (z : Nat) (w : World) (hz : z < 65536) (hT : RgTab .u16 R oR T w) (hok : RgOk 65536 T) (hn : T.size ≤ 1000000000) :
    Calls Tryd.prog 79 #[.slice (some ⟨R, oR, none⟩) T.size cap, .int .u16 z] w fun e w' => e = .returned (.bool (is16Go T z)) ∧ ∃ q, w' = w.drewN q := Any.unicode_is16_any Tryd.lays311 T R oR cap z w hz hT hok hn
def Tryd.lays312_ren : Go.Shelf.Ren := ⟨fun | 312 => 80 | n => n, fun | 194 => 133 | 51 => 118 | 4 => 4 | 3 => 3 | 0 => 0 | 227 => 157 | 201 => 141 | 46 => 143 | n => n, fun | n => n⟩
theorem Tryd.lays312 : Go.Proofs.Lays.n312 Tryd.prog Tryd.lays312_ren := {
  mixed := by kernel_rfl
  f312 := Tryd.func80.trans (congrArg some (by kernel_rfl))
  t0 := Tryd.underlying0
  a0 := Tryd.isAgg0
  z0 := Tryd.sizeOf0
  v0 := Tryd.zeroValue0
  t3 := Tryd.underlying3
  a3 := Tryd.isAgg3
  z3 := Tryd.sizeOf3
  v3 := Tryd.zeroValue3
  t4 := Tryd.underlying4
  a4 := Tryd.isAgg4
  z4 := Tryd.sizeOf4
  v4 := Tryd.zeroValue4
  t46 := Tryd.underlying143
  a46 := Tryd.isAgg143
  z46 := Tryd.sizeOf143
  v46 := Tryd.zeroValue143
  t51 := Tryd.underlying118
  a51 := Tryd.isAgg118
  z51 := Tryd.sizeOf118
  v51 := Tryd.zeroValue118
  t194 := Tryd.underlying133
  a194 := Tryd.isAgg133
  z194 := Tryd.sizeOf133
  v194 := Tryd.zeroValue133
  t201 := Tryd.underlying141
  a201 := Tryd.isAgg141
  z201 := Tryd.sizeOf141
  v201 := Tryd.zeroValue141
  t227 := Tryd.underlying157
  a227 := Tryd.isAgg157
  z227 := Tryd.sizeOf157
  v227 := Tryd.zeroValue157 }
open Go.RowKit Go.Lib in
theorem Tryd.unicode_is32_any (T : Array Rg) (R oR cap : Nat) (z : Nat) (w : World) (hz : z < 4294967296) (hT : RgTab .u32 R oR T w) (hok : RgOk 4294967296 T) (hn : T.size ≤ 1000000000) :
    Calls Tryd.prog 80 #[.slice (some ⟨R, oR, none⟩) T.size cap, .int .u32 z] w fun e w' => e = .returned (.bool (is32Go T z)) ∧ Below w.heap.size w w' := Any.unicode_is32_any Tryd.lays312 T R oR cap z w hz hT hok hn
open Go.RowKit Go.Lib in
theorem Tryd.unicode_isExcludingLatin_any (Tb oT : Nat) (T : RTab) (r : Int) (w : World) (hlo : -2147483648 ≤ r) (hhi : r ≤ 2147483647) (hA : RTabAt Tb oT T w) (hok : RTabOk T) :
    Calls Tryd.prog 68 #[.pointer (some ⟨Tb, oT, none⟩), .int .i32 r] w fun e w' => e = .returned (.bool (exclGo T r)) ∧ Below w.heap.size w w' := Any.unicode_isExcludingLatin_any Tryd.lays261 Tb oT T r w hlo hhi hA hok
open Go.RowKit Go.Lib in
/-- unicode.IsLetter(r) AT EVERY int32, over whatever table the variable unicode.Letter leads to. (LAID: no walk: one application.) -/
theorem Tryd.unicode_IsLetter_any (T : RTab) (r : Int) (w : World) (hlo : -2147483648 ≤ r) (hhi : r ≤ 2147483647) (htab : Lib.TabIs Tryd.prog w "unicode.properties" .u8 Lib.propertiesTab) (hV : RVar 1 T w) (hok : RTabOk T) :
    Calls Tryd.prog 55 #[.int .i32 r] w fun e w' => e = .returned (.bool (if latin1 r then isLetterL r else exclGo T r)) ∧ Below w.heap.size w w' := Any.unicode_IsLetter_any Tryd.lays200 (by kernel_rfl) T r w hlo hhi htab hV hok
end Go.Proofs
