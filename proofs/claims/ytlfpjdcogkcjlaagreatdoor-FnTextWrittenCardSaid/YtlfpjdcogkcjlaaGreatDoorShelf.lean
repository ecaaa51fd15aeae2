/-
  DERIVED: THE SHELF's CONTRACTS AT THIS DUMP, IN PLAIN WORDS (tools/lay-plain.mjs out of 'TryzShelf.lean', which tools/lay-shelf.mjs wrote): THE SAME DECLARATIONS UNDER THE SAME NAMES: 'import', 'namespace', 'open', 'def', 'theorem' AND NOTHING ELSE: no command of the shelf's: FOR A HAND-IN. Each laying: the table of numbers ('.._ren') and one theorem, a field a fact of the dump's own or the kernel's comparison; each contract: ONE APPLICATION.
-/
import Derived.Shelf.Strings.Builder1
import Derived.Shelf.Strings.Builder2
import Derived.Shelf.Strings.OnBuilder
import Derived.Shelf.Strings.TrimSpace
import Derived.Shelf.Small.Utf8
import Derived.Shelf.Strconv.Atoi
import Derived.Shelf.Strconv.Itoa0
import Derived.Shelf.Strconv.Itoa1
import Derived.Shelf.LaysM
import Derived.Shelf.Strconv.Itoa2
import Derived.Shelf.Strconv.Itoa3
import Derived.Shelf.Strconv.AtoiErrFast
import Derived.Shelf.Strconv.ParseIntEmpty
import Derived.Shelf.Strconv.AtoiFail
import Derived.Shelf.Strconv.Clone
import Derived.Shelf.Strconv.SyntaxError
import Derived.Shelf.LaysC
import Derived.Shelf.Strconv.ToError
import Derived.Shelf.Strconv.Lower
import Derived.Shelf.Strconv.ParseUint10
import Derived.Shelf.Strconv.ParseUint10Empty
import Derived.Shelf.Strconv.ParseUint10Any
import Derived.Shelf.Strconv.ParseInt10
import Derived.Shelf.Strconv.AtoiLong
import Derived.Shelf.Strconv.AtoiInnerAll
import Derived.Shelf.Strconv.RangeError
import Derived.Shelf.Strconv.ToErrorRange
import Derived.Shelf.Strconv.AtoiAll
import Derived.Shelf.Strconv.ErrVarAll
import Derived.Shelf.Strings.Prefix
import Derived.Shelf.Unicode.Latin
import Derived.Shelf.Unicode.DecodeSlow
import Derived.Shelf.Unicode.DecodeAny
import Derived.Shelf.Unicode.Is16White
import Derived.Shelf.Unicode.IsSpaceAny
import Derived.Shelf.Unicode.DecodeLast
import Derived.Shelf.Strings.TrimSpaceAny
import Derived.Shelf.Unicode.CaseLookup
import Derived.Shelf.Unicode.CaseConvert
import Derived.Shelf.Unicode.CaseTo
import Derived.Shelf.Unicode.CaseLaid
import Derived.Shelf.Unicode.Is16Any
import Derived.Shelf.Unicode.Is32Any
import Derived.Shelf.Unicode.ExclAny
import Derived.Shelf.Slices.Turned
import Derived.Shelf.Slices.Equal
import Derived.Ground.Names2Prog
import Derived.Shelf.Slices.Clone
import Derived.Shelf.Slices.Empties2
import Derived.Test.YtlfpjdcogkcjlaaGreatDoorProg
namespace Go.Proofs
open Go.Shelf
def Tryz.lays169_ren : Go.Shelf.Ren := ⟨fun | 169 => 104 | n => n, fun | 70 => 165 | 9 => 9 | 0 => 0 | 72 => 167 | 37 => 38 | 127 => 190 | 3 => 3 | 5 => 5 | n => n, fun | n => n⟩
theorem Tryz.lays169 : Go.Proofs.Lays.n169 Tryz.prog Tryz.lays169_ren := {
  mixed := by kernel_rfl
  f169 := Tryz.func104.trans (congrArg some (by kernel_rfl))
  t0 := Tryz.underlying0
  a0 := Tryz.isAgg0
  z0 := Tryz.sizeOf0
  v0 := Tryz.zeroValue0
  t3 := Tryz.underlying3
  a3 := Tryz.isAgg3
  z3 := Tryz.sizeOf3
  v3 := Tryz.zeroValue3
  t9 := Tryz.underlying9
  a9 := Tryz.isAgg9
  z9 := Tryz.sizeOf9
  v9 := Tryz.zeroValue9
  t37 := Tryz.underlying38
  a37 := Tryz.isAgg38
  z37 := Tryz.sizeOf38
  v37 := Tryz.zeroValue38
  t70 := Tryz.underlying165
  a70 := Tryz.isAgg165
  z70 := Tryz.sizeOf165
  v70 := Tryz.zeroValue165
  t72 := Tryz.underlying167
  a72 := Tryz.isAgg167
  z72 := Tryz.sizeOf167
  v72 := Tryz.zeroValue167
  t127 := Tryz.underlying190
  a127 := Tryz.isAgg190
  z127 := Tryz.sizeOf190
  v127 := Tryz.zeroValue190 }
theorem Tryz.Builder_Extra_169 : Builder.Extra Tryz.prog Tryz.lays169_ren := {
  sizeBuilder := by kernel_rfl
  liesBuilder := by kernel_rfl
  t5 := Tryz.underlying5
  a5 := Tryz.isAgg5
  z5 := Tryz.sizeOf5
  v5 := Tryz.zeroValue5
  infoByte := by kernel_rfl
  cellsByte := by kernel_rfl
  sizeByte := by kernel_rfl
  neB5 := by decide }
open Go.RowKit in
/-- (*strings.Builder).String: "String returns the accumulated string.": OF A BUILDER THAT HOLDS AT LEAST ONE BYTE. ✋ THE MODEL FREEZES THOSE BYTES IN THE BUFFER (unsafe.String): a later write INTO them ends the model's run without an answer; a later append BEHIND them goes on. The statement's order of evaluation is drawn: one draw. (LAID: no walk: one application.) -/
theorem Tryz.Builder_String (B b : Nat) (l : List UInt8) (w : World) (h : Lib.IsBuilder 167 5 B b (Lib.byteCells l) w) (h0 : l ≠ []) :
    Calls Tryz.prog 104 #[.pointer (some ⟨b, 0, none⟩)] w fun e w' => e = .returned (.string ⟨l.toArray⟩) ∧ Below B w w' := Any.Builder_String Tryz.lays169 Tryz.Builder_Extra_169 B b l w h h0
open Go.RowKit in
/-- (*strings.Builder).String OF A BUILDER THAT HOLDS NO BYTE: the empty string. (Its buffer is nil, or a row of which it has taken nothing yet; where that row has NO capacity the model lays one new block for unsafe.SliceData's 'some address'.) One draw. (LAID: no walk: one application.) -/
theorem Tryz.Builder_String_empty (B b : Nat) (w : World) (h : Lib.IsBuilder 167 5 B b [] w) (hBw : B ≤ w.heap.size) :
    Calls Tryz.prog 104 #[.pointer (some ⟨b, 0, none⟩)] w fun e w' => e = .returned (.string ⟨#[]⟩) ∧ Below B w w' := Any.Builder_String_empty Tryz.lays169 Tryz.Builder_Extra_169 B b w h hBw
open Go.RowKit in
/-- (*strings.Builder).String: "String returns the accumulated string.": WHATEVER THE BUILDER HOLDS. (LAID: no walk: one application.) -/
theorem Tryz.Builder_String_any (B b : Nat) (l : List UInt8) (w : World) (h : Lib.IsBuilder 167 5 B b (Lib.byteCells l) w) (hBw : B ≤ w.heap.size) :
    Calls Tryz.prog 104 #[.pointer (some ⟨b, 0, none⟩)] w fun e w' => e = .returned (.string ⟨l.toArray⟩) ∧ Below B w w' := Any.Builder_String_any Tryz.lays169 Tryz.Builder_Extra_169 B b l w h hBw
def Tryz.lays241_ren : Go.Shelf.Ren := ⟨fun | 241 => 129 | 277 => 152 | n => n, fun | 70 => 165 | 3 => 3 | 0 => 0 | 72 => 167 | 37 => 38 | 5 => 5 | n => n, fun | n => n⟩
theorem Tryz.lays241 : Go.Proofs.Lays.n241 Tryz.prog Tryz.lays241_ren := {
  mixed := by kernel_rfl
  f241 := Tryz.func129.trans (congrArg some (by kernel_rfl))
  f277 := Tryz.func152.trans (congrArg some (by kernel_rfl))
  t0 := Tryz.underlying0
  a0 := Tryz.isAgg0
  z0 := Tryz.sizeOf0
  v0 := Tryz.zeroValue0
  t3 := Tryz.underlying3
  a3 := Tryz.isAgg3
  z3 := Tryz.sizeOf3
  v3 := Tryz.zeroValue3
  t37 := Tryz.underlying38
  a37 := Tryz.isAgg38
  z37 := Tryz.sizeOf38
  v37 := Tryz.zeroValue38
  t70 := Tryz.underlying165
  a70 := Tryz.isAgg165
  z70 := Tryz.sizeOf165
  v70 := Tryz.zeroValue165
  t72 := Tryz.underlying167
  a72 := Tryz.isAgg167
  z72 := Tryz.sizeOf167
  v72 := Tryz.zeroValue167 }
theorem Tryz.Builder_Extra_241 : Builder.Extra Tryz.prog Tryz.lays241_ren := {
  sizeBuilder := by kernel_rfl
  liesBuilder := by kernel_rfl
  t5 := Tryz.underlying5
  a5 := Tryz.isAgg5
  z5 := Tryz.sizeOf5
  v5 := Tryz.zeroValue5
  infoByte := by kernel_rfl
  cellsByte := by kernel_rfl
  sizeByte := by kernel_rfl
  neB5 := by decide }
open Go.RowKit in
/-- (*strings.Builder).grow (no doc but "grow copies the buffer to a new, larger buffer so that there are at least n bytes of capacity beyond len(b.buf)."): AT A BUILDER WITHOUT A BUFFER: a new row of whatever bytes for its buffer, none of them its own yet. Three draws. (LAID: no walk: one application.) -/
theorem Tryz.Builder_grow_fresh (B b n : Nat) (w : World) (hB : B ≤ b) (hbk : w.heap[b]? = some (.cells #[.pointer (some ⟨b, 0, none⟩), .slice none 0 0] 167 (0, 0))) (hBw : B ≤ w.heap.size) (hn : n ≤ 281474976710656) :
    Calls Tryz.prog 129 #[.pointer (some ⟨b, 0, none⟩), .int .i64 n] w fun e w' => e = .returned (.tuple #[]) ∧ (Lib.BuilderAt 167 5 B b (.pointer (some ⟨b, 0, none⟩)) [] w' ∧ Below B w w') := Any.Builder_grow_fresh Tryz.lays241 Tryz.Builder_Extra_241 B b n w hB hbk hBw hn
def Tryz.lays165_ren : Go.Shelf.Ren := ⟨fun | 165 => 102 | 240 => 128 | 241 => 129 | 276 => 151 | 277 => 152 | n => n, fun | 70 => 165 | 3 => 3 | 0 => 0 | 4 => 4 | 9 => 9 | 20 => 20 | 72 => 167 | 37 => 38 | 164 => 217 | 5 => 5 | n => n, fun | n => n⟩
theorem Tryz.lays165 : Go.Proofs.Lays.n165 Tryz.prog Tryz.lays165_ren := {
  mixed := by kernel_rfl
  f165 := Tryz.func102.trans (congrArg some (by kernel_rfl))
  f240 := Tryz.func128.trans (congrArg some (by kernel_rfl))
  f241 := Tryz.func129.trans (congrArg some (by kernel_rfl))
  f276 := Tryz.func151.trans (congrArg some (by kernel_rfl))
  f277 := Tryz.func152.trans (congrArg some (by kernel_rfl))
  t0 := Tryz.underlying0
  a0 := Tryz.isAgg0
  z0 := Tryz.sizeOf0
  v0 := Tryz.zeroValue0
  t3 := Tryz.underlying3
  a3 := Tryz.isAgg3
  z3 := Tryz.sizeOf3
  v3 := Tryz.zeroValue3
  t4 := Tryz.underlying4
  a4 := Tryz.isAgg4
  z4 := Tryz.sizeOf4
  v4 := Tryz.zeroValue4
  t9 := Tryz.underlying9
  a9 := Tryz.isAgg9
  z9 := Tryz.sizeOf9
  v9 := Tryz.zeroValue9
  t20 := Tryz.underlying20
  a20 := Tryz.isAgg20
  z20 := Tryz.sizeOf20
  v20 := Tryz.zeroValue20
  t37 := Tryz.underlying38
  a37 := Tryz.isAgg38
  z37 := Tryz.sizeOf38
  v37 := Tryz.zeroValue38
  t70 := Tryz.underlying165
  a70 := Tryz.isAgg165
  z70 := Tryz.sizeOf165
  v70 := Tryz.zeroValue165
  t72 := Tryz.underlying167
  a72 := Tryz.isAgg167
  z72 := Tryz.sizeOf167
  v72 := Tryz.zeroValue167
  t164 := Tryz.underlying217
  a164 := Tryz.isAgg217
  z164 := Tryz.sizeOf217
  v164 := Tryz.zeroValue217 }
theorem Tryz.Builder_Extra_165 : Builder.Extra Tryz.prog Tryz.lays165_ren := {
  sizeBuilder := by kernel_rfl
  liesBuilder := by kernel_rfl
  t5 := Tryz.underlying5
  a5 := Tryz.isAgg5
  z5 := Tryz.sizeOf5
  v5 := Tryz.zeroValue5
  infoByte := by kernel_rfl
  cellsByte := by kernel_rfl
  sizeByte := by kernel_rfl
  neB5 := by decide }
open Go.RowKit in
/-- (*strings.Builder).Grow AT A BUILDER THAT HAS NOT BEEN WRITTEN ('var b strings.Builder; b.Grow(n)'): "Grow grows b's capacity, if necessary, to guarantee space for another n bytes.": it holds no byte behind it as before it. (LAID: no walk: one application.) -/
theorem Tryz.Builder_Grow_fresh (B b n : Nat) (w : World) (hB : B ≤ b) (hbk : w.heap[b]? = some (.cells #[.pointer none, .slice none 0 0] 167 (0, 0))) (hBw : B ≤ w.heap.size) (hn : n ≤ 281474976710656) :
    Calls Tryz.prog 102 #[.pointer (some ⟨b, 0, none⟩), .int .i64 n] w fun e w' => e = .returned (.tuple #[]) ∧ (Lib.BuilderAt 167 5 B b (.pointer (some ⟨b, 0, none⟩)) [] w' ∧ Below B w w') := Any.Builder_Grow_fresh Tryz.lays165 Tryz.Builder_Extra_165 B b n w hB hbk hBw hn
def Tryz.lays158_ren : Go.Shelf.Ren := ⟨fun | 158 => 112 | 165 => 102 | 166 => 103 | 167 => 134 | 169 => 104 | 230 => 135 | 203 => 136 | 240 => 128 | 241 => 129 | 197 => 133 | 118 => 158 | 168 => 159 | 270 => 160 | 262 => 161 | 276 => 151 | 277 => 152 | 260 => 157 | 242 => 170 | 313 => 171 | 278 => 174 | 274 => 175 | 275 => 176 | n => n, fun | 9 => 9 | 4 => 4 | 3 => 3 | 5 => 5 | 72 => 167 | 0 => 0 | 76 => 143 | 75 => 67 | 107 => 199 | 70 => 165 | 20 => 20 | 37 => 38 | 127 => 190 | 21 => 21 | 105 => 195 | 164 => 217 | 162 => 251 | 203 => 249 | 119 => 172 | 46 => 213 | 139 => 247 | 138 => 246 | 51 => 191 | 160 => 256 | 208 => 262 | 206 => 260 | 80 => 86 | n => n, fun | 13 => 15 | 3 => 13 | 4 => 14 | n => n⟩
theorem Tryz.lays158 : Go.Proofs.Lays.n158 Tryz.prog Tryz.lays158_ren := {
  mixed := by kernel_rfl
  f118 := Tryz.func158.trans (congrArg some (by kernel_rfl))
  f158 := Tryz.func112.trans (congrArg some (by kernel_rfl))
  f165 := Tryz.func102.trans (congrArg some (by kernel_rfl))
  f166 := Tryz.func103.trans (congrArg some (by kernel_rfl))
  f167 := Tryz.func134.trans (congrArg some (by kernel_rfl))
  f168 := Tryz.func159.trans (congrArg some (by kernel_rfl))
  f169 := Tryz.func104.trans (congrArg some (by kernel_rfl))
  f197 := Tryz.func133.trans (congrArg some (by kernel_rfl))
  f203 := Tryz.func136.trans (congrArg some (by kernel_rfl))
  f230 := Tryz.func135.trans (congrArg some (by kernel_rfl))
  f240 := Tryz.func128.trans (congrArg some (by kernel_rfl))
  f241 := Tryz.func129.trans (congrArg some (by kernel_rfl))
  f242 := Tryz.func170.trans (congrArg some (by kernel_rfl))
  f260 := Tryz.func157.trans (congrArg some (by kernel_rfl))
  f262 := Tryz.func161.trans (congrArg some (by kernel_rfl))
  f270 := Tryz.func160.trans (congrArg some (by kernel_rfl))
  f274 := Tryz.func175.trans (congrArg some (by kernel_rfl))
  f275 := Tryz.func176.trans (congrArg some (by kernel_rfl))
  f276 := Tryz.func151.trans (congrArg some (by kernel_rfl))
  f277 := Tryz.func152.trans (congrArg some (by kernel_rfl))
  f278 := Tryz.func174.trans (congrArg some (by kernel_rfl))
  f313 := Tryz.func171.trans (congrArg some (by kernel_rfl))
  t0 := Tryz.underlying0
  a0 := Tryz.isAgg0
  z0 := Tryz.sizeOf0
  v0 := Tryz.zeroValue0
  t3 := Tryz.underlying3
  a3 := Tryz.isAgg3
  z3 := Tryz.sizeOf3
  v3 := Tryz.zeroValue3
  t4 := Tryz.underlying4
  a4 := Tryz.isAgg4
  z4 := Tryz.sizeOf4
  v4 := Tryz.zeroValue4
  t5 := Tryz.underlying5
  a5 := Tryz.isAgg5
  z5 := Tryz.sizeOf5
  v5 := Tryz.zeroValue5
  t9 := Tryz.underlying9
  a9 := Tryz.isAgg9
  z9 := Tryz.sizeOf9
  v9 := Tryz.zeroValue9
  t20 := Tryz.underlying20
  a20 := Tryz.isAgg20
  z20 := Tryz.sizeOf20
  v20 := Tryz.zeroValue20
  t21 := Tryz.underlying21
  a21 := Tryz.isAgg21
  z21 := Tryz.sizeOf21
  v21 := Tryz.zeroValue21
  t37 := Tryz.underlying38
  a37 := Tryz.isAgg38
  z37 := Tryz.sizeOf38
  v37 := Tryz.zeroValue38
  t46 := Tryz.underlying213
  a46 := Tryz.isAgg213
  z46 := Tryz.sizeOf213
  v46 := Tryz.zeroValue213
  t51 := Tryz.underlying191
  a51 := Tryz.isAgg191
  z51 := Tryz.sizeOf191
  v51 := Tryz.zeroValue191
  t70 := Tryz.underlying165
  a70 := Tryz.isAgg165
  z70 := Tryz.sizeOf165
  v70 := Tryz.zeroValue165
  t72 := Tryz.underlying167
  a72 := Tryz.isAgg167
  z72 := Tryz.sizeOf167
  v72 := Tryz.zeroValue167
  t75 := Tryz.underlying67
  a75 := Tryz.isAgg67
  z75 := Tryz.sizeOf67
  v75 := Tryz.zeroValue67
  t76 := Tryz.underlying143
  a76 := Tryz.isAgg143
  z76 := Tryz.sizeOf143
  v76 := Tryz.zeroValue143
  t105 := Tryz.underlying195
  a105 := Tryz.isAgg195
  z105 := Tryz.sizeOf195
  v105 := Tryz.zeroValue195
  t107 := Tryz.underlying199
  a107 := Tryz.isAgg199
  z107 := Tryz.sizeOf199
  v107 := Tryz.zeroValue199
  t119 := Tryz.underlying172
  a119 := Tryz.isAgg172
  z119 := Tryz.sizeOf172
  t127 := Tryz.underlying190
  a127 := Tryz.isAgg190
  z127 := Tryz.sizeOf190
  v127 := Tryz.zeroValue190
  t138 := Tryz.underlying246
  a138 := Tryz.isAgg246
  z138 := Tryz.sizeOf246
  v138 := Tryz.zeroValue246
  t139 := Tryz.underlying247
  a139 := Tryz.isAgg247
  z139 := Tryz.sizeOf247
  v139 := Tryz.zeroValue247
  t160 := Tryz.underlying256
  a160 := Tryz.isAgg256
  z160 := Tryz.sizeOf256
  v160 := Tryz.zeroValue256
  t162 := Tryz.underlying251
  a162 := Tryz.isAgg251
  z162 := Tryz.sizeOf251
  v162 := Tryz.zeroValue251
  t164 := Tryz.underlying217
  a164 := Tryz.isAgg217
  z164 := Tryz.sizeOf217
  v164 := Tryz.zeroValue217
  t203 := Tryz.underlying249
  a203 := Tryz.isAgg249
  z203 := Tryz.sizeOf249
  v203 := Tryz.zeroValue249
  t206 := Tryz.underlying260
  a206 := Tryz.isAgg260
  z206 := Tryz.sizeOf260
  v206 := Tryz.zeroValue260
  t208 := Tryz.underlying262
  a208 := Tryz.isAgg262
  z208 := Tryz.sizeOf262
  v208 := Tryz.zeroValue262
  g3 := by kernel_rfl
  g4 := by kernel_rfl
  g13 := by kernel_rfl }
theorem Tryz.Builder_Extra_158 : Builder.Extra Tryz.prog Tryz.lays158_ren := {
  sizeBuilder := by kernel_rfl
  liesBuilder := by kernel_rfl
  t5 := Tryz.underlying5
  a5 := Tryz.isAgg5
  z5 := Tryz.sizeOf5
  v5 := Tryz.zeroValue5
  infoByte := by kernel_rfl
  cellsByte := by kernel_rfl
  sizeByte := by kernel_rfl
  neB5 := by decide }
open Go.RowKit in
/-- strings.ToUpper: "ToUpper returns s with all Unicode letters mapped to their upper case.": ON ASCII TEXT OF AT MOST 2^47 BYTES. Below the heap's end the world is as it was: where a letter turns, the call makes a builder and its buffer. (LAID: no walk: one application.) -/
theorem Tryz.strings_ToUpper_ascii (s : ByteArray) (w : World) (hs : s.size ≤ 140737488355328) (hascii : ∀ (j : Nat) (b : UInt8), s.data.toList[j]? = some b → b.toNat < 128) :
    Calls Tryz.prog 112 #[.string s] w fun e w' => e = .returned (.string ⟨(Lib.toUpperA s.data.toList).toArray⟩) ∧ Below w.heap.size w w' := Any.strings_ToUpper_ascii Tryz.lays158 Tryz.Builder_Extra_158 s w hs hascii
def Tryz.lays156_ren : Go.Shelf.Ren := ⟨fun | 156 => 78 | 165 => 102 | 166 => 103 | 169 => 104 | 240 => 128 | 241 => 129 | 276 => 151 | 277 => 152 | n => n, fun | 31 => 42 | 9 => 9 | 3 => 3 | 4 => 4 | 0 => 0 | 20 => 20 | 72 => 167 | 76 => 143 | 70 => 165 | 37 => 38 | 75 => 67 | 127 => 190 | 164 => 217 | 5 => 5 | 80 => 86 | n => n, fun | n => n⟩
theorem Tryz.lays156 : Go.Proofs.Lays.n156 Tryz.prog Tryz.lays156_ren := {
  mixed := by kernel_rfl
  f156 := Tryz.func78.trans (congrArg some (by kernel_rfl))
  f165 := Tryz.func102.trans (congrArg some (by kernel_rfl))
  f166 := Tryz.func103.trans (congrArg some (by kernel_rfl))
  f169 := Tryz.func104.trans (congrArg some (by kernel_rfl))
  f240 := Tryz.func128.trans (congrArg some (by kernel_rfl))
  f241 := Tryz.func129.trans (congrArg some (by kernel_rfl))
  f276 := Tryz.func151.trans (congrArg some (by kernel_rfl))
  f277 := Tryz.func152.trans (congrArg some (by kernel_rfl))
  t0 := Tryz.underlying0
  a0 := Tryz.isAgg0
  z0 := Tryz.sizeOf0
  v0 := Tryz.zeroValue0
  t3 := Tryz.underlying3
  a3 := Tryz.isAgg3
  z3 := Tryz.sizeOf3
  v3 := Tryz.zeroValue3
  t4 := Tryz.underlying4
  a4 := Tryz.isAgg4
  z4 := Tryz.sizeOf4
  v4 := Tryz.zeroValue4
  t9 := Tryz.underlying9
  a9 := Tryz.isAgg9
  z9 := Tryz.sizeOf9
  v9 := Tryz.zeroValue9
  t20 := Tryz.underlying20
  a20 := Tryz.isAgg20
  z20 := Tryz.sizeOf20
  v20 := Tryz.zeroValue20
  t31 := Tryz.underlying42
  a31 := Tryz.isAgg42
  z31 := Tryz.sizeOf42
  v31 := Tryz.zeroValue42
  t37 := Tryz.underlying38
  a37 := Tryz.isAgg38
  z37 := Tryz.sizeOf38
  v37 := Tryz.zeroValue38
  t70 := Tryz.underlying165
  a70 := Tryz.isAgg165
  z70 := Tryz.sizeOf165
  v70 := Tryz.zeroValue165
  t72 := Tryz.underlying167
  a72 := Tryz.isAgg167
  z72 := Tryz.sizeOf167
  v72 := Tryz.zeroValue167
  t75 := Tryz.underlying67
  a75 := Tryz.isAgg67
  z75 := Tryz.sizeOf67
  v75 := Tryz.zeroValue67
  t76 := Tryz.underlying143
  a76 := Tryz.isAgg143
  z76 := Tryz.sizeOf143
  v76 := Tryz.zeroValue143
  t127 := Tryz.underlying190
  a127 := Tryz.isAgg190
  z127 := Tryz.sizeOf190
  v127 := Tryz.zeroValue190
  t164 := Tryz.underlying217
  a164 := Tryz.isAgg217
  z164 := Tryz.sizeOf217
  v164 := Tryz.zeroValue217 }
theorem Tryz.Builder_Extra_156 : Builder.Extra Tryz.prog Tryz.lays156_ren := {
  sizeBuilder := by kernel_rfl
  liesBuilder := by kernel_rfl
  t5 := Tryz.underlying5
  a5 := Tryz.isAgg5
  z5 := Tryz.sizeOf5
  v5 := Tryz.zeroValue5
  infoByte := by kernel_rfl
  cellsByte := by kernel_rfl
  sizeByte := by kernel_rfl
  neB5 := by decide }
open Go.RowKit in
/-- No element: the empty string; the world is as it was. (Whatever the slice's address and capacity: a nil slice too.) (LAID: no walk: one application.) -/
theorem Tryz.strings_Join_none (a : Option Addr) (c : Nat) (sep : ByteArray) (w : World) :
    Calls Tryz.prog 78 #[.slice a 0 c, .string sep] w fun e w' => e = .returned (.string ⟨#[]⟩) ∧ w' = w := Any.strings_Join_none Tryz.lays156 Tryz.Builder_Extra_156 a c sep w
open Go.RowKit in
/-- strings.Join: "Join concatenates the elements of its first argument to create a single string. The separator string sep is placed between elements in the resulting string.": HOWEVER MANY ELEMENTS. Below the heap's end the world is as it was. (LAID: no walk: one application.) -/
theorem Tryz.strings_Join (bk o c : Nat) (xs : List ByteArray) (sep : ByteArray) (w : World) (hcells : ∀ (j : Nat) x, xs[j]? = some x → w.cell? ⟨bk, o + j, none⟩ = some (.string x)) (hbk : bk < w.heap.size) (hN : xs.length ≤ 140737488355328) (hcap : xs.length ≤ c) (hlen : (Lib.join (xs.map (·.data.toList)) sep.data.toList).length ≤ 140737488355328) :
    Calls Tryz.prog 78 #[.slice (some ⟨bk, o, none⟩) xs.length c, .string sep] w fun e w' => e = .returned (.string ⟨(Lib.join (xs.map (·.data.toList)) sep.data.toList).toArray⟩) ∧ Below w.heap.size w w' := Any.strings_Join Tryz.lays156 Tryz.Builder_Extra_156 bk o c xs sep w hcells hbk hN hcap hlen
def Tryz.lays163_ren : Go.Shelf.Ren := ⟨fun | 163 => 83 | 237 => 108 | 199 => 109 | 238 => 110 | 272 => 130 | 261 => 131 | 273 => 132 | 197 => 133 | 315 => 153 | 311 => 154 | 312 => 155 | 271 => 156 | 260 => 157 | 120 => 169 | n => n, fun | 9 => 9 | 37 => 38 | 3 => 3 | 0 => 0 | 5 => 5 | 4 => 4 | 40 => 171 | 119 => 172 | 21 => 21 | 51 => 191 | 141 => 193 | 105 => 195 | 196 => 223 | 193 => 220 | 198 => 226 | 49 => 224 | 194 => 221 | 201 => 229 | 226 => 242 | 46 => 213 | 227 => 243 | 139 => 247 | 138 => 246 | n => n, fun | 0 => 1 | 6 => 8 | 3 => 13 | 4 => 14 | n => n⟩
theorem Tryz.lays163 : Go.Proofs.Lays.n163 Tryz.prog Tryz.lays163_ren := {
  mixed := by kernel_rfl
  f120 := Tryz.func169.trans (congrArg some (by kernel_rfl))
  f163 := Tryz.func83.trans (congrArg some (by kernel_rfl))
  f197 := Tryz.func133.trans (congrArg some (by kernel_rfl))
  f199 := Tryz.func109.trans (congrArg some (by kernel_rfl))
  f237 := Tryz.func108.trans (congrArg some (by kernel_rfl))
  f238 := Tryz.func110.trans (congrArg some (by kernel_rfl))
  f260 := Tryz.func157.trans (congrArg some (by kernel_rfl))
  f261 := Tryz.func131.trans (congrArg some (by kernel_rfl))
  f271 := Tryz.func156.trans (congrArg some (by kernel_rfl))
  f272 := Tryz.func130.trans (congrArg some (by kernel_rfl))
  f273 := Tryz.func132.trans (congrArg some (by kernel_rfl))
  f311 := Tryz.func154.trans (congrArg some (by kernel_rfl))
  f312 := Tryz.func155.trans (congrArg some (by kernel_rfl))
  f315 := Tryz.func153.trans (congrArg some (by kernel_rfl))
  t0 := Tryz.underlying0
  a0 := Tryz.isAgg0
  z0 := Tryz.sizeOf0
  v0 := Tryz.zeroValue0
  t3 := Tryz.underlying3
  a3 := Tryz.isAgg3
  z3 := Tryz.sizeOf3
  v3 := Tryz.zeroValue3
  t4 := Tryz.underlying4
  a4 := Tryz.isAgg4
  z4 := Tryz.sizeOf4
  v4 := Tryz.zeroValue4
  t5 := Tryz.underlying5
  a5 := Tryz.isAgg5
  z5 := Tryz.sizeOf5
  v5 := Tryz.zeroValue5
  t9 := Tryz.underlying9
  a9 := Tryz.isAgg9
  z9 := Tryz.sizeOf9
  v9 := Tryz.zeroValue9
  t21 := Tryz.underlying21
  a21 := Tryz.isAgg21
  z21 := Tryz.sizeOf21
  v21 := Tryz.zeroValue21
  t37 := Tryz.underlying38
  a37 := Tryz.isAgg38
  z37 := Tryz.sizeOf38
  v37 := Tryz.zeroValue38
  t40 := Tryz.underlying171
  a40 := Tryz.isAgg171
  z40 := Tryz.sizeOf171
  v40 := Tryz.zeroValue171
  t46 := Tryz.underlying213
  a46 := Tryz.isAgg213
  z46 := Tryz.sizeOf213
  v46 := Tryz.zeroValue213
  t49 := Tryz.underlying224
  a49 := Tryz.isAgg224
  z49 := Tryz.sizeOf224
  v49 := Tryz.zeroValue224
  t51 := Tryz.underlying191
  a51 := Tryz.isAgg191
  z51 := Tryz.sizeOf191
  v51 := Tryz.zeroValue191
  t105 := Tryz.underlying195
  a105 := Tryz.isAgg195
  z105 := Tryz.sizeOf195
  v105 := Tryz.zeroValue195
  t119 := Tryz.underlying172
  a119 := Tryz.isAgg172
  z119 := Tryz.sizeOf172
  t138 := Tryz.underlying246
  a138 := Tryz.isAgg246
  z138 := Tryz.sizeOf246
  v138 := Tryz.zeroValue246
  t139 := Tryz.underlying247
  a139 := Tryz.isAgg247
  z139 := Tryz.sizeOf247
  v139 := Tryz.zeroValue247
  t141 := Tryz.underlying193
  a141 := Tryz.isAgg193
  z141 := Tryz.sizeOf193
  v141 := Tryz.zeroValue193
  t193 := Tryz.underlying220
  a193 := Tryz.isAgg220
  z193 := Tryz.sizeOf220
  v193 := Tryz.zeroValue220
  t194 := Tryz.underlying221
  a194 := Tryz.isAgg221
  z194 := Tryz.sizeOf221
  v194 := Tryz.zeroValue221
  t196 := Tryz.underlying223
  a196 := Tryz.isAgg223
  z196 := Tryz.sizeOf223
  v196 := Tryz.zeroValue223
  t198 := Tryz.underlying226
  a198 := Tryz.isAgg226
  z198 := Tryz.sizeOf226
  v198 := Tryz.zeroValue226
  t201 := Tryz.underlying229
  a201 := Tryz.isAgg229
  z201 := Tryz.sizeOf229
  v201 := Tryz.zeroValue229
  t226 := Tryz.underlying242
  a226 := Tryz.isAgg242
  z226 := Tryz.sizeOf242
  v226 := Tryz.zeroValue242
  t227 := Tryz.underlying243
  a227 := Tryz.isAgg243
  z227 := Tryz.sizeOf243
  v227 := Tryz.zeroValue243
  g0 := by kernel_rfl
  g3 := by kernel_rfl
  g4 := by kernel_rfl
  g6 := by kernel_rfl }
theorem Tryz.Space_Extra_163 : Space.Extra Tryz.prog Tryz.lays163_ren := {
  gNamed := by kernel_rfl }
open Go.RowKit in
theorem Tryz.strings_TrimSpace (s : ByteArray) (w : World) (hs : s.size ≤ 9223372036854775807) (hascii : ∀ (j : Nat) b, s.data.toList[j]? = some b → b.toNat < 128) (htab : Lib.TabIs Tryz.prog w "strings.asciiSpace" .u8 Lib.asciiSpaceTab) :
    Calls Tryz.prog 83 #[.string s] w fun e w' => e = .returned (.string ⟨(Lib.trimSpace s.data.toList).toArray⟩) ∧ w' = Lib.bytesWorld w 5 s := Any.strings_TrimSpace Tryz.lays163 Tryz.Space_Extra_163 s w hs hascii htab
def Tryz.lays118_ren : Go.Shelf.Ren := ⟨fun | 118 => 158 | n => n, fun | 21 => 21 | 3 => 3 | 4 => 4 | n => n, fun | n => n⟩
theorem Tryz.lays118 : Go.Proofs.Lays.n118 Tryz.prog Tryz.lays118_ren := {
  mixed := by kernel_rfl
  f118 := Tryz.func158.trans (congrArg some (by kernel_rfl))
  t3 := Tryz.underlying3
  a3 := Tryz.isAgg3
  z3 := Tryz.sizeOf3
  v3 := Tryz.zeroValue3
  t4 := Tryz.underlying4
  a4 := Tryz.isAgg4
  z4 := Tryz.sizeOf4
  v4 := Tryz.zeroValue4
  t21 := Tryz.underlying21
  a21 := Tryz.isAgg21
  z21 := Tryz.sizeOf21
  v21 := Tryz.zeroValue21 }
/-- utf8.RuneLen: "RuneLen returns the number of bytes in the UTF-8 encoding of the rune. It returns -1 if the rune is not a valid value to encode in UTF-8.": IT RETURNS 'Lib.runeLen r'; the world is as it was. (LAID: no walk: one application.) -/
theorem Tryz.utf8_RuneLen (r : Int) (w : World) :
    Calls Tryz.prog 158 #[.int .i32 r] w fun e w' => e = .returned (.int .i64 (Lib.runeLen r)) ∧ w' = w := Any.utf8_RuneLen Tryz.lays118 r w
def Tryz.lays120_ren : Go.Shelf.Ren := ⟨fun | 120 => 169 | n => n, fun | 5 => 5 | 4 => 4 | n => n, fun | n => n⟩
theorem Tryz.lays120 : Go.Proofs.Lays.n120 Tryz.prog Tryz.lays120_ren := {
  mixed := by kernel_rfl
  f120 := Tryz.func169.trans (congrArg some (by kernel_rfl))
  t4 := Tryz.underlying4
  a4 := Tryz.isAgg4
  z4 := Tryz.sizeOf4
  v4 := Tryz.zeroValue4
  t5 := Tryz.underlying5
  a5 := Tryz.isAgg5
  z5 := Tryz.sizeOf5
  v5 := Tryz.zeroValue5 }
/-- utf8.RuneStart: "RuneStart reports whether the byte could be the first byte of an encoded, possibly invalid rune. Second and subsequent bytes always have the top two bits set to 10.": IT RETURNS 'Lib.runeStart b'; the world is as it was. ('h0', 'h1': b is a byte: a caller has it of every byte that it was handed.) (LAID: no walk: one application.) -/
theorem Tryz.utf8_RuneStart (b : Int) (w : World) (h0 : 0 ≤ b) (h1 : b < 256) :
    Calls Tryz.prog 169 #[.int .u8 b] w fun e w' => e = .returned (.bool (Lib.runeStart b)) ∧ w' = w := Any.utf8_RuneStart Tryz.lays120 b w h0 h1
def Tryz.lays244_ren : Go.Shelf.Ren := ⟨fun | 244 => 117 | 247 => 140 | 287 => 165 | 321 => 172 | 322 => 173 | n => n, fun | 9 => 9 | 3 => 3 | 75 => 67 | 4 => 4 | 5 => 5 | 167 => 204 | 37 => 38 | 0 => 0 | 85 => 205 | 2 => 2 | 53 => 180 | 175 => 237 | 46 => 213 | 21 => 21 | 80 => 86 | n => n, fun | n => n⟩
theorem Tryz.lays244 : Go.Proofs.Lays.n244 Tryz.prog Tryz.lays244_ren := {
  mixed := by kernel_rfl
  f244 := Tryz.func117.trans (congrArg some (by kernel_rfl))
  f247 := Tryz.func140.trans (congrArg some (by kernel_rfl))
  f287 := Tryz.func165.trans (congrArg some (by kernel_rfl))
  f321 := Tryz.func172.trans (congrArg some (by kernel_rfl))
  f322 := Tryz.func173.trans (congrArg some (by kernel_rfl))
  t0 := Tryz.underlying0
  a0 := Tryz.isAgg0
  z0 := Tryz.sizeOf0
  v0 := Tryz.zeroValue0
  t2 := Tryz.underlying2
  a2 := Tryz.isAgg2
  z2 := Tryz.sizeOf2
  v2 := Tryz.zeroValue2
  t3 := Tryz.underlying3
  a3 := Tryz.isAgg3
  z3 := Tryz.sizeOf3
  v3 := Tryz.zeroValue3
  t4 := Tryz.underlying4
  a4 := Tryz.isAgg4
  z4 := Tryz.sizeOf4
  v4 := Tryz.zeroValue4
  t5 := Tryz.underlying5
  a5 := Tryz.isAgg5
  z5 := Tryz.sizeOf5
  v5 := Tryz.zeroValue5
  t9 := Tryz.underlying9
  a9 := Tryz.isAgg9
  z9 := Tryz.sizeOf9
  v9 := Tryz.zeroValue9
  t21 := Tryz.underlying21
  a21 := Tryz.isAgg21
  z21 := Tryz.sizeOf21
  v21 := Tryz.zeroValue21
  t37 := Tryz.underlying38
  a37 := Tryz.isAgg38
  z37 := Tryz.sizeOf38
  v37 := Tryz.zeroValue38
  t46 := Tryz.underlying213
  a46 := Tryz.isAgg213
  z46 := Tryz.sizeOf213
  v46 := Tryz.zeroValue213
  t53 := Tryz.underlying180
  a53 := Tryz.isAgg180
  z53 := Tryz.sizeOf180
  v53 := Tryz.zeroValue180
  t75 := Tryz.underlying67
  a75 := Tryz.isAgg67
  z75 := Tryz.sizeOf67
  v75 := Tryz.zeroValue67
  t85 := Tryz.underlying205
  a85 := Tryz.isAgg205
  z85 := Tryz.sizeOf205
  v85 := Tryz.zeroValue205
  t167 := Tryz.underlying204
  a167 := Tryz.isAgg204
  z167 := Tryz.sizeOf204
  v167 := Tryz.zeroValue204
  t175 := Tryz.underlying237
  a175 := Tryz.isAgg237
  z175 := Tryz.sizeOf237
  v175 := Tryz.zeroValue237 }
open Go.RowKit in
/-- internal/strconv.Atoi, at a decimal numeral of at most 18 bytes: ITS VALUE, AND NO ERROR. The world behind the call: the one new row that '[]byte(s)' lays. (LAID: no walk: one application.) -/
theorem Tryz.internal_strconv_Atoi (s : ByteArray) (n : Int) (hl : s.size ≤ 18) (h : Lib.atoi s.data.toList = some n) (w : World) :
    Calls Tryz.prog 117 #[.string s] w fun e w' => e = .returned (.tuple #[.int .i64 n, .nilIface]) ∧ ∃ t, w' = Lib.bytesWorld w 5 t := Any.internal_strconv_Atoi Tryz.lays244 s n hl h w
def Tryz.lays172_ren : Go.Shelf.Ren := ⟨fun | 172 => 89 | 244 => 117 | 245 => 118 | 247 => 140 | 279 => 141 | 280 => 142 | 281 => 143 | 282 => 144 | 287 => 165 | 316 => 166 | 171 => 35 | 205 => 71 | 321 => 172 | 322 => 173 | 243 => 65 | 246 => 93 | 283 => 119 | 284 => 120 | 285 => 121 | 286 => 122 | 129 => 146 | 317 => 145 | 318 => 147 | 319 => 148 | 320 => 149 | 337 => 167 | 338 => 168 | n => n, fun | 9 => 9 | 3 => 3 | 75 => 67 | 76 => 143 | 4 => 4 | 5 => 5 | 167 => 204 | 37 => 38 | 0 => 0 | 85 => 205 | 2 => 2 | 168 => 207 | 53 => 180 | 175 => 237 | 46 => 213 | 210 => 240 | 127 => 190 | 145 => 159 | 143 => 157 | 21 => 21 | 171 => 179 | 173 => 183 | 212 => 211 | 51 => 191 | 20 => 20 | 213 => 212 | 232 => 254 | 233 => 255 | 80 => 86 | n => n, fun | 15 => 10 | 16 => 11 | 17 => 9 | 18 => 16 | 19 => 17 | n => n⟩
theorem Tryz.lays172 : Go.Proofs.Lays.n172 Tryz.prog Tryz.lays172_ren := {
  mixed := by kernel_rfl
  f129 := Tryz.func146.trans (congrArg some (by kernel_rfl))
  f171 := Tryz.func35.trans (congrArg some (by kernel_rfl))
  f172 := Tryz.func89.trans (congrArg some (by kernel_rfl))
  f205 := Tryz.func71.trans (congrArg some (by kernel_rfl))
  f243 := Tryz.func65.trans (congrArg some (by kernel_rfl))
  f244 := Tryz.func117.trans (congrArg some (by kernel_rfl))
  f245 := Tryz.func118.trans (congrArg some (by kernel_rfl))
  f246 := Tryz.func93.trans (congrArg some (by kernel_rfl))
  f247 := Tryz.func140.trans (congrArg some (by kernel_rfl))
  f279 := Tryz.func141.trans (congrArg some (by kernel_rfl))
  f280 := Tryz.func142.trans (congrArg some (by kernel_rfl))
  f281 := Tryz.func143.trans (congrArg some (by kernel_rfl))
  f282 := Tryz.func144.trans (congrArg some (by kernel_rfl))
  f283 := Tryz.func119.trans (congrArg some (by kernel_rfl))
  f284 := Tryz.func120.trans (congrArg some (by kernel_rfl))
  f285 := Tryz.func121.trans (congrArg some (by kernel_rfl))
  f286 := Tryz.func122.trans (congrArg some (by kernel_rfl))
  f287 := Tryz.func165.trans (congrArg some (by kernel_rfl))
  f316 := Tryz.func166.trans (congrArg some (by kernel_rfl))
  f317 := Tryz.func145.trans (congrArg some (by kernel_rfl))
  f318 := Tryz.func147.trans (congrArg some (by kernel_rfl))
  f319 := Tryz.func148.trans (congrArg some (by kernel_rfl))
  f320 := Tryz.func149.trans (congrArg some (by kernel_rfl))
  f321 := Tryz.func172.trans (congrArg some (by kernel_rfl))
  f322 := Tryz.func173.trans (congrArg some (by kernel_rfl))
  f337 := Tryz.func167.trans (congrArg some (by kernel_rfl))
  f338 := Tryz.func168.trans (congrArg some (by kernel_rfl))
  t0 := Tryz.underlying0
  a0 := Tryz.isAgg0
  z0 := Tryz.sizeOf0
  v0 := Tryz.zeroValue0
  t2 := Tryz.underlying2
  a2 := Tryz.isAgg2
  z2 := Tryz.sizeOf2
  v2 := Tryz.zeroValue2
  t3 := Tryz.underlying3
  a3 := Tryz.isAgg3
  z3 := Tryz.sizeOf3
  v3 := Tryz.zeroValue3
  t4 := Tryz.underlying4
  a4 := Tryz.isAgg4
  z4 := Tryz.sizeOf4
  v4 := Tryz.zeroValue4
  t5 := Tryz.underlying5
  a5 := Tryz.isAgg5
  z5 := Tryz.sizeOf5
  v5 := Tryz.zeroValue5
  t9 := Tryz.underlying9
  a9 := Tryz.isAgg9
  z9 := Tryz.sizeOf9
  v9 := Tryz.zeroValue9
  t20 := Tryz.underlying20
  a20 := Tryz.isAgg20
  z20 := Tryz.sizeOf20
  v20 := Tryz.zeroValue20
  t21 := Tryz.underlying21
  a21 := Tryz.isAgg21
  z21 := Tryz.sizeOf21
  v21 := Tryz.zeroValue21
  t37 := Tryz.underlying38
  a37 := Tryz.isAgg38
  z37 := Tryz.sizeOf38
  v37 := Tryz.zeroValue38
  t46 := Tryz.underlying213
  a46 := Tryz.isAgg213
  z46 := Tryz.sizeOf213
  v46 := Tryz.zeroValue213
  t51 := Tryz.underlying191
  a51 := Tryz.isAgg191
  z51 := Tryz.sizeOf191
  v51 := Tryz.zeroValue191
  t53 := Tryz.underlying180
  a53 := Tryz.isAgg180
  z53 := Tryz.sizeOf180
  v53 := Tryz.zeroValue180
  t75 := Tryz.underlying67
  a75 := Tryz.isAgg67
  z75 := Tryz.sizeOf67
  v75 := Tryz.zeroValue67
  t76 := Tryz.underlying143
  a76 := Tryz.isAgg143
  z76 := Tryz.sizeOf143
  v76 := Tryz.zeroValue143
  t85 := Tryz.underlying205
  a85 := Tryz.isAgg205
  z85 := Tryz.sizeOf205
  v85 := Tryz.zeroValue205
  t127 := Tryz.underlying190
  a127 := Tryz.isAgg190
  z127 := Tryz.sizeOf190
  v127 := Tryz.zeroValue190
  t143 := Tryz.underlying157
  a143 := Tryz.isAgg157
  z143 := Tryz.sizeOf157
  v143 := Tryz.zeroValue157
  t145 := Tryz.underlying159
  a145 := Tryz.isAgg159
  z145 := Tryz.sizeOf159
  v145 := Tryz.zeroValue159
  t167 := Tryz.underlying204
  a167 := Tryz.isAgg204
  z167 := Tryz.sizeOf204
  v167 := Tryz.zeroValue204
  t168 := Tryz.underlying207
  a168 := Tryz.isAgg207
  z168 := Tryz.sizeOf207
  v168 := Tryz.zeroValue207
  t171 := Tryz.underlying179
  a171 := Tryz.isAgg179
  z171 := Tryz.sizeOf179
  v171 := Tryz.zeroValue179
  t173 := Tryz.underlying183
  a173 := Tryz.isAgg183
  z173 := Tryz.sizeOf183
  v173 := Tryz.zeroValue183
  t175 := Tryz.underlying237
  a175 := Tryz.isAgg237
  z175 := Tryz.sizeOf237
  v175 := Tryz.zeroValue237
  t210 := Tryz.underlying240
  a210 := Tryz.isAgg240
  z210 := Tryz.sizeOf240
  v210 := Tryz.zeroValue240
  t212 := Tryz.underlying211
  a212 := Tryz.isAgg211
  z212 := Tryz.sizeOf211
  v212 := Tryz.zeroValue211
  t213 := Tryz.underlying212
  a213 := Tryz.isAgg212
  z213 := Tryz.sizeOf212
  t232 := Tryz.underlying254
  a232 := Tryz.isAgg254
  z232 := Tryz.sizeOf254
  v232 := Tryz.zeroValue254
  t233 := Tryz.underlying255
  a233 := Tryz.isAgg255
  z233 := Tryz.sizeOf255
  v233 := Tryz.zeroValue255
  g15 := by kernel_rfl
  g16 := by kernel_rfl
  g17 := by kernel_rfl
  g18 := by kernel_rfl
  g19 := by kernel_rfl }
open Go.RowKit in
/-- strconv.Atoi: "Atoi is equivalent to ParseInt(s, 10, 0), converted to type int.": AT A DECIMAL NUMERAL OF AT MOST 18 BYTES: its value, and a nil error. The world behind the call: the one new row that the library's '[]byte(s)' lays. (LAID: no walk: one application.) -/
theorem Tryz.strconv_Atoi (s : ByteArray) (n : Int) (hl : s.size ≤ 18) (h : Lib.atoi s.data.toList = some n) (w : World) :
    Calls Tryz.prog 89 #[.string s] w fun e w' => e = .returned (.tuple #[.int .i64 n, .nilIface]) ∧ ∃ t, w' = Lib.bytesWorld w 5 t := Any.strconv_Atoi Tryz.lays172 s n hl h w
def Tryz.lays129_ren : Go.Shelf.Ren := ⟨fun | 129 => 146 | n => n, fun | 53 => 180 | 3 => 3 | 4 => 4 | 46 => 213 | 5 => 5 | 9 => 9 | n => n, fun | n => n⟩
theorem Tryz.lays129 : Go.Proofs.Lays.n129 Tryz.prog Tryz.lays129_ren := {
  mixed := by kernel_rfl
  f129 := Tryz.func146.trans (congrArg some (by kernel_rfl))
  t3 := Tryz.underlying3
  a3 := Tryz.isAgg3
  z3 := Tryz.sizeOf3
  v3 := Tryz.zeroValue3
  t4 := Tryz.underlying4
  a4 := Tryz.isAgg4
  z4 := Tryz.sizeOf4
  v4 := Tryz.zeroValue4
  t5 := Tryz.underlying5
  a5 := Tryz.isAgg5
  z5 := Tryz.sizeOf5
  v5 := Tryz.zeroValue5
  t9 := Tryz.underlying9
  a9 := Tryz.isAgg9
  z9 := Tryz.sizeOf9
  v9 := Tryz.zeroValue9
  t46 := Tryz.underlying213
  a46 := Tryz.isAgg213
  z46 := Tryz.sizeOf213
  v46 := Tryz.zeroValue213
  t53 := Tryz.underlying180
  a53 := Tryz.isAgg180
  z53 := Tryz.sizeOf180
  v53 := Tryz.zeroValue180 }
/-- bits.Len64: "Len64 returns the minimum number of bits required to represent x; the result is 0 for x == 0.": IT RETURNS 'Lib.bitLen x'; the world is as it was. ('h0', 'h1': x is a uint64.) (LAID: no walk: one application.) -/
theorem Tryz.bits_Len64 (x : Int) (w : World) (h0 : 0 ≤ x) (h1 : x ≤ 18446744073709551615) :
    Calls Tryz.prog 146 #[.int .u64 x] w fun e w' => e = .returned (.int .i64 (Lib.bitLen x.toNat)) ∧ w' = w := Any.bits_Len64 Tryz.lays129 x w h0 h1
def Tryz.lays317_ren : Go.Shelf.Ren := ⟨fun | 317 => 145 | n => n, fun | 3 => 3 | 46 => 213 | n => n, fun | n => n⟩
theorem Tryz.lays317 : Go.Proofs.Lays.n317 Tryz.prog Tryz.lays317_ren := {
  mixed := by kernel_rfl
  f317 := Tryz.func145.trans (congrArg some (by kernel_rfl))
  t3 := Tryz.underlying3
  a3 := Tryz.isAgg3
  z3 := Tryz.sizeOf3
  v3 := Tryz.zeroValue3
  t46 := Tryz.underlying213
  a46 := Tryz.isAgg213
  z46 := Tryz.sizeOf213
  v46 := Tryz.zeroValue213 }
open Go.Lib in
/-- internal/strconv.log10Pow2: "log10Pow2(x) returns ⌊log₁₀ 2**x⌋ = ⌊x * log₁₀ 2⌋.": '(x * 78913) >> 18', at an x up to 64 (a length in bits). The world is as it was. (LAID: no walk: one application.) -/
theorem Tryz.internal_strconv_log10Pow2 (x : Nat) (h : x ≤ 64) (w : World) :
    Calls Tryz.prog 145 #[.int .i64 x] w fun e w' => e = .returned (.int .i64 (Lib.l10 x)) ∧ w' = w := Any.internal_strconv_log10Pow2 Tryz.lays317 x h w
def Tryz.lays318_ren : Go.Shelf.Ren := ⟨fun | 318 => 147 | n => n, fun | 3 => 3 | 4 => 4 | n => n, fun | n => n⟩
theorem Tryz.lays318 : Go.Proofs.Lays.n318 Tryz.prog Tryz.lays318_ren := {
  mixed := by kernel_rfl
  f318 := Tryz.func147.trans (congrArg some (by kernel_rfl))
  t3 := Tryz.underlying3
  a3 := Tryz.isAgg3
  z3 := Tryz.sizeOf3
  v3 := Tryz.zeroValue3
  t4 := Tryz.underlying4
  a4 := Tryz.isAgg4
  z4 := Tryz.sizeOf4
  v4 := Tryz.zeroValue4 }
open Go.Lib in
/-- internal/strconv.bool2: "bool2 converts b to an integer: 1 for true, 0 for false." The world is as it was. (LAID: no walk: one application.) -/
theorem Tryz.internal_strconv_bool2_int (b : Bool) (w : World) :
    Calls Tryz.prog 147 #[.bool b] w fun e w' => e = .returned (.int .i64 (if b then 1 else 0)) ∧ w' = w := Any.internal_strconv_bool2_int Tryz.lays318 b w
def Tryz.lays283_ren : Go.Shelf.Ren := ⟨fun | 283 => 119 | n => n, fun | 3 => 3 | 9 => 9 | 4 => 4 | n => n, fun | n => n⟩
theorem Tryz.lays283 : Go.Proofs.Lays.n283 Tryz.prog Tryz.lays283_ren := {
  mixed := by kernel_rfl
  f283 := Tryz.func119.trans (congrArg some (by kernel_rfl))
  t3 := Tryz.underlying3
  a3 := Tryz.isAgg3
  z3 := Tryz.sizeOf3
  v3 := Tryz.zeroValue3
  t4 := Tryz.underlying4
  a4 := Tryz.isAgg4
  z4 := Tryz.sizeOf4
  v4 := Tryz.zeroValue4
  t9 := Tryz.underlying9
  a9 := Tryz.isAgg9
  z9 := Tryz.sizeOf9
  v9 := Tryz.zeroValue9 }
open Go.Lib in
/-- internal/strconv.small: "small returns the string for an i with 0 <= i < nSmalls.": i's decimal numeral. The world is as it was. (LAID: no walk: one application.) -/
theorem Tryz.internal_strconv_small (i : Nat) (h : i < 100) (w : World) :
    Calls Tryz.prog 119 #[.int .i64 i] w fun e w' => e = .returned (.string ⟨(Lib.decDigits i).toArray⟩) ∧ w' = w := Any.internal_strconv_small Tryz.lays283 i h w
def Tryz.laysM284_ren : Go.Shelf.Ren := ⟨fun | 284 => 120 | 129 => 146 | 317 => 145 | 318 => 147 | n => n, fun | 53 => 180 | 3 => 3 | 212 => 211 | 0 => 0 | 4 => 4 | 46 => 213 | 5 => 5 | 9 => 9 | n => n, fun | 17 => 9 | n => n⟩
theorem Tryz.laysM284 : Go.Proofs.LaysM.n284 Tryz.prog Tryz.laysM284_ren := {
  mixed := by kernel_rfl
  f129 := Tryz.func146.trans (congrArg some (by kernel_rfl))
  f284 := Tryz.func120.trans (congrArg some (by kernel_rfl))
  f317 := Tryz.func145.trans (congrArg some (by kernel_rfl))
  f318 := Tryz.func147.trans (congrArg some (by kernel_rfl))
  t0 := Tryz.underlying0
  a0 := Tryz.isAgg0
  z0 := Tryz.sizeOf0
  v0 := Tryz.zeroValue0
  t3 := Tryz.underlying3
  a3 := Tryz.isAgg3
  z3 := Tryz.sizeOf3
  v3 := Tryz.zeroValue3
  t4 := Tryz.underlying4
  a4 := Tryz.isAgg4
  z4 := Tryz.sizeOf4
  v4 := Tryz.zeroValue4
  t5 := Tryz.underlying5
  a5 := Tryz.isAgg5
  z5 := Tryz.sizeOf5
  v5 := Tryz.zeroValue5
  t9 := Tryz.underlying9
  a9 := Tryz.isAgg9
  z9 := Tryz.sizeOf9
  v9 := Tryz.zeroValue9
  t46 := Tryz.underlying213
  a46 := Tryz.isAgg213
  z46 := Tryz.sizeOf213
  v46 := Tryz.zeroValue213
  t53 := Tryz.underlying180
  a53 := Tryz.isAgg180
  z53 := Tryz.sizeOf180
  v53 := Tryz.zeroValue180
  t212 := Tryz.underlying211
  a212 := Tryz.isAgg211
  z212 := Tryz.sizeOf211
  v212 := Tryz.zeroValue211
  g17 := by kernel_rfl
  i0 := by kernel_rfl
  i3 := by kernel_rfl
  i4 := by kernel_rfl
  i5 := by kernel_rfl
  i9 := by kernel_rfl
  i46 := by kernel_rfl
  i53 := by kernel_rfl
  i212 := by kernel_rfl
  m17 := by kernel_rfl }
open Go.Lib in
/-- internal/strconv.numDigits, at a d that is not 0: THE NUMBER OF d's DECIMAL DIGITS. The world is as it was. (LAID: no walk: one application.) -/
theorem Tryz.internal_strconv_numDigits (u : Nat) (h1 : 1 ≤ u) (h2 : u < 18446744073709551616) (w : World) (htab : Lib.TabIs Tryz.prog w "internal/strconv.uint64pow10" .u64 Lib.pow10Tab) :
    Calls Tryz.prog 120 #[.int .u64 u] w fun e w' => e = .returned (.int .i64 (Lib.nDigits u)) ∧ w' = w := Any.internal_strconv_numDigits Tryz.laysM284 u h1 h2 w htab
def Tryz.lays285_ren : Go.Shelf.Ren := ⟨fun | 285 => 121 | n => n, fun | 37 => 38 | 53 => 180 | 3 => 3 | 4 => 4 | 51 => 191 | 9 => 9 | 5 => 5 | 0 => 0 | n => n, fun | n => n⟩
theorem Tryz.lays285 : Go.Proofs.Lays.n285 Tryz.prog Tryz.lays285_ren := {
  mixed := by kernel_rfl
  f285 := Tryz.func121.trans (congrArg some (by kernel_rfl))
  t0 := Tryz.underlying0
  a0 := Tryz.isAgg0
  z0 := Tryz.sizeOf0
  v0 := Tryz.zeroValue0
  t3 := Tryz.underlying3
  a3 := Tryz.isAgg3
  z3 := Tryz.sizeOf3
  v3 := Tryz.zeroValue3
  t4 := Tryz.underlying4
  a4 := Tryz.isAgg4
  z4 := Tryz.sizeOf4
  v4 := Tryz.zeroValue4
  t5 := Tryz.underlying5
  a5 := Tryz.isAgg5
  z5 := Tryz.sizeOf5
  v5 := Tryz.zeroValue5
  t9 := Tryz.underlying9
  a9 := Tryz.isAgg9
  z9 := Tryz.sizeOf9
  v9 := Tryz.zeroValue9
  t37 := Tryz.underlying38
  a37 := Tryz.isAgg38
  z37 := Tryz.sizeOf38
  v37 := Tryz.zeroValue38
  t51 := Tryz.underlying191
  a51 := Tryz.isAgg191
  z51 := Tryz.sizeOf191
  v51 := Tryz.zeroValue191
  t53 := Tryz.underlying180
  a53 := Tryz.isAgg180
  z53 := Tryz.sizeOf180
  v53 := Tryz.zeroValue180 }
open Go.RowKit Go.Sort Go.Lib in
/-- internal/strconv.formatBase10: "formatBase10 formats the decimal representation of u into a. The caller is responsible for ensuring that a is big enough to hold u. If a is too big, leading zeros will be filled in as needed.": THE ROW HOLDS u's DIGITS ('FmtInv .. 0 ..': every place t holds 'dg u (len - 1 - t)'); all else is as it was but for the count of draws. (LAID: no walk: one application.) -/
theorem Tryz.internal_strconv_formatBase10 (blk off cap : Nat) (u : Nat) (d : Array UInt8) (w : World) (hH : Holds (fun (b : UInt8) => Value.int .u8 (b.toNat : Int)) w blk off d) (hu : u < 10 ^ d.size) (hu64 : u < 18446744073709551616) (hsz : d.size < 4611686018427387904) :
    Calls Tryz.prog 121 #[.slice (some ⟨blk, off, none⟩) d.size cap, .int .u64 u] w fun e w' =>
      e = .returned (.tuple #[]) ∧ ∃ (n v' : Nat) (dk : Array UInt8), w' = (putRow (fun (b : UInt8) => Value.int .u8 (b.toNat : Int)) w blk off dk).drewN n ∧ FmtInv d.size u 0 v' dk := Any.internal_strconv_formatBase10 Tryz.lays285 blk off cap u d w hH hu hu64 hsz
def Tryz.laysM246_ren : Go.Shelf.Ren := ⟨fun | 246 => 93 | 283 => 119 | 284 => 120 | 285 => 121 | 286 => 122 | 129 => 146 | 317 => 145 | 318 => 147 | 319 => 148 | 320 => 149 | 337 => 167 | 338 => 168 | n => n, fun | 2 => 2 | 3 => 3 | 9 => 9 | 4 => 4 | 171 => 179 | 0 => 0 | 53 => 180 | 37 => 38 | 5 => 5 | 173 => 183 | 212 => 211 | 51 => 191 | 20 => 20 | 213 => 212 | 46 => 213 | 232 => 254 | 233 => 255 | n => n, fun | 17 => 9 | 18 => 16 | 19 => 17 | n => n⟩
theorem Tryz.laysM246 : Go.Proofs.LaysM.n246 Tryz.prog Tryz.laysM246_ren := {
  mixed := by kernel_rfl
  f129 := Tryz.func146.trans (congrArg some (by kernel_rfl))
  f246 := Tryz.func93.trans (congrArg some (by kernel_rfl))
  f283 := Tryz.func119.trans (congrArg some (by kernel_rfl))
  f284 := Tryz.func120.trans (congrArg some (by kernel_rfl))
  f285 := Tryz.func121.trans (congrArg some (by kernel_rfl))
  f286 := Tryz.func122.trans (congrArg some (by kernel_rfl))
  f317 := Tryz.func145.trans (congrArg some (by kernel_rfl))
  f318 := Tryz.func147.trans (congrArg some (by kernel_rfl))
  f319 := Tryz.func148.trans (congrArg some (by kernel_rfl))
  f320 := Tryz.func149.trans (congrArg some (by kernel_rfl))
  f337 := Tryz.func167.trans (congrArg some (by kernel_rfl))
  f338 := Tryz.func168.trans (congrArg some (by kernel_rfl))
  t0 := Tryz.underlying0
  a0 := Tryz.isAgg0
  z0 := Tryz.sizeOf0
  v0 := Tryz.zeroValue0
  t2 := Tryz.underlying2
  a2 := Tryz.isAgg2
  z2 := Tryz.sizeOf2
  v2 := Tryz.zeroValue2
  t3 := Tryz.underlying3
  a3 := Tryz.isAgg3
  z3 := Tryz.sizeOf3
  v3 := Tryz.zeroValue3
  t4 := Tryz.underlying4
  a4 := Tryz.isAgg4
  z4 := Tryz.sizeOf4
  v4 := Tryz.zeroValue4
  t5 := Tryz.underlying5
  a5 := Tryz.isAgg5
  z5 := Tryz.sizeOf5
  v5 := Tryz.zeroValue5
  t9 := Tryz.underlying9
  a9 := Tryz.isAgg9
  z9 := Tryz.sizeOf9
  v9 := Tryz.zeroValue9
  t20 := Tryz.underlying20
  a20 := Tryz.isAgg20
  z20 := Tryz.sizeOf20
  v20 := Tryz.zeroValue20
  t37 := Tryz.underlying38
  a37 := Tryz.isAgg38
  z37 := Tryz.sizeOf38
  v37 := Tryz.zeroValue38
  t46 := Tryz.underlying213
  a46 := Tryz.isAgg213
  z46 := Tryz.sizeOf213
  v46 := Tryz.zeroValue213
  t51 := Tryz.underlying191
  a51 := Tryz.isAgg191
  z51 := Tryz.sizeOf191
  v51 := Tryz.zeroValue191
  t53 := Tryz.underlying180
  a53 := Tryz.isAgg180
  z53 := Tryz.sizeOf180
  v53 := Tryz.zeroValue180
  t171 := Tryz.underlying179
  a171 := Tryz.isAgg179
  z171 := Tryz.sizeOf179
  v171 := Tryz.zeroValue179
  t173 := Tryz.underlying183
  a173 := Tryz.isAgg183
  z173 := Tryz.sizeOf183
  v173 := Tryz.zeroValue183
  t212 := Tryz.underlying211
  a212 := Tryz.isAgg211
  z212 := Tryz.sizeOf211
  v212 := Tryz.zeroValue211
  t213 := Tryz.underlying212
  a213 := Tryz.isAgg212
  z213 := Tryz.sizeOf212
  t232 := Tryz.underlying254
  a232 := Tryz.isAgg254
  z232 := Tryz.sizeOf254
  v232 := Tryz.zeroValue254
  t233 := Tryz.underlying255
  a233 := Tryz.isAgg255
  z233 := Tryz.sizeOf255
  v233 := Tryz.zeroValue255
  g17 := by kernel_rfl
  g18 := by kernel_rfl
  g19 := by kernel_rfl
  i0 := by kernel_rfl
  i2 := by kernel_rfl
  i3 := by kernel_rfl
  i4 := by kernel_rfl
  i5 := by kernel_rfl
  i9 := by kernel_rfl
  i20 := by kernel_rfl
  i37 := by kernel_rfl
  i46 := by kernel_rfl
  i51 := by kernel_rfl
  i53 := by kernel_rfl
  i171 := by kernel_rfl
  i173 := by kernel_rfl
  i212 := by kernel_rfl
  i232 := by kernel_rfl
  i233 := by kernel_rfl
  m17 := by kernel_rfl
  m18 := by kernel_rfl
  m19 := by kernel_rfl }
open Go.RowKit Go.Sort Go.Lib in
/-- internal/strconv.FormatInt: "FormatInt returns the string representation of i in the given base": AT BASE 10: i's decimal numeral, for every int64. The world behind the call: the world before it, new blocks behind the heap, draws. (LAID: no walk: one application.) -/
theorem Tryz.internal_strconv_FormatInt_10 (n : Int) (h0 : -9223372036854775808 ≤ n) (h1 : n ≤ 9223372036854775807) (w : World) (htab : Lib.TabIs Tryz.prog w "internal/strconv.uint64pow10" .u64 Lib.pow10Tab) :
    Calls Tryz.prog 93 #[.int .i64 n, .int .i64 10] w fun e w' => e = .returned (.string ⟨(Lib.itoa n).toArray⟩) ∧ ∃ k os, w' = grow (w.drewN k) os := Any.internal_strconv_FormatInt_10 Tryz.laysM246 n h0 h1 w htab
def Tryz.lays246_ren : Go.Shelf.Ren := ⟨fun | 246 => 93 | 283 => 119 | 284 => 120 | 285 => 121 | 286 => 122 | 129 => 146 | 317 => 145 | 318 => 147 | 319 => 148 | 320 => 149 | 337 => 167 | 338 => 168 | n => n, fun | 2 => 2 | 3 => 3 | 9 => 9 | 4 => 4 | 171 => 179 | 0 => 0 | 53 => 180 | 37 => 38 | 5 => 5 | 173 => 183 | 212 => 211 | 51 => 191 | 20 => 20 | 213 => 212 | 46 => 213 | 232 => 254 | 233 => 255 | n => n, fun | 17 => 9 | 18 => 16 | 19 => 17 | n => n⟩
theorem Tryz.lays246 : Go.Proofs.Lays.n246 Tryz.prog Tryz.lays246_ren := {
  mixed := by kernel_rfl
  f129 := Tryz.func146.trans (congrArg some (by kernel_rfl))
  f246 := Tryz.func93.trans (congrArg some (by kernel_rfl))
  f283 := Tryz.func119.trans (congrArg some (by kernel_rfl))
  f284 := Tryz.func120.trans (congrArg some (by kernel_rfl))
  f285 := Tryz.func121.trans (congrArg some (by kernel_rfl))
  f286 := Tryz.func122.trans (congrArg some (by kernel_rfl))
  f317 := Tryz.func145.trans (congrArg some (by kernel_rfl))
  f318 := Tryz.func147.trans (congrArg some (by kernel_rfl))
  f319 := Tryz.func148.trans (congrArg some (by kernel_rfl))
  f320 := Tryz.func149.trans (congrArg some (by kernel_rfl))
  f337 := Tryz.func167.trans (congrArg some (by kernel_rfl))
  f338 := Tryz.func168.trans (congrArg some (by kernel_rfl))
  t0 := Tryz.underlying0
  a0 := Tryz.isAgg0
  z0 := Tryz.sizeOf0
  v0 := Tryz.zeroValue0
  t2 := Tryz.underlying2
  a2 := Tryz.isAgg2
  z2 := Tryz.sizeOf2
  v2 := Tryz.zeroValue2
  t3 := Tryz.underlying3
  a3 := Tryz.isAgg3
  z3 := Tryz.sizeOf3
  v3 := Tryz.zeroValue3
  t4 := Tryz.underlying4
  a4 := Tryz.isAgg4
  z4 := Tryz.sizeOf4
  v4 := Tryz.zeroValue4
  t5 := Tryz.underlying5
  a5 := Tryz.isAgg5
  z5 := Tryz.sizeOf5
  v5 := Tryz.zeroValue5
  t9 := Tryz.underlying9
  a9 := Tryz.isAgg9
  z9 := Tryz.sizeOf9
  v9 := Tryz.zeroValue9
  t20 := Tryz.underlying20
  a20 := Tryz.isAgg20
  z20 := Tryz.sizeOf20
  v20 := Tryz.zeroValue20
  t37 := Tryz.underlying38
  a37 := Tryz.isAgg38
  z37 := Tryz.sizeOf38
  v37 := Tryz.zeroValue38
  t46 := Tryz.underlying213
  a46 := Tryz.isAgg213
  z46 := Tryz.sizeOf213
  v46 := Tryz.zeroValue213
  t51 := Tryz.underlying191
  a51 := Tryz.isAgg191
  z51 := Tryz.sizeOf191
  v51 := Tryz.zeroValue191
  t53 := Tryz.underlying180
  a53 := Tryz.isAgg180
  z53 := Tryz.sizeOf180
  v53 := Tryz.zeroValue180
  t171 := Tryz.underlying179
  a171 := Tryz.isAgg179
  z171 := Tryz.sizeOf179
  v171 := Tryz.zeroValue179
  t173 := Tryz.underlying183
  a173 := Tryz.isAgg183
  z173 := Tryz.sizeOf183
  v173 := Tryz.zeroValue183
  t212 := Tryz.underlying211
  a212 := Tryz.isAgg211
  z212 := Tryz.sizeOf211
  v212 := Tryz.zeroValue211
  t213 := Tryz.underlying212
  a213 := Tryz.isAgg212
  z213 := Tryz.sizeOf212
  t232 := Tryz.underlying254
  a232 := Tryz.isAgg254
  z232 := Tryz.sizeOf254
  v232 := Tryz.zeroValue254
  t233 := Tryz.underlying255
  a233 := Tryz.isAgg255
  z233 := Tryz.sizeOf255
  v233 := Tryz.zeroValue255
  g17 := by kernel_rfl
  g18 := by kernel_rfl
  g19 := by kernel_rfl }
open Go.RowKit Go.Sort Go.Lib in
/-- THE ROAD WITHOUT THE TABLE: 0 <= i < 100: two constants are read, nothing is laid: no premise on the world, and the world is as it was. (LAID: no walk: one application.) -/
theorem Tryz.internal_strconv_FormatInt_10_small (i : Nat) (hi : i < 100) (w : World) :
    Calls Tryz.prog 93 #[.int .i64 i, .int .i64 10] w fun e w' => e = .returned (.string ⟨(Lib.decDigits i).toArray⟩) ∧ w' = w := Any.internal_strconv_FormatInt_10_small Tryz.lays246 i hi w
def Tryz.laysM243_ren : Go.Shelf.Ren := ⟨fun | 243 => 65 | 246 => 93 | 283 => 119 | 284 => 120 | 285 => 121 | 286 => 122 | 129 => 146 | 317 => 145 | 318 => 147 | 319 => 148 | 320 => 149 | 337 => 167 | 338 => 168 | n => n, fun | 3 => 3 | 9 => 9 | 2 => 2 | 4 => 4 | 171 => 179 | 0 => 0 | 53 => 180 | 37 => 38 | 5 => 5 | 173 => 183 | 212 => 211 | 51 => 191 | 20 => 20 | 213 => 212 | 46 => 213 | 232 => 254 | 233 => 255 | n => n, fun | 17 => 9 | 18 => 16 | 19 => 17 | n => n⟩
theorem Tryz.laysM243 : Go.Proofs.LaysM.n243 Tryz.prog Tryz.laysM243_ren := {
  mixed := by kernel_rfl
  f129 := Tryz.func146.trans (congrArg some (by kernel_rfl))
  f243 := Tryz.func65.trans (congrArg some (by kernel_rfl))
  f246 := Tryz.func93.trans (congrArg some (by kernel_rfl))
  f283 := Tryz.func119.trans (congrArg some (by kernel_rfl))
  f284 := Tryz.func120.trans (congrArg some (by kernel_rfl))
  f285 := Tryz.func121.trans (congrArg some (by kernel_rfl))
  f286 := Tryz.func122.trans (congrArg some (by kernel_rfl))
  f317 := Tryz.func145.trans (congrArg some (by kernel_rfl))
  f318 := Tryz.func147.trans (congrArg some (by kernel_rfl))
  f319 := Tryz.func148.trans (congrArg some (by kernel_rfl))
  f320 := Tryz.func149.trans (congrArg some (by kernel_rfl))
  f337 := Tryz.func167.trans (congrArg some (by kernel_rfl))
  f338 := Tryz.func168.trans (congrArg some (by kernel_rfl))
  t0 := Tryz.underlying0
  a0 := Tryz.isAgg0
  z0 := Tryz.sizeOf0
  v0 := Tryz.zeroValue0
  t2 := Tryz.underlying2
  a2 := Tryz.isAgg2
  z2 := Tryz.sizeOf2
  v2 := Tryz.zeroValue2
  t3 := Tryz.underlying3
  a3 := Tryz.isAgg3
  z3 := Tryz.sizeOf3
  v3 := Tryz.zeroValue3
  t4 := Tryz.underlying4
  a4 := Tryz.isAgg4
  z4 := Tryz.sizeOf4
  v4 := Tryz.zeroValue4
  t5 := Tryz.underlying5
  a5 := Tryz.isAgg5
  z5 := Tryz.sizeOf5
  v5 := Tryz.zeroValue5
  t9 := Tryz.underlying9
  a9 := Tryz.isAgg9
  z9 := Tryz.sizeOf9
  v9 := Tryz.zeroValue9
  t20 := Tryz.underlying20
  a20 := Tryz.isAgg20
  z20 := Tryz.sizeOf20
  v20 := Tryz.zeroValue20
  t37 := Tryz.underlying38
  a37 := Tryz.isAgg38
  z37 := Tryz.sizeOf38
  v37 := Tryz.zeroValue38
  t46 := Tryz.underlying213
  a46 := Tryz.isAgg213
  z46 := Tryz.sizeOf213
  v46 := Tryz.zeroValue213
  t51 := Tryz.underlying191
  a51 := Tryz.isAgg191
  z51 := Tryz.sizeOf191
  v51 := Tryz.zeroValue191
  t53 := Tryz.underlying180
  a53 := Tryz.isAgg180
  z53 := Tryz.sizeOf180
  v53 := Tryz.zeroValue180
  t171 := Tryz.underlying179
  a171 := Tryz.isAgg179
  z171 := Tryz.sizeOf179
  v171 := Tryz.zeroValue179
  t173 := Tryz.underlying183
  a173 := Tryz.isAgg183
  z173 := Tryz.sizeOf183
  v173 := Tryz.zeroValue183
  t212 := Tryz.underlying211
  a212 := Tryz.isAgg211
  z212 := Tryz.sizeOf211
  v212 := Tryz.zeroValue211
  t213 := Tryz.underlying212
  a213 := Tryz.isAgg212
  z213 := Tryz.sizeOf212
  t232 := Tryz.underlying254
  a232 := Tryz.isAgg254
  z232 := Tryz.sizeOf254
  v232 := Tryz.zeroValue254
  t233 := Tryz.underlying255
  a233 := Tryz.isAgg255
  z233 := Tryz.sizeOf255
  v233 := Tryz.zeroValue255
  g17 := by kernel_rfl
  g18 := by kernel_rfl
  g19 := by kernel_rfl
  i0 := by kernel_rfl
  i2 := by kernel_rfl
  i3 := by kernel_rfl
  i4 := by kernel_rfl
  i5 := by kernel_rfl
  i9 := by kernel_rfl
  i20 := by kernel_rfl
  i37 := by kernel_rfl
  i46 := by kernel_rfl
  i51 := by kernel_rfl
  i53 := by kernel_rfl
  i171 := by kernel_rfl
  i173 := by kernel_rfl
  i212 := by kernel_rfl
  i232 := by kernel_rfl
  i233 := by kernel_rfl
  m17 := by kernel_rfl
  m18 := by kernel_rfl
  m19 := by kernel_rfl }
open Go.RowKit Go.Sort Go.Lib in
/-- internal/strconv.Itoa: "Itoa is equivalent to FormatInt(int64(i), 10).": i's decimal numeral, for every int. (LAID: no walk: one application.) -/
theorem Tryz.internal_strconv_Itoa (n : Int) (h0 : -9223372036854775808 ≤ n) (h1 : n ≤ 9223372036854775807) (w : World) (htab : Lib.TabIs Tryz.prog w "internal/strconv.uint64pow10" .u64 Lib.pow10Tab) :
    Calls Tryz.prog 65 #[.int .i64 n] w fun e w' => e = .returned (.string ⟨(Lib.itoa n).toArray⟩) ∧ ∃ k os, w' = grow (w.drewN k) os := Any.internal_strconv_Itoa Tryz.laysM243 n h0 h1 w htab
def Tryz.lays243_ren : Go.Shelf.Ren := ⟨fun | 243 => 65 | 246 => 93 | 283 => 119 | 284 => 120 | 285 => 121 | 286 => 122 | 129 => 146 | 317 => 145 | 318 => 147 | 319 => 148 | 320 => 149 | 337 => 167 | 338 => 168 | n => n, fun | 3 => 3 | 9 => 9 | 2 => 2 | 4 => 4 | 171 => 179 | 0 => 0 | 53 => 180 | 37 => 38 | 5 => 5 | 173 => 183 | 212 => 211 | 51 => 191 | 20 => 20 | 213 => 212 | 46 => 213 | 232 => 254 | 233 => 255 | n => n, fun | 17 => 9 | 18 => 16 | 19 => 17 | n => n⟩
theorem Tryz.lays243 : Go.Proofs.Lays.n243 Tryz.prog Tryz.lays243_ren := {
  mixed := by kernel_rfl
  f129 := Tryz.func146.trans (congrArg some (by kernel_rfl))
  f243 := Tryz.func65.trans (congrArg some (by kernel_rfl))
  f246 := Tryz.func93.trans (congrArg some (by kernel_rfl))
  f283 := Tryz.func119.trans (congrArg some (by kernel_rfl))
  f284 := Tryz.func120.trans (congrArg some (by kernel_rfl))
  f285 := Tryz.func121.trans (congrArg some (by kernel_rfl))
  f286 := Tryz.func122.trans (congrArg some (by kernel_rfl))
  f317 := Tryz.func145.trans (congrArg some (by kernel_rfl))
  f318 := Tryz.func147.trans (congrArg some (by kernel_rfl))
  f319 := Tryz.func148.trans (congrArg some (by kernel_rfl))
  f320 := Tryz.func149.trans (congrArg some (by kernel_rfl))
  f337 := Tryz.func167.trans (congrArg some (by kernel_rfl))
  f338 := Tryz.func168.trans (congrArg some (by kernel_rfl))
  t0 := Tryz.underlying0
  a0 := Tryz.isAgg0
  z0 := Tryz.sizeOf0
  v0 := Tryz.zeroValue0
  t2 := Tryz.underlying2
  a2 := Tryz.isAgg2
  z2 := Tryz.sizeOf2
  v2 := Tryz.zeroValue2
  t3 := Tryz.underlying3
  a3 := Tryz.isAgg3
  z3 := Tryz.sizeOf3
  v3 := Tryz.zeroValue3
  t4 := Tryz.underlying4
  a4 := Tryz.isAgg4
  z4 := Tryz.sizeOf4
  v4 := Tryz.zeroValue4
  t5 := Tryz.underlying5
  a5 := Tryz.isAgg5
  z5 := Tryz.sizeOf5
  v5 := Tryz.zeroValue5
  t9 := Tryz.underlying9
  a9 := Tryz.isAgg9
  z9 := Tryz.sizeOf9
  v9 := Tryz.zeroValue9
  t20 := Tryz.underlying20
  a20 := Tryz.isAgg20
  z20 := Tryz.sizeOf20
  v20 := Tryz.zeroValue20
  t37 := Tryz.underlying38
  a37 := Tryz.isAgg38
  z37 := Tryz.sizeOf38
  v37 := Tryz.zeroValue38
  t46 := Tryz.underlying213
  a46 := Tryz.isAgg213
  z46 := Tryz.sizeOf213
  v46 := Tryz.zeroValue213
  t51 := Tryz.underlying191
  a51 := Tryz.isAgg191
  z51 := Tryz.sizeOf191
  v51 := Tryz.zeroValue191
  t53 := Tryz.underlying180
  a53 := Tryz.isAgg180
  z53 := Tryz.sizeOf180
  v53 := Tryz.zeroValue180
  t171 := Tryz.underlying179
  a171 := Tryz.isAgg179
  z171 := Tryz.sizeOf179
  v171 := Tryz.zeroValue179
  t173 := Tryz.underlying183
  a173 := Tryz.isAgg183
  z173 := Tryz.sizeOf183
  v173 := Tryz.zeroValue183
  t212 := Tryz.underlying211
  a212 := Tryz.isAgg211
  z212 := Tryz.sizeOf211
  v212 := Tryz.zeroValue211
  t213 := Tryz.underlying212
  a213 := Tryz.isAgg212
  z213 := Tryz.sizeOf212
  t232 := Tryz.underlying254
  a232 := Tryz.isAgg254
  z232 := Tryz.sizeOf254
  v232 := Tryz.zeroValue254
  t233 := Tryz.underlying255
  a233 := Tryz.isAgg255
  z233 := Tryz.sizeOf255
  v233 := Tryz.zeroValue255
  g17 := by kernel_rfl
  g18 := by kernel_rfl
  g19 := by kernel_rfl }
open Go.RowKit Go.Sort Go.Lib in
/-- THE ROAD WITHOUT THE TABLE: 0 <= i < 100. (LAID: no walk: one application.) -/
theorem Tryz.internal_strconv_Itoa_small (i : Nat) (hi : i < 100) (w : World) :
    Calls Tryz.prog 65 #[.int .i64 i] w fun e w' => e = .returned (.string ⟨(Lib.decDigits i).toArray⟩) ∧ w' = w := Any.internal_strconv_Itoa_small Tryz.lays243 i hi w
def Tryz.laysM171_ren : Go.Shelf.Ren := ⟨fun | 171 => 35 | 243 => 65 | 246 => 93 | 283 => 119 | 284 => 120 | 285 => 121 | 286 => 122 | 129 => 146 | 317 => 145 | 318 => 147 | 319 => 148 | 320 => 149 | 337 => 167 | 338 => 168 | n => n, fun | 3 => 3 | 9 => 9 | 2 => 2 | 4 => 4 | 171 => 179 | 0 => 0 | 53 => 180 | 37 => 38 | 5 => 5 | 173 => 183 | 212 => 211 | 51 => 191 | 20 => 20 | 213 => 212 | 46 => 213 | 232 => 254 | 233 => 255 | n => n, fun | 17 => 9 | 18 => 16 | 19 => 17 | n => n⟩
theorem Tryz.laysM171 : Go.Proofs.LaysM.n171 Tryz.prog Tryz.laysM171_ren := {
  mixed := by kernel_rfl
  f129 := Tryz.func146.trans (congrArg some (by kernel_rfl))
  f171 := Tryz.func35.trans (congrArg some (by kernel_rfl))
  f243 := Tryz.func65.trans (congrArg some (by kernel_rfl))
  f246 := Tryz.func93.trans (congrArg some (by kernel_rfl))
  f283 := Tryz.func119.trans (congrArg some (by kernel_rfl))
  f284 := Tryz.func120.trans (congrArg some (by kernel_rfl))
  f285 := Tryz.func121.trans (congrArg some (by kernel_rfl))
  f286 := Tryz.func122.trans (congrArg some (by kernel_rfl))
  f317 := Tryz.func145.trans (congrArg some (by kernel_rfl))
  f318 := Tryz.func147.trans (congrArg some (by kernel_rfl))
  f319 := Tryz.func148.trans (congrArg some (by kernel_rfl))
  f320 := Tryz.func149.trans (congrArg some (by kernel_rfl))
  f337 := Tryz.func167.trans (congrArg some (by kernel_rfl))
  f338 := Tryz.func168.trans (congrArg some (by kernel_rfl))
  t0 := Tryz.underlying0
  a0 := Tryz.isAgg0
  z0 := Tryz.sizeOf0
  v0 := Tryz.zeroValue0
  t2 := Tryz.underlying2
  a2 := Tryz.isAgg2
  z2 := Tryz.sizeOf2
  v2 := Tryz.zeroValue2
  t3 := Tryz.underlying3
  a3 := Tryz.isAgg3
  z3 := Tryz.sizeOf3
  v3 := Tryz.zeroValue3
  t4 := Tryz.underlying4
  a4 := Tryz.isAgg4
  z4 := Tryz.sizeOf4
  v4 := Tryz.zeroValue4
  t5 := Tryz.underlying5
  a5 := Tryz.isAgg5
  z5 := Tryz.sizeOf5
  v5 := Tryz.zeroValue5
  t9 := Tryz.underlying9
  a9 := Tryz.isAgg9
  z9 := Tryz.sizeOf9
  v9 := Tryz.zeroValue9
  t20 := Tryz.underlying20
  a20 := Tryz.isAgg20
  z20 := Tryz.sizeOf20
  v20 := Tryz.zeroValue20
  t37 := Tryz.underlying38
  a37 := Tryz.isAgg38
  z37 := Tryz.sizeOf38
  v37 := Tryz.zeroValue38
  t46 := Tryz.underlying213
  a46 := Tryz.isAgg213
  z46 := Tryz.sizeOf213
  v46 := Tryz.zeroValue213
  t51 := Tryz.underlying191
  a51 := Tryz.isAgg191
  z51 := Tryz.sizeOf191
  v51 := Tryz.zeroValue191
  t53 := Tryz.underlying180
  a53 := Tryz.isAgg180
  z53 := Tryz.sizeOf180
  v53 := Tryz.zeroValue180
  t171 := Tryz.underlying179
  a171 := Tryz.isAgg179
  z171 := Tryz.sizeOf179
  v171 := Tryz.zeroValue179
  t173 := Tryz.underlying183
  a173 := Tryz.isAgg183
  z173 := Tryz.sizeOf183
  v173 := Tryz.zeroValue183
  t212 := Tryz.underlying211
  a212 := Tryz.isAgg211
  z212 := Tryz.sizeOf211
  v212 := Tryz.zeroValue211
  t213 := Tryz.underlying212
  a213 := Tryz.isAgg212
  z213 := Tryz.sizeOf212
  t232 := Tryz.underlying254
  a232 := Tryz.isAgg254
  z232 := Tryz.sizeOf254
  v232 := Tryz.zeroValue254
  t233 := Tryz.underlying255
  a233 := Tryz.isAgg255
  z233 := Tryz.sizeOf255
  v233 := Tryz.zeroValue255
  g17 := by kernel_rfl
  g18 := by kernel_rfl
  g19 := by kernel_rfl
  i0 := by kernel_rfl
  i2 := by kernel_rfl
  i3 := by kernel_rfl
  i4 := by kernel_rfl
  i5 := by kernel_rfl
  i9 := by kernel_rfl
  i20 := by kernel_rfl
  i37 := by kernel_rfl
  i46 := by kernel_rfl
  i51 := by kernel_rfl
  i53 := by kernel_rfl
  i171 := by kernel_rfl
  i173 := by kernel_rfl
  i212 := by kernel_rfl
  i232 := by kernel_rfl
  i233 := by kernel_rfl
  m17 := by kernel_rfl
  m18 := by kernel_rfl
  m19 := by kernel_rfl }
open Go.RowKit Go.Sort Go.Lib in
/-- strconv.Itoa: "Itoa is equivalent to FormatInt(int64(i), 10).": i's DECIMAL NUMERAL ('Lib.itoa': a '-' where i is negative, then the digits), FOR EVERY int. The world behind the call: the world before it, new blocks behind the heap (the library's 'var a [24]byte'), draws. (LAID: no walk: one application.) -/
theorem Tryz.strconv_Itoa (n : Int) (h0 : -9223372036854775808 ≤ n) (h1 : n ≤ 9223372036854775807) (w : World) (htab : Lib.TabIs Tryz.prog w "internal/strconv.uint64pow10" .u64 Lib.pow10Tab) :
    Calls Tryz.prog 35 #[.int .i64 n] w fun e w' => e = .returned (.string ⟨(Lib.itoa n).toArray⟩) ∧ ∃ k os, w' = grow (w.drewN k) os := Any.strconv_Itoa Tryz.laysM171 n h0 h1 w htab
def Tryz.lays171_ren : Go.Shelf.Ren := ⟨fun | 171 => 35 | 243 => 65 | 246 => 93 | 283 => 119 | 284 => 120 | 285 => 121 | 286 => 122 | 129 => 146 | 317 => 145 | 318 => 147 | 319 => 148 | 320 => 149 | 337 => 167 | 338 => 168 | n => n, fun | 3 => 3 | 9 => 9 | 2 => 2 | 4 => 4 | 171 => 179 | 0 => 0 | 53 => 180 | 37 => 38 | 5 => 5 | 173 => 183 | 212 => 211 | 51 => 191 | 20 => 20 | 213 => 212 | 46 => 213 | 232 => 254 | 233 => 255 | n => n, fun | 17 => 9 | 18 => 16 | 19 => 17 | n => n⟩
theorem Tryz.lays171 : Go.Proofs.Lays.n171 Tryz.prog Tryz.lays171_ren := {
  mixed := by kernel_rfl
  f129 := Tryz.func146.trans (congrArg some (by kernel_rfl))
  f171 := Tryz.func35.trans (congrArg some (by kernel_rfl))
  f243 := Tryz.func65.trans (congrArg some (by kernel_rfl))
  f246 := Tryz.func93.trans (congrArg some (by kernel_rfl))
  f283 := Tryz.func119.trans (congrArg some (by kernel_rfl))
  f284 := Tryz.func120.trans (congrArg some (by kernel_rfl))
  f285 := Tryz.func121.trans (congrArg some (by kernel_rfl))
  f286 := Tryz.func122.trans (congrArg some (by kernel_rfl))
  f317 := Tryz.func145.trans (congrArg some (by kernel_rfl))
  f318 := Tryz.func147.trans (congrArg some (by kernel_rfl))
  f319 := Tryz.func148.trans (congrArg some (by kernel_rfl))
  f320 := Tryz.func149.trans (congrArg some (by kernel_rfl))
  f337 := Tryz.func167.trans (congrArg some (by kernel_rfl))
  f338 := Tryz.func168.trans (congrArg some (by kernel_rfl))
  t0 := Tryz.underlying0
  a0 := Tryz.isAgg0
  z0 := Tryz.sizeOf0
  v0 := Tryz.zeroValue0
  t2 := Tryz.underlying2
  a2 := Tryz.isAgg2
  z2 := Tryz.sizeOf2
  v2 := Tryz.zeroValue2
  t3 := Tryz.underlying3
  a3 := Tryz.isAgg3
  z3 := Tryz.sizeOf3
  v3 := Tryz.zeroValue3
  t4 := Tryz.underlying4
  a4 := Tryz.isAgg4
  z4 := Tryz.sizeOf4
  v4 := Tryz.zeroValue4
  t5 := Tryz.underlying5
  a5 := Tryz.isAgg5
  z5 := Tryz.sizeOf5
  v5 := Tryz.zeroValue5
  t9 := Tryz.underlying9
  a9 := Tryz.isAgg9
  z9 := Tryz.sizeOf9
  v9 := Tryz.zeroValue9
  t20 := Tryz.underlying20
  a20 := Tryz.isAgg20
  z20 := Tryz.sizeOf20
  v20 := Tryz.zeroValue20
  t37 := Tryz.underlying38
  a37 := Tryz.isAgg38
  z37 := Tryz.sizeOf38
  v37 := Tryz.zeroValue38
  t46 := Tryz.underlying213
  a46 := Tryz.isAgg213
  z46 := Tryz.sizeOf213
  v46 := Tryz.zeroValue213
  t51 := Tryz.underlying191
  a51 := Tryz.isAgg191
  z51 := Tryz.sizeOf191
  v51 := Tryz.zeroValue191
  t53 := Tryz.underlying180
  a53 := Tryz.isAgg180
  z53 := Tryz.sizeOf180
  v53 := Tryz.zeroValue180
  t171 := Tryz.underlying179
  a171 := Tryz.isAgg179
  z171 := Tryz.sizeOf179
  v171 := Tryz.zeroValue179
  t173 := Tryz.underlying183
  a173 := Tryz.isAgg183
  z173 := Tryz.sizeOf183
  v173 := Tryz.zeroValue183
  t212 := Tryz.underlying211
  a212 := Tryz.isAgg211
  z212 := Tryz.sizeOf211
  v212 := Tryz.zeroValue211
  t213 := Tryz.underlying212
  a213 := Tryz.isAgg212
  z213 := Tryz.sizeOf212
  t232 := Tryz.underlying254
  a232 := Tryz.isAgg254
  z232 := Tryz.sizeOf254
  v232 := Tryz.zeroValue254
  t233 := Tryz.underlying255
  a233 := Tryz.isAgg255
  z233 := Tryz.sizeOf255
  v233 := Tryz.zeroValue255
  g17 := by kernel_rfl
  g18 := by kernel_rfl
  g19 := by kernel_rfl }
open Go.RowKit Go.Sort Go.Lib in
/-- THE ROAD WITHOUT THE TABLE: 0 <= i < 100: NO PREMISE ON THE WORLD, AND THE WORLD IS AS IT WAS: a row that keeps its argument in that range need list no table ('laid = []'). (LAID: no walk: one application.) -/
theorem Tryz.strconv_Itoa_small (i : Nat) (hi : i < 100) (w : World) :
    Calls Tryz.prog 35 #[.int .i64 i] w fun e w' => e = .returned (.string ⟨(Lib.decDigits i).toArray⟩) ∧ w' = w := Any.strconv_Itoa_small Tryz.lays171 i hi w
open Go.RowKit in
/-- internal/strconv.Atoi, at a string of 1 to 18 bytes THAT IS NO DECIMAL NUMERAL: 0, AND ErrSyntax (the package's own error number 2). The world behind the call: as it was, or with the one new row that '[]byte(s)' lays. (LAID: no walk: one application.) -/
theorem Tryz.internal_strconv_Atoi_err (s : ByteArray) (hl0 : 1 ≤ s.size) (hl : s.size ≤ 18) (h : Lib.atoi s.data.toList = none) (w : World) :
    Calls Tryz.prog 117 #[.string s] w fun e w' => e = .returned (.tuple #[.int .i64 0, (.iface 204 (.int .i64 2))]) ∧ (w' = w ∨ ∃ t, w' = Lib.bytesWorld w 5 t) := Any.internal_strconv_Atoi_err Tryz.lays244 s hl0 hl h w
def Tryz.lays247_ren : Go.Shelf.Ren := ⟨fun | 247 => 140 | 287 => 165 | 321 => 172 | 322 => 173 | n => n, fun | 9 => 9 | 3 => 3 | 2 => 2 | 75 => 67 | 4 => 4 | 167 => 204 | 5 => 5 | 53 => 180 | 175 => 237 | 46 => 213 | 37 => 38 | 0 => 0 | 21 => 21 | 80 => 86 | n => n, fun | n => n⟩
theorem Tryz.lays247 : Go.Proofs.Lays.n247 Tryz.prog Tryz.lays247_ren := {
  mixed := by kernel_rfl
  f247 := Tryz.func140.trans (congrArg some (by kernel_rfl))
  f287 := Tryz.func165.trans (congrArg some (by kernel_rfl))
  f321 := Tryz.func172.trans (congrArg some (by kernel_rfl))
  f322 := Tryz.func173.trans (congrArg some (by kernel_rfl))
  t0 := Tryz.underlying0
  a0 := Tryz.isAgg0
  z0 := Tryz.sizeOf0
  v0 := Tryz.zeroValue0
  t2 := Tryz.underlying2
  a2 := Tryz.isAgg2
  z2 := Tryz.sizeOf2
  v2 := Tryz.zeroValue2
  t3 := Tryz.underlying3
  a3 := Tryz.isAgg3
  z3 := Tryz.sizeOf3
  v3 := Tryz.zeroValue3
  t4 := Tryz.underlying4
  a4 := Tryz.isAgg4
  z4 := Tryz.sizeOf4
  v4 := Tryz.zeroValue4
  t5 := Tryz.underlying5
  a5 := Tryz.isAgg5
  z5 := Tryz.sizeOf5
  v5 := Tryz.zeroValue5
  t9 := Tryz.underlying9
  a9 := Tryz.isAgg9
  z9 := Tryz.sizeOf9
  v9 := Tryz.zeroValue9
  t21 := Tryz.underlying21
  a21 := Tryz.isAgg21
  z21 := Tryz.sizeOf21
  v21 := Tryz.zeroValue21
  t37 := Tryz.underlying38
  a37 := Tryz.isAgg38
  z37 := Tryz.sizeOf38
  v37 := Tryz.zeroValue38
  t46 := Tryz.underlying213
  a46 := Tryz.isAgg213
  z46 := Tryz.sizeOf213
  v46 := Tryz.zeroValue213
  t53 := Tryz.underlying180
  a53 := Tryz.isAgg180
  z53 := Tryz.sizeOf180
  v53 := Tryz.zeroValue180
  t75 := Tryz.underlying67
  a75 := Tryz.isAgg67
  z75 := Tryz.sizeOf67
  v75 := Tryz.zeroValue67
  t167 := Tryz.underlying204
  a167 := Tryz.isAgg204
  z167 := Tryz.sizeOf204
  v167 := Tryz.zeroValue204
  t175 := Tryz.underlying237
  a175 := Tryz.isAgg237
  z175 := Tryz.sizeOf237
  v175 := Tryz.zeroValue237 }
open Go.RowKit in
/-- internal/strconv.ParseInt at "": 'if s == "" { return 0, ErrSyntax }'. The world is as it was. (LAID: no walk: one application.) -/
theorem Tryz.internal_strconv_ParseInt_empty (base bits : Int) (w : World) :
    Calls Tryz.prog 140 #[.string ⟨#[]⟩, .int .i64 base, .int .i64 bits] w fun e w' => e = .returned (.tuple #[.int .i64 0, (.iface 204 (.int .i64 2))]) ∧ w' = w := Any.internal_strconv_ParseInt_empty Tryz.lays247 base bits w
open Go.RowKit in
/-- internal/strconv.Atoi at "". (LAID: no walk: one application.) -/
theorem Tryz.internal_strconv_Atoi_empty (w : World) :
    Calls Tryz.prog 117 #[.string ⟨#[]⟩] w fun e w' => e = .returned (.tuple #[.int .i64 0, (.iface 204 (.int .i64 2))]) ∧ w' = w := Any.internal_strconv_Atoi_empty Tryz.lays244 w
open Go.RowKit in
/-- internal/strconv.Atoi, AT EVERY STRING OF AT MOST 18 BYTES THAT IS NO DECIMAL NUMERAL: 0, and ErrSyntax. (LAID: no walk: one application.) -/
theorem Tryz.internal_strconv_Atoi_fail (s : ByteArray) (hl : s.size ≤ 18) (h : Lib.atoi s.data.toList = none) (w : World) :
    Calls Tryz.prog 117 #[.string s] w fun e w' => e = .returned (.tuple #[.int .i64 0, (.iface 204 (.int .i64 2))]) ∧ (w' = w ∨ ∃ t, w' = Lib.bytesWorld w 5 t) := Any.internal_strconv_Atoi_fail Tryz.lays244 s hl h w
def Tryz.laysM316_ren : Go.Shelf.Ren := ⟨fun | 316 => 166 | n => n, fun | 9 => 9 | 3 => 3 | 4 => 4 | 37 => 38 | 0 => 0 | 127 => 190 | 5 => 5 | n => n, fun | n => n⟩
theorem Tryz.laysM316 : Go.Proofs.LaysM.n316 Tryz.prog Tryz.laysM316_ren := {
  mixed := by kernel_rfl
  f316 := Tryz.func166.trans (congrArg some (by kernel_rfl))
  t0 := Tryz.underlying0
  a0 := Tryz.isAgg0
  z0 := Tryz.sizeOf0
  v0 := Tryz.zeroValue0
  t3 := Tryz.underlying3
  a3 := Tryz.isAgg3
  z3 := Tryz.sizeOf3
  v3 := Tryz.zeroValue3
  t4 := Tryz.underlying4
  a4 := Tryz.isAgg4
  z4 := Tryz.sizeOf4
  v4 := Tryz.zeroValue4
  t9 := Tryz.underlying9
  a9 := Tryz.isAgg9
  z9 := Tryz.sizeOf9
  v9 := Tryz.zeroValue9
  t37 := Tryz.underlying38
  a37 := Tryz.isAgg38
  z37 := Tryz.sizeOf38
  v37 := Tryz.zeroValue38
  t127 := Tryz.underlying190
  a127 := Tryz.isAgg190
  z127 := Tryz.sizeOf190
  v127 := Tryz.zeroValue190
  t5 := Tryz.underlying5
  a5 := Tryz.isAgg5
  z5 := Tryz.sizeOf5
  v5 := Tryz.zeroValue5
  i0 := by kernel_rfl
  i3 := by kernel_rfl
  i4 := by kernel_rfl
  i5 := by kernel_rfl
  i9 := by kernel_rfl
  i37 := by kernel_rfl
  i127 := by kernel_rfl }
open Go.RowKit in
/-- internal/stringslite.Clone (what strings.Clone calls): "Clone returns a fresh copy of s.": THE SAME BYTES. Of what was there nothing has turned (a new row is laid, and frozen, where s is not empty). (LAID: no walk: one application.) -/
theorem Tryz.stringslite_Clone (s : ByteArray) (w : World) (hlim : s.size ≤ 281474976710656) :
    Calls Tryz.prog 166 #[.string s] w fun e w' => e = .returned (.string s) ∧ Below w.heap.size w w' := Any.stringslite_Clone Tryz.laysM316 s w hlim
def Tryz.laysM279_ren : Go.Shelf.Ren := ⟨fun | 279 => 141 | 316 => 166 | n => n, fun | 9 => 9 | 168 => 207 | 75 => 67 | 210 => 240 | 3 => 3 | 4 => 4 | 37 => 38 | 0 => 0 | 127 => 190 | 80 => 86 | 5 => 5 | n => n, fun | 15 => 10 | n => n⟩
theorem Tryz.laysM279 : Go.Proofs.LaysM.n279 Tryz.prog Tryz.laysM279_ren := {
  mixed := by kernel_rfl
  f279 := Tryz.func141.trans (congrArg some (by kernel_rfl))
  f316 := Tryz.func166.trans (congrArg some (by kernel_rfl))
  t0 := Tryz.underlying0
  a0 := Tryz.isAgg0
  z0 := Tryz.sizeOf0
  v0 := Tryz.zeroValue0
  t3 := Tryz.underlying3
  a3 := Tryz.isAgg3
  z3 := Tryz.sizeOf3
  v3 := Tryz.zeroValue3
  t4 := Tryz.underlying4
  a4 := Tryz.isAgg4
  z4 := Tryz.sizeOf4
  v4 := Tryz.zeroValue4
  t9 := Tryz.underlying9
  a9 := Tryz.isAgg9
  z9 := Tryz.sizeOf9
  v9 := Tryz.zeroValue9
  t37 := Tryz.underlying38
  a37 := Tryz.isAgg38
  z37 := Tryz.sizeOf38
  v37 := Tryz.zeroValue38
  t75 := Tryz.underlying67
  a75 := Tryz.isAgg67
  z75 := Tryz.sizeOf67
  v75 := Tryz.zeroValue67
  t127 := Tryz.underlying190
  a127 := Tryz.isAgg190
  z127 := Tryz.sizeOf190
  v127 := Tryz.zeroValue190
  t168 := Tryz.underlying207
  a168 := Tryz.isAgg207
  z168 := Tryz.sizeOf207
  v168 := Tryz.zeroValue207
  t210 := Tryz.underlying240
  a210 := Tryz.isAgg240
  z210 := Tryz.sizeOf240
  v210 := Tryz.zeroValue240
  g15 := by kernel_rfl
  t5 := Tryz.underlying5
  a5 := Tryz.isAgg5
  z5 := Tryz.sizeOf5
  v5 := Tryz.zeroValue5
  t80 := Tryz.underlying86
  a80 := Tryz.isAgg86
  z80 := Tryz.sizeOf86
  v80 := Tryz.zeroValue86
  i0 := by kernel_rfl
  i3 := by kernel_rfl
  i4 := by kernel_rfl
  i5 := by kernel_rfl
  i9 := by kernel_rfl
  i37 := by kernel_rfl
  i75 := by kernel_rfl
  i80 := by kernel_rfl
  i127 := by kernel_rfl
  i168 := by kernel_rfl
  i210 := by kernel_rfl
  m15 := by kernel_rfl }
open Go.RowKit in
/-- strconv.syntaxError: '&NumError{fn, stringslite.Clone(str), ErrSyntax}': A POINTER TO A NEW BLOCK that holds fn, str's bytes, and what the variable ErrSyntax holds. Of what was there nothing has turned. (LAID: no walk: one application.) -/
theorem Tryz.strconv_syntaxError (fn s : ByteArray) (ev : Value) (w : World) (hlim : s.size ≤ 281474976710656) (hv : w.cell? ⟨10, 0, none⟩ = some ev) (hev : ev = .nilIface ∨ ∃ te pe, ev = .iface te pe) :
    Calls Tryz.prog 141 #[.string fn, .string s] w fun e w' => ∃ N, e = .returned (.pointer (some ⟨N, 0, none⟩)) ∧ w.heap.size ≤ N ∧ w'.heap[N]? = some (.cells #[.string fn, .string s, ev] 240 (0, 0)) ∧ Below w.heap.size w w' := Any.strconv_syntaxError Tryz.laysM279 fn s ev w hlim hv hev
def Tryz.laysC245_ren : Go.Shelf.Ren := ⟨fun | 245 => 118 | 279 => 141 | 280 => 142 | 281 => 143 | 282 => 144 | 316 => 166 | 171 => 35 | 205 => 71 | 243 => 65 | 246 => 93 | 283 => 119 | 284 => 120 | 285 => 121 | 286 => 122 | 129 => 146 | 317 => 145 | 318 => 147 | 319 => 148 | 320 => 149 | 337 => 167 | 338 => 168 | n => n, fun | 9 => 9 | 3 => 3 | 75 => 67 | 167 => 204 | 4 => 4 | 168 => 207 | 210 => 240 | 37 => 38 | 0 => 0 | 127 => 190 | 145 => 159 | 143 => 157 | 2 => 2 | 171 => 179 | 53 => 180 | 5 => 5 | 173 => 183 | 212 => 211 | 51 => 191 | 20 => 20 | 213 => 212 | 46 => 213 | 232 => 254 | 233 => 255 | 80 => 86 | n => n, fun | 15 => 10 | 16 => 11 | 17 => 9 | 18 => 16 | 19 => 17 | n => n⟩
theorem Tryz.laysC245 : Go.Proofs.LaysC.n245 Tryz.prog Tryz.laysC245_ren := {
  mixed := by kernel_rfl
  f129 := Tryz.func146.trans (congrArg some (by kernel_rfl))
  f171 := Tryz.func35.trans (congrArg some (by kernel_rfl))
  f205 := Tryz.func71.trans (congrArg some (by kernel_rfl))
  f243 := Tryz.func65.trans (congrArg some (by kernel_rfl))
  f245 := Tryz.func118.trans (congrArg some (by kernel_rfl))
  f246 := Tryz.func93.trans (congrArg some (by kernel_rfl))
  f279 := Tryz.func141.trans (congrArg some (by kernel_rfl))
  f280 := Tryz.func142.trans (congrArg some (by kernel_rfl))
  f281 := Tryz.func143.trans (congrArg some (by kernel_rfl))
  f282 := Tryz.func144.trans (congrArg some (by kernel_rfl))
  f283 := Tryz.func119.trans (congrArg some (by kernel_rfl))
  f284 := Tryz.func120.trans (congrArg some (by kernel_rfl))
  f285 := Tryz.func121.trans (congrArg some (by kernel_rfl))
  f286 := Tryz.func122.trans (congrArg some (by kernel_rfl))
  f316 := Tryz.func166.trans (congrArg some (by kernel_rfl))
  f317 := Tryz.func145.trans (congrArg some (by kernel_rfl))
  f318 := Tryz.func147.trans (congrArg some (by kernel_rfl))
  f319 := Tryz.func148.trans (congrArg some (by kernel_rfl))
  f320 := Tryz.func149.trans (congrArg some (by kernel_rfl))
  f337 := Tryz.func167.trans (congrArg some (by kernel_rfl))
  f338 := Tryz.func168.trans (congrArg some (by kernel_rfl))
  t0 := Tryz.underlying0
  a0 := Tryz.isAgg0
  z0 := Tryz.sizeOf0
  v0 := Tryz.zeroValue0
  t2 := Tryz.underlying2
  a2 := Tryz.isAgg2
  z2 := Tryz.sizeOf2
  v2 := Tryz.zeroValue2
  t3 := Tryz.underlying3
  a3 := Tryz.isAgg3
  z3 := Tryz.sizeOf3
  v3 := Tryz.zeroValue3
  t4 := Tryz.underlying4
  a4 := Tryz.isAgg4
  z4 := Tryz.sizeOf4
  v4 := Tryz.zeroValue4
  t5 := Tryz.underlying5
  a5 := Tryz.isAgg5
  z5 := Tryz.sizeOf5
  v5 := Tryz.zeroValue5
  t9 := Tryz.underlying9
  a9 := Tryz.isAgg9
  z9 := Tryz.sizeOf9
  v9 := Tryz.zeroValue9
  t20 := Tryz.underlying20
  a20 := Tryz.isAgg20
  z20 := Tryz.sizeOf20
  v20 := Tryz.zeroValue20
  t37 := Tryz.underlying38
  a37 := Tryz.isAgg38
  z37 := Tryz.sizeOf38
  v37 := Tryz.zeroValue38
  t46 := Tryz.underlying213
  a46 := Tryz.isAgg213
  z46 := Tryz.sizeOf213
  v46 := Tryz.zeroValue213
  t51 := Tryz.underlying191
  a51 := Tryz.isAgg191
  z51 := Tryz.sizeOf191
  v51 := Tryz.zeroValue191
  t53 := Tryz.underlying180
  a53 := Tryz.isAgg180
  z53 := Tryz.sizeOf180
  v53 := Tryz.zeroValue180
  t75 := Tryz.underlying67
  a75 := Tryz.isAgg67
  z75 := Tryz.sizeOf67
  v75 := Tryz.zeroValue67
  t127 := Tryz.underlying190
  a127 := Tryz.isAgg190
  z127 := Tryz.sizeOf190
  v127 := Tryz.zeroValue190
  t143 := Tryz.underlying157
  a143 := Tryz.isAgg157
  z143 := Tryz.sizeOf157
  v143 := Tryz.zeroValue157
  t145 := Tryz.underlying159
  a145 := Tryz.isAgg159
  z145 := Tryz.sizeOf159
  v145 := Tryz.zeroValue159
  t167 := Tryz.underlying204
  a167 := Tryz.isAgg204
  z167 := Tryz.sizeOf204
  v167 := Tryz.zeroValue204
  t168 := Tryz.underlying207
  a168 := Tryz.isAgg207
  z168 := Tryz.sizeOf207
  v168 := Tryz.zeroValue207
  t171 := Tryz.underlying179
  a171 := Tryz.isAgg179
  z171 := Tryz.sizeOf179
  v171 := Tryz.zeroValue179
  t173 := Tryz.underlying183
  a173 := Tryz.isAgg183
  z173 := Tryz.sizeOf183
  v173 := Tryz.zeroValue183
  t210 := Tryz.underlying240
  a210 := Tryz.isAgg240
  z210 := Tryz.sizeOf240
  v210 := Tryz.zeroValue240
  t212 := Tryz.underlying211
  a212 := Tryz.isAgg211
  z212 := Tryz.sizeOf211
  v212 := Tryz.zeroValue211
  t213 := Tryz.underlying212
  a213 := Tryz.isAgg212
  z213 := Tryz.sizeOf212
  t232 := Tryz.underlying254
  a232 := Tryz.isAgg254
  z232 := Tryz.sizeOf254
  v232 := Tryz.zeroValue254
  t233 := Tryz.underlying255
  a233 := Tryz.isAgg255
  z233 := Tryz.sizeOf255
  v233 := Tryz.zeroValue255
  g15 := by kernel_rfl
  g16 := by kernel_rfl
  g17 := by kernel_rfl
  g18 := by kernel_rfl
  g19 := by kernel_rfl
  t80 := Tryz.underlying86
  a80 := Tryz.isAgg86
  z80 := Tryz.sizeOf86
  v80 := Tryz.zeroValue86
  i0 := by kernel_rfl
  i2 := by kernel_rfl
  i3 := by kernel_rfl
  i4 := by kernel_rfl
  i5 := by kernel_rfl
  i9 := by kernel_rfl
  i20 := by kernel_rfl
  i37 := by kernel_rfl
  i46 := by kernel_rfl
  i51 := by kernel_rfl
  i53 := by kernel_rfl
  i75 := by kernel_rfl
  i80 := by kernel_rfl
  i127 := by kernel_rfl
  i143 := by kernel_rfl
  i145 := by kernel_rfl
  i167 := by kernel_rfl
  i168 := by kernel_rfl
  i171 := by kernel_rfl
  i173 := by kernel_rfl
  i210 := by kernel_rfl
  i212 := by kernel_rfl
  i232 := by kernel_rfl
  i233 := by kernel_rfl
  m15 := by kernel_rfl
  m16 := by kernel_rfl
  m17 := by kernel_rfl
  m18 := by kernel_rfl
  m19 := by kernel_rfl
  c0 := by kernel_rfl
  c2 := by kernel_rfl
  c3 := by kernel_rfl
  c4 := by kernel_rfl
  c5 := by kernel_rfl
  c9 := by kernel_rfl
  c20 := by kernel_rfl
  c37 := by kernel_rfl
  c46 := by kernel_rfl
  c51 := by kernel_rfl
  c53 := by kernel_rfl
  c75 := by kernel_rfl
  c80 := by kernel_rfl
  c127 := by kernel_rfl
  c143 := by kernel_rfl
  c145 := by kernel_rfl
  c167 := by kernel_rfl
  c168 := by kernel_rfl
  c171 := by kernel_rfl
  c173 := by kernel_rfl
  c210 := by kernel_rfl
  c212 := by kernel_rfl
  c213 := by kernel_rfl
  c232 := by kernel_rfl
  c233 := by kernel_rfl }
open Go.RowKit in
/-- strconv.toError, at the inner package's ErrSyntax: 'syntaxError(fn, s)' as an error: A *NumError IN A NEW BLOCK. (LAID: no walk: one application.) -/
theorem Tryz.strconv_toError_syntax (fn s : ByteArray) (base bits : Int) (ev : Value) (w : World) (hlim : s.size ≤ 281474976710656) (hv : w.cell? ⟨10, 0, none⟩ = some ev) (hev : ev = .nilIface ∨ ∃ te pe, ev = .iface te pe) :
    Calls Tryz.prog 118 #[.string fn, .string s, .int .i64 base, .int .i64 bits, .iface 204 (.int .i64 2)] w fun e w' => ∃ N, e = .returned (.iface 207 (.pointer (some ⟨N, 0, none⟩))) ∧ w.heap.size ≤ N ∧ w'.heap[N]? = some (.cells #[.string fn, .string s, ev] 240 (0, 0)) ∧ Below w.heap.size w w' := Any.strconv_toError_syntax Tryz.laysC245 fn s base bits ev w hlim hv hev
def Tryz.lays321_ren : Go.Shelf.Ren := ⟨fun | 321 => 172 | n => n, fun | 5 => 5 | n => n, fun | n => n⟩
theorem Tryz.lays321 : Go.Proofs.Lays.n321 Tryz.prog Tryz.lays321_ren := {
  mixed := by kernel_rfl
  f321 := Tryz.func172.trans (congrArg some (by kernel_rfl))
  t5 := Tryz.underlying5
  a5 := Tryz.isAgg5
  z5 := Tryz.sizeOf5
  v5 := Tryz.zeroValue5 }
open Go.RowKit in
/-- internal/strconv.lower: 'c | ('x' - 'X')': the bit 32 set. The world is as it was. (LAID: no walk: one application.) -/
theorem Tryz.internal_strconv_lower (c : Int) (w : World) :
    Calls Tryz.prog 172 #[.int .u8 c] w fun e w' => e = .returned (.int .u8 (bits .or .u8 c 32)) ∧ w' = w := Any.internal_strconv_lower Tryz.lays321 c w
def Tryz.lays287_ren : Go.Shelf.Ren := ⟨fun | 287 => 165 | 321 => 172 | 322 => 173 | n => n, fun | 9 => 9 | 3 => 3 | 53 => 180 | 75 => 67 | 4 => 4 | 167 => 204 | 5 => 5 | 46 => 213 | 37 => 38 | 0 => 0 | 21 => 21 | 80 => 86 | n => n, fun | n => n⟩
theorem Tryz.lays287 : Go.Proofs.Lays.n287 Tryz.prog Tryz.lays287_ren := {
  mixed := by kernel_rfl
  f287 := Tryz.func165.trans (congrArg some (by kernel_rfl))
  f321 := Tryz.func172.trans (congrArg some (by kernel_rfl))
  f322 := Tryz.func173.trans (congrArg some (by kernel_rfl))
  t0 := Tryz.underlying0
  a0 := Tryz.isAgg0
  z0 := Tryz.sizeOf0
  v0 := Tryz.zeroValue0
  t3 := Tryz.underlying3
  a3 := Tryz.isAgg3
  z3 := Tryz.sizeOf3
  v3 := Tryz.zeroValue3
  t4 := Tryz.underlying4
  a4 := Tryz.isAgg4
  z4 := Tryz.sizeOf4
  v4 := Tryz.zeroValue4
  t5 := Tryz.underlying5
  a5 := Tryz.isAgg5
  z5 := Tryz.sizeOf5
  v5 := Tryz.zeroValue5
  t9 := Tryz.underlying9
  a9 := Tryz.isAgg9
  z9 := Tryz.sizeOf9
  v9 := Tryz.zeroValue9
  t21 := Tryz.underlying21
  a21 := Tryz.isAgg21
  z21 := Tryz.sizeOf21
  v21 := Tryz.zeroValue21
  t37 := Tryz.underlying38
  a37 := Tryz.isAgg38
  z37 := Tryz.sizeOf38
  v37 := Tryz.zeroValue38
  t46 := Tryz.underlying213
  a46 := Tryz.isAgg213
  z46 := Tryz.sizeOf213
  v46 := Tryz.zeroValue213
  t53 := Tryz.underlying180
  a53 := Tryz.isAgg180
  z53 := Tryz.sizeOf180
  v53 := Tryz.zeroValue180
  t75 := Tryz.underlying67
  a75 := Tryz.isAgg67
  z75 := Tryz.sizeOf67
  v75 := Tryz.zeroValue67
  t167 := Tryz.underlying204
  a167 := Tryz.isAgg204
  z167 := Tryz.sizeOf204
  v167 := Tryz.zeroValue204 }
open Go.RowKit in
/-- internal/strconv.ParseUint(s, 10, 0), s NOT EMPTY: 'Lib.parseUint10 0' OF ITS BYTES: the number; or (0, ErrSyntax); or (the greatest uint64, ErrRange). The world behind the call: the one new row that '[]byte(s)' lays. (LAID: no walk: one application.) -/
theorem Tryz.internal_strconv_ParseUint_10 (t : ByteArray) (hne : t.size ≠ 0) (hmax : t.size ≤ 9223372036854775806) (w : World) :
    Calls Tryz.prog 165 #[.string t, .int .i64 10, .int .i64 0] w fun e w' => e = .returned (Lib.uintTuple 204 (Lib.parseUint10 0 t.data.toList)) ∧ w' = Lib.bytesWorld w 5 t := Any.internal_strconv_ParseUint_10 Tryz.lays287 t hne hmax w
open Go.RowKit in
/-- internal/strconv.ParseUint(s, 10, 0): 'Lib.parseMag' OF ITS BYTES. The world: as it was (the empty string), or with the one new row that '[]byte(s)' lays. (LAID: no walk: one application.) -/
theorem Tryz.internal_strconv_ParseUint_10_any (t : ByteArray) (hmax : t.size ≤ 9223372036854775806) (w : World) :
    Calls Tryz.prog 165 #[.string t, .int .i64 10, .int .i64 0] w fun e w' => e = .returned (Lib.uintTuple 204 (Lib.parseMag t.data.toList)) ∧ (w' = w ∨ w' = Lib.bytesWorld w 5 t) := Any.internal_strconv_ParseUint_10_any Tryz.lays287 t hmax w
def Tryz.laysC247_ren : Go.Shelf.Ren := ⟨fun | 247 => 140 | 287 => 165 | 321 => 172 | 322 => 173 | n => n, fun | 9 => 9 | 3 => 3 | 2 => 2 | 75 => 67 | 4 => 4 | 167 => 204 | 5 => 5 | 53 => 180 | 175 => 237 | 46 => 213 | 37 => 38 | 0 => 0 | 21 => 21 | 80 => 86 | n => n, fun | n => n⟩
theorem Tryz.laysC247 : Go.Proofs.LaysC.n247 Tryz.prog Tryz.laysC247_ren := {
  mixed := by kernel_rfl
  f247 := Tryz.func140.trans (congrArg some (by kernel_rfl))
  f287 := Tryz.func165.trans (congrArg some (by kernel_rfl))
  f321 := Tryz.func172.trans (congrArg some (by kernel_rfl))
  f322 := Tryz.func173.trans (congrArg some (by kernel_rfl))
  t0 := Tryz.underlying0
  a0 := Tryz.isAgg0
  z0 := Tryz.sizeOf0
  v0 := Tryz.zeroValue0
  t2 := Tryz.underlying2
  a2 := Tryz.isAgg2
  z2 := Tryz.sizeOf2
  v2 := Tryz.zeroValue2
  t3 := Tryz.underlying3
  a3 := Tryz.isAgg3
  z3 := Tryz.sizeOf3
  v3 := Tryz.zeroValue3
  t4 := Tryz.underlying4
  a4 := Tryz.isAgg4
  z4 := Tryz.sizeOf4
  v4 := Tryz.zeroValue4
  t5 := Tryz.underlying5
  a5 := Tryz.isAgg5
  z5 := Tryz.sizeOf5
  v5 := Tryz.zeroValue5
  t9 := Tryz.underlying9
  a9 := Tryz.isAgg9
  z9 := Tryz.sizeOf9
  v9 := Tryz.zeroValue9
  t21 := Tryz.underlying21
  a21 := Tryz.isAgg21
  z21 := Tryz.sizeOf21
  v21 := Tryz.zeroValue21
  t37 := Tryz.underlying38
  a37 := Tryz.isAgg38
  z37 := Tryz.sizeOf38
  v37 := Tryz.zeroValue38
  t46 := Tryz.underlying213
  a46 := Tryz.isAgg213
  z46 := Tryz.sizeOf213
  v46 := Tryz.zeroValue213
  t53 := Tryz.underlying180
  a53 := Tryz.isAgg180
  z53 := Tryz.sizeOf180
  v53 := Tryz.zeroValue180
  t75 := Tryz.underlying67
  a75 := Tryz.isAgg67
  z75 := Tryz.sizeOf67
  v75 := Tryz.zeroValue67
  t167 := Tryz.underlying204
  a167 := Tryz.isAgg204
  z167 := Tryz.sizeOf204
  v167 := Tryz.zeroValue204
  t175 := Tryz.underlying237
  a175 := Tryz.isAgg237
  z175 := Tryz.sizeOf237
  v175 := Tryz.zeroValue237
  t80 := Tryz.underlying86
  a80 := Tryz.isAgg86
  z80 := Tryz.sizeOf86
  v80 := Tryz.zeroValue86
  i0 := by kernel_rfl
  i2 := by kernel_rfl
  i3 := by kernel_rfl
  i4 := by kernel_rfl
  i5 := by kernel_rfl
  i9 := by kernel_rfl
  i21 := by kernel_rfl
  i37 := by kernel_rfl
  i46 := by kernel_rfl
  i53 := by kernel_rfl
  i75 := by kernel_rfl
  i80 := by kernel_rfl
  i167 := by kernel_rfl
  i175 := by kernel_rfl
  c0 := by kernel_rfl
  c2 := by kernel_rfl
  c3 := by kernel_rfl
  c4 := by kernel_rfl
  c5 := by kernel_rfl
  c9 := by kernel_rfl
  c21 := by kernel_rfl
  c37 := by kernel_rfl
  c46 := by kernel_rfl
  c53 := by kernel_rfl
  c75 := by kernel_rfl
  c80 := by kernel_rfl
  c167 := by kernel_rfl
  c175 := by kernel_rfl }
open Go.RowKit in
/-- internal/strconv.ParseInt(s, 10, 0), s NOT EMPTY: 'Lib.atoiAll' OF ITS BYTES: (the number, nil); (0, ErrSyntax); (the greatest or the least int64 by the sign, ErrRange). The world: as it was, or with the one new row that '[]byte(..)' lays. (LAID: no walk: one application.) -/
theorem Tryz.internal_strconv_ParseInt_10 (s : ByteArray) (hne : s.size ≠ 0) (hmax : s.size ≤ 9223372036854775806) (w : World) :
    Calls Tryz.prog 140 #[.string s, .int .i64 10, .int .i64 0] w fun e w' => e = .returned (Lib.intTuple 204 (Lib.atoiSat s.data.toList) (Lib.atoiAll s.data.toList)) ∧ (w' = w ∨ ∃ t, w' = Lib.bytesWorld w 5 t) := Any.internal_strconv_ParseInt_10 Tryz.laysC247 s hne hmax w
def Tryz.laysC244_ren : Go.Shelf.Ren := ⟨fun | 244 => 117 | 247 => 140 | 287 => 165 | 321 => 172 | 322 => 173 | n => n, fun | 9 => 9 | 3 => 3 | 75 => 67 | 4 => 4 | 5 => 5 | 167 => 204 | 37 => 38 | 0 => 0 | 85 => 205 | 2 => 2 | 53 => 180 | 175 => 237 | 46 => 213 | 21 => 21 | 80 => 86 | n => n, fun | n => n⟩
theorem Tryz.laysC244 : Go.Proofs.LaysC.n244 Tryz.prog Tryz.laysC244_ren := {
  mixed := by kernel_rfl
  f244 := Tryz.func117.trans (congrArg some (by kernel_rfl))
  f247 := Tryz.func140.trans (congrArg some (by kernel_rfl))
  f287 := Tryz.func165.trans (congrArg some (by kernel_rfl))
  f321 := Tryz.func172.trans (congrArg some (by kernel_rfl))
  f322 := Tryz.func173.trans (congrArg some (by kernel_rfl))
  t0 := Tryz.underlying0
  a0 := Tryz.isAgg0
  z0 := Tryz.sizeOf0
  v0 := Tryz.zeroValue0
  t2 := Tryz.underlying2
  a2 := Tryz.isAgg2
  z2 := Tryz.sizeOf2
  v2 := Tryz.zeroValue2
  t3 := Tryz.underlying3
  a3 := Tryz.isAgg3
  z3 := Tryz.sizeOf3
  v3 := Tryz.zeroValue3
  t4 := Tryz.underlying4
  a4 := Tryz.isAgg4
  z4 := Tryz.sizeOf4
  v4 := Tryz.zeroValue4
  t5 := Tryz.underlying5
  a5 := Tryz.isAgg5
  z5 := Tryz.sizeOf5
  v5 := Tryz.zeroValue5
  t9 := Tryz.underlying9
  a9 := Tryz.isAgg9
  z9 := Tryz.sizeOf9
  v9 := Tryz.zeroValue9
  t21 := Tryz.underlying21
  a21 := Tryz.isAgg21
  z21 := Tryz.sizeOf21
  v21 := Tryz.zeroValue21
  t37 := Tryz.underlying38
  a37 := Tryz.isAgg38
  z37 := Tryz.sizeOf38
  v37 := Tryz.zeroValue38
  t46 := Tryz.underlying213
  a46 := Tryz.isAgg213
  z46 := Tryz.sizeOf213
  v46 := Tryz.zeroValue213
  t53 := Tryz.underlying180
  a53 := Tryz.isAgg180
  z53 := Tryz.sizeOf180
  v53 := Tryz.zeroValue180
  t75 := Tryz.underlying67
  a75 := Tryz.isAgg67
  z75 := Tryz.sizeOf67
  v75 := Tryz.zeroValue67
  t85 := Tryz.underlying205
  a85 := Tryz.isAgg205
  z85 := Tryz.sizeOf205
  v85 := Tryz.zeroValue205
  t167 := Tryz.underlying204
  a167 := Tryz.isAgg204
  z167 := Tryz.sizeOf204
  v167 := Tryz.zeroValue204
  t175 := Tryz.underlying237
  a175 := Tryz.isAgg237
  z175 := Tryz.sizeOf237
  v175 := Tryz.zeroValue237
  t80 := Tryz.underlying86
  a80 := Tryz.isAgg86
  z80 := Tryz.sizeOf86
  v80 := Tryz.zeroValue86
  i0 := by kernel_rfl
  i2 := by kernel_rfl
  i3 := by kernel_rfl
  i4 := by kernel_rfl
  i5 := by kernel_rfl
  i9 := by kernel_rfl
  i21 := by kernel_rfl
  i37 := by kernel_rfl
  i46 := by kernel_rfl
  i53 := by kernel_rfl
  i75 := by kernel_rfl
  i80 := by kernel_rfl
  i85 := by kernel_rfl
  i167 := by kernel_rfl
  i175 := by kernel_rfl
  c0 := by kernel_rfl
  c2 := by kernel_rfl
  c3 := by kernel_rfl
  c4 := by kernel_rfl
  c5 := by kernel_rfl
  c9 := by kernel_rfl
  c21 := by kernel_rfl
  c37 := by kernel_rfl
  c46 := by kernel_rfl
  c53 := by kernel_rfl
  c75 := by kernel_rfl
  c80 := by kernel_rfl
  c85 := by kernel_rfl
  c167 := by kernel_rfl
  c175 := by kernel_rfl }
open Go.RowKit in
/-- internal/strconv.Atoi, AT EVERY STRING OF 19 BYTES OR MORE: 'Lib.atoiAll' OF ITS BYTES: (the number, nil); (0, ErrSyntax); (the greatest or the least int by the sign, ErrRange). (LAID: no walk: one application.) -/
theorem Tryz.internal_strconv_Atoi_long (s : ByteArray) (h19 : 19 ≤ s.size) (hmax : s.size ≤ 9223372036854775806) (w : World) :
    Calls Tryz.prog 117 #[.string s] w fun e w' => e = .returned (Lib.intTuple 204 (Lib.atoiSat s.data.toList) (Lib.atoiAll s.data.toList)) ∧ (w' = w ∨ ∃ t, w' = Lib.bytesWorld w 5 t) := Any.internal_strconv_Atoi_long Tryz.laysC244 s h19 hmax w
open Go.RowKit in
/-- internal/strconv.Atoi, AT EVERY STRING: 'Lib.atoiAll' OF ITS BYTES: (the number, nil); (0, ErrSyntax); (the greatest or the least int by the sign, ErrRange). The world: as it was, or with the one new row that '[]byte(..)' lays. (LAID: no walk: one application.) -/
theorem Tryz.internal_strconv_Atoi_all (s : ByteArray) (hmax : s.size ≤ 9223372036854775806) (w : World) :
    Calls Tryz.prog 117 #[.string s] w fun e w' => e = .returned (Lib.intTuple 204 (Lib.atoiSat s.data.toList) (Lib.atoiAll s.data.toList)) ∧ (w' = w ∨ ∃ t, w' = Lib.bytesWorld w 5 t) := Any.internal_strconv_Atoi_all Tryz.laysC244 s hmax w
def Tryz.laysM280_ren : Go.Shelf.Ren := ⟨fun | 280 => 142 | 316 => 166 | n => n, fun | 9 => 9 | 168 => 207 | 75 => 67 | 210 => 240 | 3 => 3 | 4 => 4 | 37 => 38 | 0 => 0 | 127 => 190 | 80 => 86 | 5 => 5 | n => n, fun | 16 => 11 | n => n⟩
theorem Tryz.laysM280 : Go.Proofs.LaysM.n280 Tryz.prog Tryz.laysM280_ren := {
  mixed := by kernel_rfl
  f280 := Tryz.func142.trans (congrArg some (by kernel_rfl))
  f316 := Tryz.func166.trans (congrArg some (by kernel_rfl))
  t0 := Tryz.underlying0
  a0 := Tryz.isAgg0
  z0 := Tryz.sizeOf0
  v0 := Tryz.zeroValue0
  t3 := Tryz.underlying3
  a3 := Tryz.isAgg3
  z3 := Tryz.sizeOf3
  v3 := Tryz.zeroValue3
  t4 := Tryz.underlying4
  a4 := Tryz.isAgg4
  z4 := Tryz.sizeOf4
  v4 := Tryz.zeroValue4
  t9 := Tryz.underlying9
  a9 := Tryz.isAgg9
  z9 := Tryz.sizeOf9
  v9 := Tryz.zeroValue9
  t37 := Tryz.underlying38
  a37 := Tryz.isAgg38
  z37 := Tryz.sizeOf38
  v37 := Tryz.zeroValue38
  t75 := Tryz.underlying67
  a75 := Tryz.isAgg67
  z75 := Tryz.sizeOf67
  v75 := Tryz.zeroValue67
  t127 := Tryz.underlying190
  a127 := Tryz.isAgg190
  z127 := Tryz.sizeOf190
  v127 := Tryz.zeroValue190
  t168 := Tryz.underlying207
  a168 := Tryz.isAgg207
  z168 := Tryz.sizeOf207
  v168 := Tryz.zeroValue207
  t210 := Tryz.underlying240
  a210 := Tryz.isAgg240
  z210 := Tryz.sizeOf240
  v210 := Tryz.zeroValue240
  g16 := by kernel_rfl
  t5 := Tryz.underlying5
  a5 := Tryz.isAgg5
  z5 := Tryz.sizeOf5
  v5 := Tryz.zeroValue5
  t80 := Tryz.underlying86
  a80 := Tryz.isAgg86
  z80 := Tryz.sizeOf86
  v80 := Tryz.zeroValue86
  i0 := by kernel_rfl
  i3 := by kernel_rfl
  i4 := by kernel_rfl
  i5 := by kernel_rfl
  i9 := by kernel_rfl
  i37 := by kernel_rfl
  i75 := by kernel_rfl
  i80 := by kernel_rfl
  i127 := by kernel_rfl
  i168 := by kernel_rfl
  i210 := by kernel_rfl
  m16 := by kernel_rfl }
open Go.RowKit in
/-- strconv.rangeError: '&NumError{fn, stringslite.Clone(str), ErrRange}': A POINTER TO A NEW BLOCK that holds fn, str's bytes, and what the variable ErrRange holds. Of what was there nothing has turned. (LAID: no walk: one application.) -/
theorem Tryz.strconv_rangeError (fn s : ByteArray) (ev : Value) (w : World) (hlim : s.size ≤ 281474976710656) (hv : w.cell? ⟨11, 0, none⟩ = some ev) (hev : ev = .nilIface ∨ ∃ te pe, ev = .iface te pe) :
    Calls Tryz.prog 142 #[.string fn, .string s] w fun e w' => ∃ N, e = .returned (.pointer (some ⟨N, 0, none⟩)) ∧ w.heap.size ≤ N ∧ w'.heap[N]? = some (.cells #[.string fn, .string s, ev] 240 (0, 0)) ∧ Below w.heap.size w w' := Any.strconv_rangeError Tryz.laysM280 fn s ev w hlim hv hev
open Go.RowKit in
/-- strconv.toError, at the inner package's ErrRange: 'rangeError(fn, s)' as an error: A *NumError IN A NEW BLOCK. (LAID: no walk: one application.) -/
theorem Tryz.strconv_toError_range (fn s : ByteArray) (base bits : Int) (ev : Value) (w : World) (hlim : s.size ≤ 281474976710656) (hv : w.cell? ⟨11, 0, none⟩ = some ev) (hev : ev = .nilIface ∨ ∃ te pe, ev = .iface te pe) :
    Calls Tryz.prog 118 #[.string fn, .string s, .int .i64 base, .int .i64 bits, .iface 204 (.int .i64 1)] w fun e w' => ∃ N, e = .returned (.iface 207 (.pointer (some ⟨N, 0, none⟩))) ∧ w.heap.size ≤ N ∧ w'.heap[N]? = some (.cells #[.string fn, .string s, ev] 240 (0, 0)) ∧ Below w.heap.size w w' := Any.strconv_toError_range Tryz.laysC245 fn s base bits ev w hlim hv hev
def Tryz.laysC172_ren : Go.Shelf.Ren := ⟨fun | 172 => 89 | 244 => 117 | 245 => 118 | 247 => 140 | 279 => 141 | 280 => 142 | 281 => 143 | 282 => 144 | 287 => 165 | 316 => 166 | 171 => 35 | 205 => 71 | 321 => 172 | 322 => 173 | 243 => 65 | 246 => 93 | 283 => 119 | 284 => 120 | 285 => 121 | 286 => 122 | 129 => 146 | 317 => 145 | 318 => 147 | 319 => 148 | 320 => 149 | 337 => 167 | 338 => 168 | n => n, fun | 9 => 9 | 3 => 3 | 75 => 67 | 76 => 143 | 4 => 4 | 5 => 5 | 167 => 204 | 37 => 38 | 0 => 0 | 85 => 205 | 2 => 2 | 168 => 207 | 53 => 180 | 175 => 237 | 46 => 213 | 210 => 240 | 127 => 190 | 145 => 159 | 143 => 157 | 21 => 21 | 171 => 179 | 173 => 183 | 212 => 211 | 51 => 191 | 20 => 20 | 213 => 212 | 232 => 254 | 233 => 255 | 80 => 86 | n => n, fun | 15 => 10 | 16 => 11 | 17 => 9 | 18 => 16 | 19 => 17 | n => n⟩
theorem Tryz.laysC172 : Go.Proofs.LaysC.n172 Tryz.prog Tryz.laysC172_ren := {
  mixed := by kernel_rfl
  f129 := Tryz.func146.trans (congrArg some (by kernel_rfl))
  f171 := Tryz.func35.trans (congrArg some (by kernel_rfl))
  f172 := Tryz.func89.trans (congrArg some (by kernel_rfl))
  f205 := Tryz.func71.trans (congrArg some (by kernel_rfl))
  f243 := Tryz.func65.trans (congrArg some (by kernel_rfl))
  f244 := Tryz.func117.trans (congrArg some (by kernel_rfl))
  f245 := Tryz.func118.trans (congrArg some (by kernel_rfl))
  f246 := Tryz.func93.trans (congrArg some (by kernel_rfl))
  f247 := Tryz.func140.trans (congrArg some (by kernel_rfl))
  f279 := Tryz.func141.trans (congrArg some (by kernel_rfl))
  f280 := Tryz.func142.trans (congrArg some (by kernel_rfl))
  f281 := Tryz.func143.trans (congrArg some (by kernel_rfl))
  f282 := Tryz.func144.trans (congrArg some (by kernel_rfl))
  f283 := Tryz.func119.trans (congrArg some (by kernel_rfl))
  f284 := Tryz.func120.trans (congrArg some (by kernel_rfl))
  f285 := Tryz.func121.trans (congrArg some (by kernel_rfl))
  f286 := Tryz.func122.trans (congrArg some (by kernel_rfl))
  f287 := Tryz.func165.trans (congrArg some (by kernel_rfl))
  f316 := Tryz.func166.trans (congrArg some (by kernel_rfl))
  f317 := Tryz.func145.trans (congrArg some (by kernel_rfl))
  f318 := Tryz.func147.trans (congrArg some (by kernel_rfl))
  f319 := Tryz.func148.trans (congrArg some (by kernel_rfl))
  f320 := Tryz.func149.trans (congrArg some (by kernel_rfl))
  f321 := Tryz.func172.trans (congrArg some (by kernel_rfl))
  f322 := Tryz.func173.trans (congrArg some (by kernel_rfl))
  f337 := Tryz.func167.trans (congrArg some (by kernel_rfl))
  f338 := Tryz.func168.trans (congrArg some (by kernel_rfl))
  t0 := Tryz.underlying0
  a0 := Tryz.isAgg0
  z0 := Tryz.sizeOf0
  v0 := Tryz.zeroValue0
  t2 := Tryz.underlying2
  a2 := Tryz.isAgg2
  z2 := Tryz.sizeOf2
  v2 := Tryz.zeroValue2
  t3 := Tryz.underlying3
  a3 := Tryz.isAgg3
  z3 := Tryz.sizeOf3
  v3 := Tryz.zeroValue3
  t4 := Tryz.underlying4
  a4 := Tryz.isAgg4
  z4 := Tryz.sizeOf4
  v4 := Tryz.zeroValue4
  t5 := Tryz.underlying5
  a5 := Tryz.isAgg5
  z5 := Tryz.sizeOf5
  v5 := Tryz.zeroValue5
  t9 := Tryz.underlying9
  a9 := Tryz.isAgg9
  z9 := Tryz.sizeOf9
  v9 := Tryz.zeroValue9
  t20 := Tryz.underlying20
  a20 := Tryz.isAgg20
  z20 := Tryz.sizeOf20
  v20 := Tryz.zeroValue20
  t21 := Tryz.underlying21
  a21 := Tryz.isAgg21
  z21 := Tryz.sizeOf21
  v21 := Tryz.zeroValue21
  t37 := Tryz.underlying38
  a37 := Tryz.isAgg38
  z37 := Tryz.sizeOf38
  v37 := Tryz.zeroValue38
  t46 := Tryz.underlying213
  a46 := Tryz.isAgg213
  z46 := Tryz.sizeOf213
  v46 := Tryz.zeroValue213
  t51 := Tryz.underlying191
  a51 := Tryz.isAgg191
  z51 := Tryz.sizeOf191
  v51 := Tryz.zeroValue191
  t53 := Tryz.underlying180
  a53 := Tryz.isAgg180
  z53 := Tryz.sizeOf180
  v53 := Tryz.zeroValue180
  t75 := Tryz.underlying67
  a75 := Tryz.isAgg67
  z75 := Tryz.sizeOf67
  v75 := Tryz.zeroValue67
  t76 := Tryz.underlying143
  a76 := Tryz.isAgg143
  z76 := Tryz.sizeOf143
  v76 := Tryz.zeroValue143
  t85 := Tryz.underlying205
  a85 := Tryz.isAgg205
  z85 := Tryz.sizeOf205
  v85 := Tryz.zeroValue205
  t127 := Tryz.underlying190
  a127 := Tryz.isAgg190
  z127 := Tryz.sizeOf190
  v127 := Tryz.zeroValue190
  t143 := Tryz.underlying157
  a143 := Tryz.isAgg157
  z143 := Tryz.sizeOf157
  v143 := Tryz.zeroValue157
  t145 := Tryz.underlying159
  a145 := Tryz.isAgg159
  z145 := Tryz.sizeOf159
  v145 := Tryz.zeroValue159
  t167 := Tryz.underlying204
  a167 := Tryz.isAgg204
  z167 := Tryz.sizeOf204
  v167 := Tryz.zeroValue204
  t168 := Tryz.underlying207
  a168 := Tryz.isAgg207
  z168 := Tryz.sizeOf207
  v168 := Tryz.zeroValue207
  t171 := Tryz.underlying179
  a171 := Tryz.isAgg179
  z171 := Tryz.sizeOf179
  v171 := Tryz.zeroValue179
  t173 := Tryz.underlying183
  a173 := Tryz.isAgg183
  z173 := Tryz.sizeOf183
  v173 := Tryz.zeroValue183
  t175 := Tryz.underlying237
  a175 := Tryz.isAgg237
  z175 := Tryz.sizeOf237
  v175 := Tryz.zeroValue237
  t210 := Tryz.underlying240
  a210 := Tryz.isAgg240
  z210 := Tryz.sizeOf240
  v210 := Tryz.zeroValue240
  t212 := Tryz.underlying211
  a212 := Tryz.isAgg211
  z212 := Tryz.sizeOf211
  v212 := Tryz.zeroValue211
  t213 := Tryz.underlying212
  a213 := Tryz.isAgg212
  z213 := Tryz.sizeOf212
  t232 := Tryz.underlying254
  a232 := Tryz.isAgg254
  z232 := Tryz.sizeOf254
  v232 := Tryz.zeroValue254
  t233 := Tryz.underlying255
  a233 := Tryz.isAgg255
  z233 := Tryz.sizeOf255
  v233 := Tryz.zeroValue255
  g15 := by kernel_rfl
  g16 := by kernel_rfl
  g17 := by kernel_rfl
  g18 := by kernel_rfl
  g19 := by kernel_rfl
  t80 := Tryz.underlying86
  a80 := Tryz.isAgg86
  z80 := Tryz.sizeOf86
  v80 := Tryz.zeroValue86
  i0 := by kernel_rfl
  i2 := by kernel_rfl
  i3 := by kernel_rfl
  i4 := by kernel_rfl
  i5 := by kernel_rfl
  i9 := by kernel_rfl
  i20 := by kernel_rfl
  i21 := by kernel_rfl
  i37 := by kernel_rfl
  i46 := by kernel_rfl
  i51 := by kernel_rfl
  i53 := by kernel_rfl
  i75 := by kernel_rfl
  i76 := by kernel_rfl
  i80 := by kernel_rfl
  i85 := by kernel_rfl
  i127 := by kernel_rfl
  i143 := by kernel_rfl
  i145 := by kernel_rfl
  i167 := by kernel_rfl
  i168 := by kernel_rfl
  i171 := by kernel_rfl
  i173 := by kernel_rfl
  i175 := by kernel_rfl
  i210 := by kernel_rfl
  i212 := by kernel_rfl
  i232 := by kernel_rfl
  i233 := by kernel_rfl
  m15 := by kernel_rfl
  m16 := by kernel_rfl
  m17 := by kernel_rfl
  m18 := by kernel_rfl
  m19 := by kernel_rfl
  c0 := by kernel_rfl
  c2 := by kernel_rfl
  c3 := by kernel_rfl
  c4 := by kernel_rfl
  c5 := by kernel_rfl
  c9 := by kernel_rfl
  c20 := by kernel_rfl
  c21 := by kernel_rfl
  c37 := by kernel_rfl
  c46 := by kernel_rfl
  c51 := by kernel_rfl
  c53 := by kernel_rfl
  c75 := by kernel_rfl
  c76 := by kernel_rfl
  c80 := by kernel_rfl
  c85 := by kernel_rfl
  c127 := by kernel_rfl
  c143 := by kernel_rfl
  c145 := by kernel_rfl
  c167 := by kernel_rfl
  c168 := by kernel_rfl
  c171 := by kernel_rfl
  c173 := by kernel_rfl
  c175 := by kernel_rfl
  c210 := by kernel_rfl
  c212 := by kernel_rfl
  c213 := by kernel_rfl
  c232 := by kernel_rfl
  c233 := by kernel_rfl }
open Go.RowKit in
/-- strconv.Atoi, AT EVERY STRING THAT SPELLS AN int ('Lib.atoiAll .. = .ok v'; of whatever length: leading zeros count): v, AND NO ERROR. The world: as it was, or with the one new row that '[]byte(..)' lays. (LAID: no walk: one application.) -/
theorem Tryz.strconv_Atoi_ok (s : ByteArray) (hmax : s.size ≤ 9223372036854775806) (v : Int) (h : Lib.atoiAll s.data.toList = .ok v) (w : World) :
    Calls Tryz.prog 89 #[.string s] w fun e w' => e = .returned (.tuple #[.int .i64 v, .nilIface]) ∧ (w' = w ∨ ∃ t, w' = Lib.bytesWorld w 5 t) := Any.strconv_Atoi_ok Tryz.laysC172 s hmax v h w
open Go.RowKit in
/-- strconv.Atoi, AT EVERY NUMERAL THAT NO int HOLDS ('.range'): THE GREATEST OR THE LEAST int, BY THE SIGN ('Lib.atoiSat'), AND AN ERROR THAT IS NOT nil: a *NumError in a new block N: {Func: "Atoi", Num: s's bytes, Err: what the variable ErrRange holds}. Of what was there nothing has turned. (LAID: no walk: one application.) -/
theorem Tryz.strconv_Atoi_range (s : ByteArray) (hlim : s.size ≤ 281474976710656) (h : Lib.atoiAll s.data.toList = .range) (ev : Value) (w : World) (hv : w.cell? ⟨11, 0, none⟩ = some ev) (hev : ev = .nilIface ∨ ∃ te pe, ev = .iface te pe) :
    Calls Tryz.prog 89 #[.string s] w fun e w' => ∃ N, e = .returned (.tuple #[.int .i64 (Lib.atoiSat s.data.toList), .iface 207 (.pointer (some ⟨N, 0, none⟩))]) ∧ w.heap.size ≤ N ∧ w'.heap[N]? = some (.cells #[.string ⟨#[65, 116, 111, 105]⟩, .string s, ev] 240 (0, 0)) ∧ Below w.heap.size w w' := Any.strconv_Atoi_range Tryz.laysC172 s hlim h ev w hv hev
open Go.RowKit in
theorem Tryz.strconv_Atoi_range_var (s : ByteArray) (hlim : s.size ≤ 281474976710656) (h : Lib.atoiAll s.data.toList = .range) (tp : TypeId) (p : Value) (w : World) (hvar : w.var? Tryz.prog "strconv.ErrRange" = some #[.iface tp p]) :
    Calls Tryz.prog 89 #[.string s] w fun e w' => ∃ N, e = .returned (.tuple #[.int .i64 (Lib.atoiSat s.data.toList), .iface 207 (.pointer (some ⟨N, 0, none⟩))]) ∧ w.heap.size ≤ N ∧ w'.heap[N]? = some (.cells #[.string ⟨#[65, 116, 111, 105]⟩, .string s, .iface tp p] 240 (0, 0)) ∧ Below w.heap.size w w' := Any.strconv_Atoi_range_var Tryz.laysC172 s hlim h tp p w hvar
def Tryz.lays206_ren : Go.Shelf.Ren := ⟨fun | 206 => 123 | n => n, fun | 9 => 9 | 4 => 4 | 3 => 3 | n => n, fun | n => n⟩
theorem Tryz.lays206 : Go.Proofs.Lays.n206 Tryz.prog Tryz.lays206_ren := {
  mixed := by kernel_rfl
  f206 := Tryz.func123.trans (congrArg some (by kernel_rfl))
  t3 := Tryz.underlying3
  a3 := Tryz.isAgg3
  z3 := Tryz.sizeOf3
  v3 := Tryz.zeroValue3
  t4 := Tryz.underlying4
  a4 := Tryz.isAgg4
  z4 := Tryz.sizeOf4
  v4 := Tryz.zeroValue4
  t9 := Tryz.underlying9
  a9 := Tryz.isAgg9
  z9 := Tryz.sizeOf9
  v9 := Tryz.zeroValue9 }
open Go.RowKit Go.Lib in
/-- internal/stringslite.HasPrefix (what strings.HasPrefix calls). (LAID: no walk: one application.) -/
theorem Tryz.stringslite_HasPrefix (s p : ByteArray) (w : World) :
    Calls Tryz.prog 123 #[.string s, .string p] w fun e w' => e = .returned (.bool (Lib.hasPrefix s.data.toList p.data.toList)) ∧ w' = w := Any.stringslite_HasPrefix Tryz.lays206 s p w
def Tryz.lays99_ren : Go.Shelf.Ren := ⟨fun | 99 => 98 | 206 => 123 | n => n, fun | 9 => 9 | 4 => 4 | 3 => 3 | n => n, fun | n => n⟩
theorem Tryz.lays99 : Go.Proofs.Lays.n99 Tryz.prog Tryz.lays99_ren := {
  mixed := by kernel_rfl
  f99 := Tryz.func98.trans (congrArg some (by kernel_rfl))
  f206 := Tryz.func123.trans (congrArg some (by kernel_rfl))
  t3 := Tryz.underlying3
  a3 := Tryz.isAgg3
  z3 := Tryz.sizeOf3
  v3 := Tryz.zeroValue3
  t4 := Tryz.underlying4
  a4 := Tryz.isAgg4
  z4 := Tryz.sizeOf4
  v4 := Tryz.zeroValue4
  t9 := Tryz.underlying9
  a9 := Tryz.isAgg9
  z9 := Tryz.sizeOf9
  v9 := Tryz.zeroValue9 }
open Go.RowKit Go.Lib in
/-- strings.HasPrefix: "HasPrefix reports whether the string s begins with prefix.": IT RETURNS 'Lib.hasPrefix s prefix'; the world is as it was. (LAID: no walk: one application.) -/
theorem Tryz.strings_HasPrefix (s p : ByteArray) (w : World) :
    Calls Tryz.prog 98 #[.string s, .string p] w fun e w' => e = .returned (.bool (Lib.hasPrefix s.data.toList p.data.toList)) ∧ w' = w := Any.strings_HasPrefix Tryz.lays99 s p w
def Tryz.lays208_ren : Go.Shelf.Ren := ⟨fun | 208 => 114 | 206 => 123 | n => n, fun | 9 => 9 | 4 => 4 | 3 => 3 | n => n, fun | n => n⟩
theorem Tryz.lays208 : Go.Proofs.Lays.n208 Tryz.prog Tryz.lays208_ren := {
  mixed := by kernel_rfl
  f206 := Tryz.func123.trans (congrArg some (by kernel_rfl))
  f208 := Tryz.func114.trans (congrArg some (by kernel_rfl))
  t3 := Tryz.underlying3
  a3 := Tryz.isAgg3
  z3 := Tryz.sizeOf3
  v3 := Tryz.zeroValue3
  t4 := Tryz.underlying4
  a4 := Tryz.isAgg4
  z4 := Tryz.sizeOf4
  v4 := Tryz.zeroValue4
  t9 := Tryz.underlying9
  a9 := Tryz.isAgg9
  z9 := Tryz.sizeOf9
  v9 := Tryz.zeroValue9 }
open Go.RowKit Go.Lib in
/-- internal/stringslite.TrimPrefix (what strings.TrimPrefix calls). (LAID: no walk: one application.) -/
theorem Tryz.stringslite_TrimPrefix (s p : ByteArray) (w : World) :
    Calls Tryz.prog 114 #[.string s, .string p] w fun e w' => e = .returned (.string ⟨(Lib.trimPrefix s.data.toList p.data.toList).toArray⟩) ∧ w' = w := Any.stringslite_TrimPrefix Tryz.lays208 s p w
def Tryz.lays101_ren : Go.Shelf.Ren := ⟨fun | 101 => 87 | 208 => 114 | 206 => 123 | n => n, fun | 9 => 9 | 4 => 4 | 3 => 3 | n => n, fun | n => n⟩
theorem Tryz.lays101 : Go.Proofs.Lays.n101 Tryz.prog Tryz.lays101_ren := {
  mixed := by kernel_rfl
  f101 := Tryz.func87.trans (congrArg some (by kernel_rfl))
  f206 := Tryz.func123.trans (congrArg some (by kernel_rfl))
  f208 := Tryz.func114.trans (congrArg some (by kernel_rfl))
  t3 := Tryz.underlying3
  a3 := Tryz.isAgg3
  z3 := Tryz.sizeOf3
  v3 := Tryz.zeroValue3
  t4 := Tryz.underlying4
  a4 := Tryz.isAgg4
  z4 := Tryz.sizeOf4
  v4 := Tryz.zeroValue4
  t9 := Tryz.underlying9
  a9 := Tryz.isAgg9
  z9 := Tryz.sizeOf9
  v9 := Tryz.zeroValue9 }
open Go.RowKit Go.Lib in
/-- strings.TrimPrefix: "TrimPrefix returns s without the provided leading prefix string. If s doesn't start with prefix, s is returned unchanged.": IT RETURNS 'Lib.trimPrefix s prefix'; the world is as it was. (LAID: no walk: one application.) -/
theorem Tryz.strings_TrimPrefix (s p : ByteArray) (w : World) :
    Calls Tryz.prog 87 #[.string s, .string p] w fun e w' => e = .returned (.string ⟨(Lib.trimPrefix s.data.toList p.data.toList).toArray⟩) ∧ w' = w := Any.strings_TrimPrefix Tryz.lays101 s p w
def Tryz.lays199_ren : Go.Shelf.Ren := ⟨fun | 199 => 109 | 261 => 131 | 311 => 154 | 312 => 155 | n => n, fun | 21 => 21 | 4 => 4 | 51 => 191 | 141 => 193 | 0 => 0 | 196 => 223 | 193 => 220 | 3 => 3 | 198 => 226 | 49 => 224 | 194 => 221 | 201 => 229 | 226 => 242 | 46 => 213 | 227 => 243 | n => n, fun | 6 => 8 | n => n⟩
theorem Tryz.lays199 : Go.Proofs.Lays.n199 Tryz.prog Tryz.lays199_ren := {
  mixed := by kernel_rfl
  f199 := Tryz.func109.trans (congrArg some (by kernel_rfl))
  f261 := Tryz.func131.trans (congrArg some (by kernel_rfl))
  f311 := Tryz.func154.trans (congrArg some (by kernel_rfl))
  f312 := Tryz.func155.trans (congrArg some (by kernel_rfl))
  t0 := Tryz.underlying0
  a0 := Tryz.isAgg0
  z0 := Tryz.sizeOf0
  v0 := Tryz.zeroValue0
  t3 := Tryz.underlying3
  a3 := Tryz.isAgg3
  z3 := Tryz.sizeOf3
  v3 := Tryz.zeroValue3
  t4 := Tryz.underlying4
  a4 := Tryz.isAgg4
  z4 := Tryz.sizeOf4
  v4 := Tryz.zeroValue4
  t21 := Tryz.underlying21
  a21 := Tryz.isAgg21
  z21 := Tryz.sizeOf21
  v21 := Tryz.zeroValue21
  t46 := Tryz.underlying213
  a46 := Tryz.isAgg213
  z46 := Tryz.sizeOf213
  v46 := Tryz.zeroValue213
  t49 := Tryz.underlying224
  a49 := Tryz.isAgg224
  z49 := Tryz.sizeOf224
  v49 := Tryz.zeroValue224
  t51 := Tryz.underlying191
  a51 := Tryz.isAgg191
  z51 := Tryz.sizeOf191
  v51 := Tryz.zeroValue191
  t141 := Tryz.underlying193
  a141 := Tryz.isAgg193
  z141 := Tryz.sizeOf193
  v141 := Tryz.zeroValue193
  t193 := Tryz.underlying220
  a193 := Tryz.isAgg220
  z193 := Tryz.sizeOf220
  v193 := Tryz.zeroValue220
  t194 := Tryz.underlying221
  a194 := Tryz.isAgg221
  z194 := Tryz.sizeOf221
  v194 := Tryz.zeroValue221
  t196 := Tryz.underlying223
  a196 := Tryz.isAgg223
  z196 := Tryz.sizeOf223
  v196 := Tryz.zeroValue223
  t198 := Tryz.underlying226
  a198 := Tryz.isAgg226
  z198 := Tryz.sizeOf226
  v198 := Tryz.zeroValue226
  t201 := Tryz.underlying229
  a201 := Tryz.isAgg229
  z201 := Tryz.sizeOf229
  v201 := Tryz.zeroValue229
  t226 := Tryz.underlying242
  a226 := Tryz.isAgg242
  z226 := Tryz.sizeOf242
  v226 := Tryz.zeroValue242
  t227 := Tryz.underlying243
  a227 := Tryz.isAgg243
  z227 := Tryz.sizeOf243
  v227 := Tryz.zeroValue243
  g6 := by kernel_rfl }
open Go.RowKit Go.Lib in
theorem Tryz.unicode_IsSpace (r : Int) (w : World) (h0 : 0 ≤ r) (h : r ≤ 255) :
    Calls Tryz.prog 109 #[.int .i32 r] w fun e w' => e = .returned (.bool (Lib.isSpaceL r)) ∧ w' = w := Any.unicode_IsSpace Tryz.lays199 r w h0 h
def Tryz.lays203_ren : Go.Shelf.Ren := ⟨fun | 203 => 136 | 262 => 161 | 313 => 171 | 274 => 175 | 275 => 176 | n => n, fun | 21 => 21 | 4 => 4 | 3 => 3 | 162 => 251 | 203 => 249 | 160 => 256 | 46 => 213 | 0 => 0 | 208 => 262 | 51 => 191 | 206 => 260 | n => n, fun | 13 => 15 | n => n⟩
theorem Tryz.lays203 : Go.Proofs.Lays.n203 Tryz.prog Tryz.lays203_ren := {
  mixed := by kernel_rfl
  f203 := Tryz.func136.trans (congrArg some (by kernel_rfl))
  f262 := Tryz.func161.trans (congrArg some (by kernel_rfl))
  f274 := Tryz.func175.trans (congrArg some (by kernel_rfl))
  f275 := Tryz.func176.trans (congrArg some (by kernel_rfl))
  f313 := Tryz.func171.trans (congrArg some (by kernel_rfl))
  t0 := Tryz.underlying0
  a0 := Tryz.isAgg0
  z0 := Tryz.sizeOf0
  v0 := Tryz.zeroValue0
  t3 := Tryz.underlying3
  a3 := Tryz.isAgg3
  z3 := Tryz.sizeOf3
  v3 := Tryz.zeroValue3
  t4 := Tryz.underlying4
  a4 := Tryz.isAgg4
  z4 := Tryz.sizeOf4
  v4 := Tryz.zeroValue4
  t21 := Tryz.underlying21
  a21 := Tryz.isAgg21
  z21 := Tryz.sizeOf21
  v21 := Tryz.zeroValue21
  t46 := Tryz.underlying213
  a46 := Tryz.isAgg213
  z46 := Tryz.sizeOf213
  v46 := Tryz.zeroValue213
  t51 := Tryz.underlying191
  a51 := Tryz.isAgg191
  z51 := Tryz.sizeOf191
  v51 := Tryz.zeroValue191
  t160 := Tryz.underlying256
  a160 := Tryz.isAgg256
  z160 := Tryz.sizeOf256
  v160 := Tryz.zeroValue256
  t162 := Tryz.underlying251
  a162 := Tryz.isAgg251
  z162 := Tryz.sizeOf251
  v162 := Tryz.zeroValue251
  t203 := Tryz.underlying249
  a203 := Tryz.isAgg249
  z203 := Tryz.sizeOf249
  v203 := Tryz.zeroValue249
  t206 := Tryz.underlying260
  a206 := Tryz.isAgg260
  z206 := Tryz.sizeOf260
  v206 := Tryz.zeroValue260
  t208 := Tryz.underlying262
  a208 := Tryz.isAgg262
  z208 := Tryz.sizeOf262
  v208 := Tryz.zeroValue262
  g13 := by kernel_rfl }
open Go.RowKit Go.Lib in
theorem Tryz.unicode_ToUpper (r : Int) (w : World) (h : r ≤ 127) :
    Calls Tryz.prog 136 #[.int .i32 r] w fun e w' => e = .returned (.int .i32 (Lib.toUpperR r)) ∧ w' = w := Any.unicode_ToUpper Tryz.lays203 r w h
def Tryz.lays260_ren : Go.Shelf.Ren := ⟨fun | 260 => 157 | n => n, fun | 9 => 9 | 21 => 21 | 3 => 3 | 4 => 4 | 5 => 5 | 119 => 172 | 0 => 0 | 46 => 213 | 139 => 247 | 138 => 246 | n => n, fun | 3 => 13 | 4 => 14 | n => n⟩
theorem Tryz.lays260 : Go.Proofs.Lays.n260 Tryz.prog Tryz.lays260_ren := {
  mixed := by kernel_rfl
  f260 := Tryz.func157.trans (congrArg some (by kernel_rfl))
  t0 := Tryz.underlying0
  a0 := Tryz.isAgg0
  z0 := Tryz.sizeOf0
  v0 := Tryz.zeroValue0
  t3 := Tryz.underlying3
  a3 := Tryz.isAgg3
  z3 := Tryz.sizeOf3
  v3 := Tryz.zeroValue3
  t4 := Tryz.underlying4
  a4 := Tryz.isAgg4
  z4 := Tryz.sizeOf4
  v4 := Tryz.zeroValue4
  t5 := Tryz.underlying5
  a5 := Tryz.isAgg5
  z5 := Tryz.sizeOf5
  v5 := Tryz.zeroValue5
  t9 := Tryz.underlying9
  a9 := Tryz.isAgg9
  z9 := Tryz.sizeOf9
  v9 := Tryz.zeroValue9
  t21 := Tryz.underlying21
  a21 := Tryz.isAgg21
  z21 := Tryz.sizeOf21
  v21 := Tryz.zeroValue21
  t46 := Tryz.underlying213
  a46 := Tryz.isAgg213
  z46 := Tryz.sizeOf213
  v46 := Tryz.zeroValue213
  t119 := Tryz.underlying172
  a119 := Tryz.isAgg172
  z119 := Tryz.sizeOf172
  t138 := Tryz.underlying246
  a138 := Tryz.isAgg246
  z138 := Tryz.sizeOf246
  v138 := Tryz.zeroValue246
  t139 := Tryz.underlying247
  a139 := Tryz.isAgg247
  z139 := Tryz.sizeOf247
  v139 := Tryz.zeroValue247
  g3 := by kernel_rfl
  g4 := by kernel_rfl }
open Go.RowKit Go.Lib in
theorem Tryz.utf8_decodeRuneInStringSlow (s : ByteArray) (w : World) (hT : Lib.Utf8Tabs 13 14 w) :
    Calls Tryz.prog 157 #[.string s] w fun e w' => e = .returned (.tuple #[.int .i32 (Lib.decodeGo s).1, .int .i64 (Lib.decodeGo s).2]) ∧ Below w.heap.size w w' := Any.utf8_decodeRuneInStringSlow Tryz.lays260 s w hT
def Tryz.lays197_ren : Go.Shelf.Ren := ⟨fun | 197 => 133 | 260 => 157 | n => n, fun | 9 => 9 | 21 => 21 | 3 => 3 | 4 => 4 | 5 => 5 | 105 => 195 | 119 => 172 | 0 => 0 | 46 => 213 | 139 => 247 | 138 => 246 | n => n, fun | 3 => 13 | 4 => 14 | n => n⟩
theorem Tryz.lays197 : Go.Proofs.Lays.n197 Tryz.prog Tryz.lays197_ren := {
  mixed := by kernel_rfl
  f197 := Tryz.func133.trans (congrArg some (by kernel_rfl))
  f260 := Tryz.func157.trans (congrArg some (by kernel_rfl))
  t0 := Tryz.underlying0
  a0 := Tryz.isAgg0
  z0 := Tryz.sizeOf0
  v0 := Tryz.zeroValue0
  t3 := Tryz.underlying3
  a3 := Tryz.isAgg3
  z3 := Tryz.sizeOf3
  v3 := Tryz.zeroValue3
  t4 := Tryz.underlying4
  a4 := Tryz.isAgg4
  z4 := Tryz.sizeOf4
  v4 := Tryz.zeroValue4
  t5 := Tryz.underlying5
  a5 := Tryz.isAgg5
  z5 := Tryz.sizeOf5
  v5 := Tryz.zeroValue5
  t9 := Tryz.underlying9
  a9 := Tryz.isAgg9
  z9 := Tryz.sizeOf9
  v9 := Tryz.zeroValue9
  t21 := Tryz.underlying21
  a21 := Tryz.isAgg21
  z21 := Tryz.sizeOf21
  v21 := Tryz.zeroValue21
  t46 := Tryz.underlying213
  a46 := Tryz.isAgg213
  z46 := Tryz.sizeOf213
  v46 := Tryz.zeroValue213
  t105 := Tryz.underlying195
  a105 := Tryz.isAgg195
  z105 := Tryz.sizeOf195
  v105 := Tryz.zeroValue195
  t119 := Tryz.underlying172
  a119 := Tryz.isAgg172
  z119 := Tryz.sizeOf172
  t138 := Tryz.underlying246
  a138 := Tryz.isAgg246
  z138 := Tryz.sizeOf246
  v138 := Tryz.zeroValue246
  t139 := Tryz.underlying247
  a139 := Tryz.isAgg247
  z139 := Tryz.sizeOf247
  v139 := Tryz.zeroValue247
  g3 := by kernel_rfl
  g4 := by kernel_rfl }
open Go.RowKit Go.Lib in
/-- **unicode/utf8.DecodeRuneInString AT EVERY STRING.** (LAID: no walk: one application.) -/
theorem Tryz.utf8_DecodeRuneInString (s : ByteArray) (w : World) (hT : Lib.Utf8Tabs 13 14 w) :
    Calls Tryz.prog 133 #[.string s] w fun e w' => e = .returned (.tuple #[.int .i32 (Lib.decodeGo s).1, .int .i64 (Lib.decodeGo s).2]) ∧ Below w.heap.size w w' := Any.utf8_DecodeRuneInString Tryz.lays197 s w hT
def Tryz.lays311_ren : Go.Shelf.Ren := ⟨fun | 311 => 154 | n => n, fun | 193 => 220 | 49 => 224 | 4 => 4 | 3 => 3 | 0 => 0 | 226 => 242 | 198 => 226 | 46 => 213 | n => n, fun | n => n⟩
theorem Tryz.lays311 : Go.Proofs.Lays.n311 Tryz.prog Tryz.lays311_ren := {
  mixed := by kernel_rfl
  f311 := Tryz.func154.trans (congrArg some (by kernel_rfl))
  t0 := Tryz.underlying0
  a0 := Tryz.isAgg0
  z0 := Tryz.sizeOf0
  v0 := Tryz.zeroValue0
  t3 := Tryz.underlying3
  a3 := Tryz.isAgg3
  z3 := Tryz.sizeOf3
  v3 := Tryz.zeroValue3
  t4 := Tryz.underlying4
  a4 := Tryz.isAgg4
  z4 := Tryz.sizeOf4
  v4 := Tryz.zeroValue4
  t46 := Tryz.underlying213
  a46 := Tryz.isAgg213
  z46 := Tryz.sizeOf213
  v46 := Tryz.zeroValue213
  t49 := Tryz.underlying224
  a49 := Tryz.isAgg224
  z49 := Tryz.sizeOf224
  v49 := Tryz.zeroValue224
  t193 := Tryz.underlying220
  a193 := Tryz.isAgg220
  z193 := Tryz.sizeOf220
  v193 := Tryz.zeroValue220
  t198 := Tryz.underlying226
  a198 := Tryz.isAgg226
  z198 := Tryz.sizeOf226
  v198 := Tryz.zeroValue226
  t226 := Tryz.underlying242
  a226 := Tryz.isAgg242
  z226 := Tryz.sizeOf242
  v226 := Tryz.zeroValue242 }
open Go.RowKit Go.Lib in
theorem Tryz.unicode_is16_white (R oR : Nat) (z : Nat) (w : World) (hz : z < 65536) (hz0 : 255 < z) (c6 : w.cell? ⟨R, oR + 6, none⟩ = some (.int .u16 160)) (c7 : w.cell? ⟨R, oR + 7, none⟩ = some (.int .u16 5760)) (c8 : w.cell? ⟨R, oR + 8, none⟩ = some (.int .u16 5600)) (c9 : w.cell? ⟨R, oR + 9, none⟩ = some (.int .u16 8192)) (c10 : w.cell? ⟨R, oR + 10, none⟩ = some (.int .u16 8202)) (c11 : w.cell? ⟨R, oR + 11, none⟩ = some (.int .u16 1)) (c12 : w.cell? ⟨R, oR + 12, none⟩ = some (.int .u16 8232)) (c13 : w.cell? ⟨R, oR + 13, none⟩ = some (.int .u16 8233)) (c14 : w.cell? ⟨R, oR + 14, none⟩ = some (.int .u16 1)) (c15 : w.cell? ⟨R, oR + 15, none⟩ = some (.int .u16 8239)) (c16 : w.cell? ⟨R, oR + 16, none⟩ = some (.int .u16 8287)) (c17 : w.cell? ⟨R, oR + 17, none⟩ = some (.int .u16 48)) (c18 : w.cell? ⟨R, oR + 18, none⟩ = some (.int .u16 12288)) (c19 : w.cell? ⟨R, oR + 19, none⟩ = some (.int .u16 12288)) (c20 : w.cell? ⟨R, oR + 20, none⟩ = some (.int .u16 1)) :
    Calls Tryz.prog 154 #[.slice (some ⟨R, oR + 6, none⟩) 5 5, .int .u16 z] w fun e w' => e = .returned (.bool (Lib.isSpaceR z)) ∧ Below w.heap.size w w' := Any.unicode_is16_white Tryz.lays311 R oR z w hz hz0 c6 c7 c8 c9 c10 c11 c12 c13 c14 c15 c16 c17 c18 c19 c20
def Tryz.lays261_ren : Go.Shelf.Ren := ⟨fun | 261 => 131 | 311 => 154 | 312 => 155 | n => n, fun | 141 => 193 | 21 => 21 | 4 => 4 | 0 => 0 | 196 => 223 | 193 => 220 | 3 => 3 | 51 => 191 | 198 => 226 | 49 => 224 | 194 => 221 | 201 => 229 | 226 => 242 | 46 => 213 | 227 => 243 | n => n, fun | n => n⟩
theorem Tryz.lays261 : Go.Proofs.Lays.n261 Tryz.prog Tryz.lays261_ren := {
  mixed := by kernel_rfl
  f261 := Tryz.func131.trans (congrArg some (by kernel_rfl))
  f311 := Tryz.func154.trans (congrArg some (by kernel_rfl))
  f312 := Tryz.func155.trans (congrArg some (by kernel_rfl))
  t0 := Tryz.underlying0
  a0 := Tryz.isAgg0
  z0 := Tryz.sizeOf0
  v0 := Tryz.zeroValue0
  t3 := Tryz.underlying3
  a3 := Tryz.isAgg3
  z3 := Tryz.sizeOf3
  v3 := Tryz.zeroValue3
  t4 := Tryz.underlying4
  a4 := Tryz.isAgg4
  z4 := Tryz.sizeOf4
  v4 := Tryz.zeroValue4
  t21 := Tryz.underlying21
  a21 := Tryz.isAgg21
  z21 := Tryz.sizeOf21
  v21 := Tryz.zeroValue21
  t46 := Tryz.underlying213
  a46 := Tryz.isAgg213
  z46 := Tryz.sizeOf213
  v46 := Tryz.zeroValue213
  t49 := Tryz.underlying224
  a49 := Tryz.isAgg224
  z49 := Tryz.sizeOf224
  v49 := Tryz.zeroValue224
  t51 := Tryz.underlying191
  a51 := Tryz.isAgg191
  z51 := Tryz.sizeOf191
  v51 := Tryz.zeroValue191
  t141 := Tryz.underlying193
  a141 := Tryz.isAgg193
  z141 := Tryz.sizeOf193
  v141 := Tryz.zeroValue193
  t193 := Tryz.underlying220
  a193 := Tryz.isAgg220
  z193 := Tryz.sizeOf220
  v193 := Tryz.zeroValue220
  t194 := Tryz.underlying221
  a194 := Tryz.isAgg221
  z194 := Tryz.sizeOf221
  v194 := Tryz.zeroValue221
  t196 := Tryz.underlying223
  a196 := Tryz.isAgg223
  z196 := Tryz.sizeOf223
  v196 := Tryz.zeroValue223
  t198 := Tryz.underlying226
  a198 := Tryz.isAgg226
  z198 := Tryz.sizeOf226
  v198 := Tryz.zeroValue226
  t201 := Tryz.underlying229
  a201 := Tryz.isAgg229
  z201 := Tryz.sizeOf229
  v201 := Tryz.zeroValue229
  t226 := Tryz.underlying242
  a226 := Tryz.isAgg242
  z226 := Tryz.sizeOf242
  v226 := Tryz.zeroValue242
  t227 := Tryz.underlying243
  a227 := Tryz.isAgg243
  z227 := Tryz.sizeOf243
  v227 := Tryz.zeroValue243 }
open Go.RowKit Go.Lib in
/-- unicode.isExcludingLatin(White_Space, r), r beyond U+00FF or negative. (LAID: no walk: one application.) -/
theorem Tryz.unicode_isExcludingLatin_white (T oT R oR : Nat) (r : Int) (w : World) (hlo : -2147483648 ≤ r) (hhi : r ≤ 2147483647) (hr : r < 0 ∨ 255 < r) (h2 : w.cell? ⟨T, oT, none⟩ = some (.slice (some ⟨R, oR, none⟩) 7 7)) (h3 : w.cell? ⟨T, oT + 1, none⟩ = some (.slice none 0 0)) (h4 : w.cell? ⟨T, oT + 2, none⟩ = some (.int .i64 2)) (h5 : ∀ i, i < 21 → w.cell? ⟨R, oR + i, none⟩ = some (.int .u16 (whiteT.getD i 0))) :
    Calls Tryz.prog 131 #[.pointer (some ⟨T, oT, none⟩), .int .i32 r] w fun e w' => e = .returned (.bool (Lib.isSpaceZ r)) ∧ Below w.heap.size w w' := Any.unicode_isExcludingLatin_white Tryz.lays261 T oT R oR r w hlo hhi hr h2 h3 h4 h5
open Go.RowKit Go.Lib in
/-- **unicode.IsSpace AT EVERY int32.** (LAID: no walk: one application.) -/
theorem Tryz.unicode_IsSpace_any (r : Int) (w : World) (hlo : -2147483648 ≤ r) (hhi : r ≤ 2147483647) (hW : Lib.WhiteTab 8 w) :
    Calls Tryz.prog 109 #[.int .i32 r] w fun e w' => e = .returned (.bool (Lib.isSpaceZ r)) ∧ Below w.heap.size w w' := Any.unicode_IsSpace_any Tryz.lays199 r w hlo hhi hW
def Tryz.lays271_ren : Go.Shelf.Ren := ⟨fun | 271 => 156 | 120 => 169 | 197 => 133 | 260 => 157 | n => n, fun | 9 => 9 | 21 => 21 | 3 => 3 | 4 => 4 | 5 => 5 | 105 => 195 | 119 => 172 | 0 => 0 | 46 => 213 | 139 => 247 | 138 => 246 | n => n, fun | 3 => 13 | 4 => 14 | n => n⟩
theorem Tryz.lays271 : Go.Proofs.Lays.n271 Tryz.prog Tryz.lays271_ren := {
  mixed := by kernel_rfl
  f120 := Tryz.func169.trans (congrArg some (by kernel_rfl))
  f197 := Tryz.func133.trans (congrArg some (by kernel_rfl))
  f260 := Tryz.func157.trans (congrArg some (by kernel_rfl))
  f271 := Tryz.func156.trans (congrArg some (by kernel_rfl))
  t0 := Tryz.underlying0
  a0 := Tryz.isAgg0
  z0 := Tryz.sizeOf0
  v0 := Tryz.zeroValue0
  t3 := Tryz.underlying3
  a3 := Tryz.isAgg3
  z3 := Tryz.sizeOf3
  v3 := Tryz.zeroValue3
  t4 := Tryz.underlying4
  a4 := Tryz.isAgg4
  z4 := Tryz.sizeOf4
  v4 := Tryz.zeroValue4
  t5 := Tryz.underlying5
  a5 := Tryz.isAgg5
  z5 := Tryz.sizeOf5
  v5 := Tryz.zeroValue5
  t9 := Tryz.underlying9
  a9 := Tryz.isAgg9
  z9 := Tryz.sizeOf9
  v9 := Tryz.zeroValue9
  t21 := Tryz.underlying21
  a21 := Tryz.isAgg21
  z21 := Tryz.sizeOf21
  v21 := Tryz.zeroValue21
  t46 := Tryz.underlying213
  a46 := Tryz.isAgg213
  z46 := Tryz.sizeOf213
  v46 := Tryz.zeroValue213
  t105 := Tryz.underlying195
  a105 := Tryz.isAgg195
  z105 := Tryz.sizeOf195
  v105 := Tryz.zeroValue195
  t119 := Tryz.underlying172
  a119 := Tryz.isAgg172
  z119 := Tryz.sizeOf172
  t138 := Tryz.underlying246
  a138 := Tryz.isAgg246
  z138 := Tryz.sizeOf246
  v138 := Tryz.zeroValue246
  t139 := Tryz.underlying247
  a139 := Tryz.isAgg247
  z139 := Tryz.sizeOf247
  v139 := Tryz.zeroValue247
  g3 := by kernel_rfl
  g4 := by kernel_rfl }
open Go.RowKit Go.Lib in
/-- **unicode/utf8.DecodeLastRuneInString AT EVERY STRING.** (LAID: no walk: one application.) -/
theorem Tryz.utf8_DecodeLastRuneInString (s : ByteArray) (w : World) (hs : s.size ≤ 9223372036854775807) (hT : Lib.Utf8Tabs 13 14 w) :
    Calls Tryz.prog 156 #[.string s] w fun e w' => e = .returned (.tuple #[.int .i32 (Lib.decodeLastL s.data.toList).1, .int .i64 (Lib.decodeLastL s.data.toList).2]) ∧ Below w.heap.size w w' := Any.utf8_DecodeLastRuneInString Tryz.lays271 s w hs hT
open Go.RowKit in
theorem Tryz.strings_TrimSpace_any (s : ByteArray) (w : World) (hs : s.size ≤ 9223372036854775807) (htab : Lib.TabIs Tryz.prog w "strings.asciiSpace" .u8 Lib.asciiSpaceTab) (hU8 : Lib.Utf8Tabs 13 14 w) (hWS : Lib.WhiteTab 8 w) :
    Calls Tryz.prog 83 #[.string s] w fun e w' => e = .returned (.string ⟨(Lib.trimSpaceD s.data.toList).toArray⟩) ∧ Below w.heap.size w w' := Any.strings_TrimSpace_any Tryz.lays163 Tryz.Space_Extra_163 s w hs htab hU8 hWS
def Tryz.lays274_ren : Go.Shelf.Ren := ⟨fun | 274 => 175 | n => n, fun | 21 => 21 | 162 => 251 | 160 => 256 | 3 => 3 | 4 => 4 | 46 => 213 | 0 => 0 | 208 => 262 | 51 => 191 | 206 => 260 | n => n, fun | n => n⟩
theorem Tryz.lays274 : Go.Proofs.Lays.n274 Tryz.prog Tryz.lays274_ren := {
  mixed := by kernel_rfl
  f274 := Tryz.func175.trans (congrArg some (by kernel_rfl))
  t0 := Tryz.underlying0
  a0 := Tryz.isAgg0
  z0 := Tryz.sizeOf0
  v0 := Tryz.zeroValue0
  t3 := Tryz.underlying3
  a3 := Tryz.isAgg3
  z3 := Tryz.sizeOf3
  v3 := Tryz.zeroValue3
  t4 := Tryz.underlying4
  a4 := Tryz.isAgg4
  z4 := Tryz.sizeOf4
  v4 := Tryz.zeroValue4
  t21 := Tryz.underlying21
  a21 := Tryz.isAgg21
  z21 := Tryz.sizeOf21
  v21 := Tryz.zeroValue21
  t46 := Tryz.underlying213
  a46 := Tryz.isAgg213
  z46 := Tryz.sizeOf213
  v46 := Tryz.zeroValue213
  t51 := Tryz.underlying191
  a51 := Tryz.isAgg191
  z51 := Tryz.sizeOf191
  v51 := Tryz.zeroValue191
  t160 := Tryz.underlying256
  a160 := Tryz.isAgg256
  z160 := Tryz.sizeOf256
  v160 := Tryz.zeroValue256
  t162 := Tryz.underlying251
  a162 := Tryz.isAgg251
  z162 := Tryz.sizeOf251
  v162 := Tryz.zeroValue251
  t208 := Tryz.underlying262
  a208 := Tryz.isAgg262
  z208 := Tryz.sizeOf262
  v208 := Tryz.zeroValue262 }
open Go.RowKit Go.Lib in
theorem Tryz.unicode_lookupCaseRange (T : Array CaseRow) (R oR cap : Nat) (r : Int) (w : World) (hT : CaseTab R oR T w) (hok : CaseOk T) (hn : T.size ≤ 1000000000) :
    Calls Tryz.prog 175 #[.int .i32 r, .slice (some ⟨R, oR, none⟩) T.size cap] w fun e w' =>
      e = .returned (match lookupIdx T r (T.size + 1) 0 T.size with | some i => .pointer (some ⟨R, oR + i * 5, none⟩) | none => .pointer none) ∧ w' = w := Any.unicode_lookupCaseRange Tryz.lays274 T R oR cap r w hT hok hn
def Tryz.lays275_ren : Go.Shelf.Ren := ⟨fun | 275 => 176 | n => n, fun | 3 => 3 | 21 => 21 | 160 => 256 | 0 => 0 | 208 => 262 | 206 => 260 | 4 => 4 | 51 => 191 | n => n, fun | n => n⟩
theorem Tryz.lays275 : Go.Proofs.Lays.n275 Tryz.prog Tryz.lays275_ren := {
  mixed := by kernel_rfl
  f275 := Tryz.func176.trans (congrArg some (by kernel_rfl))
  t0 := Tryz.underlying0
  a0 := Tryz.isAgg0
  z0 := Tryz.sizeOf0
  v0 := Tryz.zeroValue0
  t3 := Tryz.underlying3
  a3 := Tryz.isAgg3
  z3 := Tryz.sizeOf3
  v3 := Tryz.zeroValue3
  t4 := Tryz.underlying4
  a4 := Tryz.isAgg4
  z4 := Tryz.sizeOf4
  v4 := Tryz.zeroValue4
  t21 := Tryz.underlying21
  a21 := Tryz.isAgg21
  z21 := Tryz.sizeOf21
  v21 := Tryz.zeroValue21
  t51 := Tryz.underlying191
  a51 := Tryz.isAgg191
  z51 := Tryz.sizeOf191
  v51 := Tryz.zeroValue191
  t160 := Tryz.underlying256
  a160 := Tryz.isAgg256
  z160 := Tryz.sizeOf256
  v160 := Tryz.zeroValue256
  t206 := Tryz.underlying260
  a206 := Tryz.isAgg260
  z206 := Tryz.sizeOf260
  v206 := Tryz.zeroValue260
  t208 := Tryz.underlying262
  a208 := Tryz.isAgg262
  z208 := Tryz.sizeOf262
  v208 := Tryz.zeroValue262 }
open Go.RowKit Go.Lib in
theorem Tryz.unicode_convertCase (c : Nat) (hc : c < 3) (r : Int) (A o : Nat) (x : CaseRow) (w : World) (hlo : (x.1 : Int) ≤ r) (hhi : r ≤ (x.2.1 : Int)) (hH : x.2.1 < 2147483647) (c0 : w.cell? ⟨A, o, none⟩ = some (.int .u32 x.1)) (cD : w.cell? ⟨A, o + 2 + c, none⟩ = some (.int .i32 (x.delta c))) :
    Calls Tryz.prog 176 #[.int .i64 c, .int .i32 r, .pointer (some ⟨A, o, none⟩)] w fun e w' => e = .returned (.int .i32 (wrap32 (convertR c r x))) ∧ ∃ q, w' = w.drewN q := Any.unicode_convertCase Tryz.lays275 c hc r A o x w hlo hhi hH c0 cD
def Tryz.lays313_ren : Go.Shelf.Ren := ⟨fun | 313 => 171 | 274 => 175 | 275 => 176 | n => n, fun | 3 => 3 | 21 => 21 | 162 => 251 | 4 => 4 | 160 => 256 | 46 => 213 | 0 => 0 | 208 => 262 | 51 => 191 | 206 => 260 | n => n, fun | n => n⟩
theorem Tryz.lays313 : Go.Proofs.Lays.n313 Tryz.prog Tryz.lays313_ren := {
  mixed := by kernel_rfl
  f274 := Tryz.func175.trans (congrArg some (by kernel_rfl))
  f275 := Tryz.func176.trans (congrArg some (by kernel_rfl))
  f313 := Tryz.func171.trans (congrArg some (by kernel_rfl))
  t0 := Tryz.underlying0
  a0 := Tryz.isAgg0
  z0 := Tryz.sizeOf0
  v0 := Tryz.zeroValue0
  t3 := Tryz.underlying3
  a3 := Tryz.isAgg3
  z3 := Tryz.sizeOf3
  v3 := Tryz.zeroValue3
  t4 := Tryz.underlying4
  a4 := Tryz.isAgg4
  z4 := Tryz.sizeOf4
  v4 := Tryz.zeroValue4
  t21 := Tryz.underlying21
  a21 := Tryz.isAgg21
  z21 := Tryz.sizeOf21
  v21 := Tryz.zeroValue21
  t46 := Tryz.underlying213
  a46 := Tryz.isAgg213
  z46 := Tryz.sizeOf213
  v46 := Tryz.zeroValue213
  t51 := Tryz.underlying191
  a51 := Tryz.isAgg191
  z51 := Tryz.sizeOf191
  v51 := Tryz.zeroValue191
  t160 := Tryz.underlying256
  a160 := Tryz.isAgg256
  z160 := Tryz.sizeOf256
  v160 := Tryz.zeroValue256
  t162 := Tryz.underlying251
  a162 := Tryz.isAgg251
  z162 := Tryz.sizeOf251
  v162 := Tryz.zeroValue251
  t206 := Tryz.underlying260
  a206 := Tryz.isAgg260
  z206 := Tryz.sizeOf260
  v206 := Tryz.zeroValue260
  t208 := Tryz.underlying262
  a208 := Tryz.isAgg262
  z208 := Tryz.sizeOf262
  v208 := Tryz.zeroValue262 }
open Go.RowKit Go.Lib in
theorem Tryz.unicode_to (c : Nat) (hc : c < 3) (r : Int) (T : Array CaseRow) (R oR cap : Nat) (w : World) (hT : CaseTab R oR T w) (hok : CaseOk2 T) (hn : T.size ≤ 1000000000) :
    Calls Tryz.prog 171 #[.int .i64 c, .int .i32 r, .slice (some ⟨R, oR, none⟩) T.size cap] w fun e w' => e = .returned (.tuple #[.int .i32 (toW T c r), .bool (lookupIdx T r (T.size + 1) 0 T.size).isSome]) ∧ ∃ q, w' = w.drewN q := Any.unicode_to Tryz.lays313 c hc r T R oR cap w hT hok hn
def Tryz.lays262_ren : Go.Shelf.Ren := ⟨fun | 262 => 161 | 313 => 171 | 274 => 175 | 275 => 176 | n => n, fun | 3 => 3 | 21 => 21 | 162 => 251 | 203 => 249 | 4 => 4 | 160 => 256 | 46 => 213 | 0 => 0 | 208 => 262 | 51 => 191 | 206 => 260 | n => n, fun | 13 => 15 | n => n⟩
theorem Tryz.lays262 : Go.Proofs.Lays.n262 Tryz.prog Tryz.lays262_ren := {
  mixed := by kernel_rfl
  f262 := Tryz.func161.trans (congrArg some (by kernel_rfl))
  f274 := Tryz.func175.trans (congrArg some (by kernel_rfl))
  f275 := Tryz.func176.trans (congrArg some (by kernel_rfl))
  f313 := Tryz.func171.trans (congrArg some (by kernel_rfl))
  t0 := Tryz.underlying0
  a0 := Tryz.isAgg0
  z0 := Tryz.sizeOf0
  v0 := Tryz.zeroValue0
  t3 := Tryz.underlying3
  a3 := Tryz.isAgg3
  z3 := Tryz.sizeOf3
  v3 := Tryz.zeroValue3
  t4 := Tryz.underlying4
  a4 := Tryz.isAgg4
  z4 := Tryz.sizeOf4
  v4 := Tryz.zeroValue4
  t21 := Tryz.underlying21
  a21 := Tryz.isAgg21
  z21 := Tryz.sizeOf21
  v21 := Tryz.zeroValue21
  t46 := Tryz.underlying213
  a46 := Tryz.isAgg213
  z46 := Tryz.sizeOf213
  v46 := Tryz.zeroValue213
  t51 := Tryz.underlying191
  a51 := Tryz.isAgg191
  z51 := Tryz.sizeOf191
  v51 := Tryz.zeroValue191
  t160 := Tryz.underlying256
  a160 := Tryz.isAgg256
  z160 := Tryz.sizeOf256
  v160 := Tryz.zeroValue256
  t162 := Tryz.underlying251
  a162 := Tryz.isAgg251
  z162 := Tryz.sizeOf251
  v162 := Tryz.zeroValue251
  t203 := Tryz.underlying249
  a203 := Tryz.isAgg249
  z203 := Tryz.sizeOf249
  v203 := Tryz.zeroValue249
  t206 := Tryz.underlying260
  a206 := Tryz.isAgg260
  z206 := Tryz.sizeOf260
  v206 := Tryz.zeroValue260
  t208 := Tryz.underlying262
  a208 := Tryz.isAgg262
  z208 := Tryz.sizeOf262
  v208 := Tryz.zeroValue262
  g13 := by kernel_rfl }
open Go.RowKit Go.Lib in
theorem Tryz.unicode_To (c : Nat) (hc : c < 3) (r : Int) (T : Array CaseRow) (w : World) (hV : CaseVar 15 T w) (hok : CaseOk2 T) (hn : T.size ≤ 1000000000) :
    Calls Tryz.prog 161 #[.int .i64 c, .int .i32 r] w fun e w' => e = .returned (.int .i32 (toW T c r)) ∧ ∃ q, w' = w.drewN q := Any.unicode_To Tryz.lays262 c hc r T w hV hok hn
open Go.RowKit Go.Lib in
theorem Tryz.unicode_ToUpper_any (r : Int) (T : Array CaseRow) (w : World) (hV : CaseVar 15 T w) (hok : CaseOk2 T) (hn : T.size ≤ 1000000000) :
    Calls Tryz.prog 136 #[.int .i32 r] w fun e w' => e = .returned (.int .i32 (Lib.toUpperW T r)) ∧ ∃ q, w' = w.drewN q := Any.unicode_ToUpper_any Tryz.lays203 r T w hV hok hn
open Go.RowKit Go.Lib in
theorem Tryz.unicode_ToUpper_laid (r : Int) (w : World) (hV : CaseVar 15 caseA w) :
    Calls Tryz.prog 136 #[.int .i32 r] w fun e w' => e = .returned (.int .i32 (toUpperU r)) ∧ ∃ q, w' = w.drewN q := Any.unicode_ToUpper_laid Tryz.lays203 r w hV
open Go.RowKit Go.Lib in
theorem Tryz.unicode_is16_any (T : Array Rg) (R oR cap : Nat) (z : Nat) (w : World) (hz : z < 65536) (hT : RgTab .u16 R oR T w) (hok : RgOk 65536 T) (hn : T.size ≤ 1000000000) :
    Calls Tryz.prog 154 #[.slice (some ⟨R, oR, none⟩) T.size cap, .int .u16 z] w fun e w' => e = .returned (.bool (is16Go T z)) ∧ ∃ q, w' = w.drewN q := Any.unicode_is16_any Tryz.lays311 T R oR cap z w hz hT hok hn
def Tryz.lays312_ren : Go.Shelf.Ren := ⟨fun | 312 => 155 | n => n, fun | 194 => 221 | 51 => 191 | 4 => 4 | 3 => 3 | 0 => 0 | 227 => 243 | 201 => 229 | 46 => 213 | n => n, fun | n => n⟩
theorem Tryz.lays312 : Go.Proofs.Lays.n312 Tryz.prog Tryz.lays312_ren := {
  mixed := by kernel_rfl
  f312 := Tryz.func155.trans (congrArg some (by kernel_rfl))
  t0 := Tryz.underlying0
  a0 := Tryz.isAgg0
  z0 := Tryz.sizeOf0
  v0 := Tryz.zeroValue0
  t3 := Tryz.underlying3
  a3 := Tryz.isAgg3
  z3 := Tryz.sizeOf3
  v3 := Tryz.zeroValue3
  t4 := Tryz.underlying4
  a4 := Tryz.isAgg4
  z4 := Tryz.sizeOf4
  v4 := Tryz.zeroValue4
  t46 := Tryz.underlying213
  a46 := Tryz.isAgg213
  z46 := Tryz.sizeOf213
  v46 := Tryz.zeroValue213
  t51 := Tryz.underlying191
  a51 := Tryz.isAgg191
  z51 := Tryz.sizeOf191
  v51 := Tryz.zeroValue191
  t194 := Tryz.underlying221
  a194 := Tryz.isAgg221
  z194 := Tryz.sizeOf221
  v194 := Tryz.zeroValue221
  t201 := Tryz.underlying229
  a201 := Tryz.isAgg229
  z201 := Tryz.sizeOf229
  v201 := Tryz.zeroValue229
  t227 := Tryz.underlying243
  a227 := Tryz.isAgg243
  z227 := Tryz.sizeOf243
  v227 := Tryz.zeroValue243 }
open Go.RowKit Go.Lib in
theorem Tryz.unicode_is32_any (T : Array Rg) (R oR cap : Nat) (z : Nat) (w : World) (hz : z < 4294967296) (hT : RgTab .u32 R oR T w) (hok : RgOk 4294967296 T) (hn : T.size ≤ 1000000000) :
    Calls Tryz.prog 155 #[.slice (some ⟨R, oR, none⟩) T.size cap, .int .u32 z] w fun e w' => e = .returned (.bool (is32Go T z)) ∧ Below w.heap.size w w' := Any.unicode_is32_any Tryz.lays312 T R oR cap z w hz hT hok hn
open Go.RowKit Go.Lib in
theorem Tryz.unicode_isExcludingLatin_any (Tb oT : Nat) (T : RTab) (r : Int) (w : World) (hlo : -2147483648 ≤ r) (hhi : r ≤ 2147483647) (hA : RTabAt Tb oT T w) (hok : RTabOk T) :
    Calls Tryz.prog 131 #[.pointer (some ⟨Tb, oT, none⟩), .int .i32 r] w fun e w' => e = .returned (.bool (exclGo T r)) ∧ Below w.heap.size w w' := Any.unicode_isExcludingLatin_any Tryz.lays261 Tb oT T r w hlo hhi hA hok
def Tryz.lays108_ren : Go.Shelf.Ren := ⟨fun | 108 => 107 | n => n, fun | 28 => 22 | 3 => 3 | 0 => 0 | 4 => 4 | n => n, fun | n => n⟩
theorem Tryz.lays108 : Go.Proofs.Lays.n108 Tryz.prog Tryz.lays108_ren := {
  mixed := by kernel_rfl
  f108 := Tryz.func107.trans (congrArg some (by kernel_rfl))
  t0 := Tryz.underlying0
  a0 := Tryz.isAgg0
  z0 := Tryz.sizeOf0
  v0 := Tryz.zeroValue0
  t3 := Tryz.underlying3
  a3 := Tryz.isAgg3
  z3 := Tryz.sizeOf3
  v3 := Tryz.zeroValue3
  t4 := Tryz.underlying4
  a4 := Tryz.isAgg4
  z4 := Tryz.sizeOf4
  v4 := Tryz.zeroValue4
  t28 := Tryz.underlying22
  a28 := Tryz.isAgg22
  z28 := Tryz.sizeOf22
  v28 := Tryz.zeroValue22 }
open Go.Lib in
/-- slices.Index at []int: "Index returns the index of the first occurrence of v in s, or -1 if not present.": IT RETURNS 'Lib.idxOf (the elements) v'; the world is as it was. 'zs': what the cells behind the slice's address hold (its spare capacity too, if you have it); 'zs.take n': its elements. (LAID: no walk: one application.) -/
theorem Tryz.slices_Index_int (b off n c : Nat) (zs : List Int) (x : Int) (w : World) (hz : n ≤ zs.length) (hbig : n ≤ 9223372036854775807) (hc : ∀ j, j < zs.length → w.cell? ⟨b, off + j, none⟩ = some (.int .i64 (zs.getD j 0))) :
    Calls Tryz.prog 107 #[.slice (some ⟨b, off, none⟩) n c, .int .i64 x] w fun e w' => e = .returned (.int .i64 (Lib.idxOf (zs.take n) x)) ∧ w' = w := Any.slices_Index_int Tryz.lays108 b off n c zs x w hz hbig hc
open Go.Lib in
/-- The same at a slice of length 0, a nil one too: no cell is known, none is asked for. (LAID: no walk: one application.) -/
theorem Tryz.slices_Index_int_empty (a : Option Addr) (c : Nat) (x : Int) (w : World) :
    Calls Tryz.prog 107 #[.slice a 0 c, .int .i64 x] w fun e w' => e = .returned (.int .i64 (Lib.idxOf [] x)) ∧ w' = w := Any.slices_Index_int_empty Tryz.lays108 a c x w
def Tryz.lays107_ren : Go.Shelf.Ren := ⟨fun | 107 => 80 | 108 => 107 | n => n, fun | 28 => 22 | 3 => 3 | 4 => 4 | 0 => 0 | n => n, fun | n => n⟩
theorem Tryz.lays107 : Go.Proofs.Lays.n107 Tryz.prog Tryz.lays107_ren := {
  mixed := by kernel_rfl
  f107 := Tryz.func80.trans (congrArg some (by kernel_rfl))
  f108 := Tryz.func107.trans (congrArg some (by kernel_rfl))
  t0 := Tryz.underlying0
  a0 := Tryz.isAgg0
  z0 := Tryz.sizeOf0
  v0 := Tryz.zeroValue0
  t3 := Tryz.underlying3
  a3 := Tryz.isAgg3
  z3 := Tryz.sizeOf3
  v3 := Tryz.zeroValue3
  t4 := Tryz.underlying4
  a4 := Tryz.isAgg4
  z4 := Tryz.sizeOf4
  v4 := Tryz.zeroValue4
  t28 := Tryz.underlying22
  a28 := Tryz.isAgg22
  z28 := Tryz.sizeOf22
  v28 := Tryz.zeroValue22 }
open Go.Lib in
/-- slices.Contains at []int: "Contains reports whether v is present in s.": IT RETURNS 'elements.contains v'; the world is as it was. ITS CALLEE slices.Index IS MET BY ITS OWN CONTRACT OFF THE SHELF (lay that first): no loop is walked here. (LAID: no walk: one application.) -/
theorem Tryz.slices_Contains_int (b off n c : Nat) (zs : List Int) (x : Int) (w : World) (hz : n ≤ zs.length) (hbig : n ≤ 9223372036854775807) (hc : ∀ j, j < zs.length → w.cell? ⟨b, off + j, none⟩ = some (.int .i64 (zs.getD j 0))) :
    Calls Tryz.prog 80 #[.slice (some ⟨b, off, none⟩) n c, .int .i64 x] w fun e w' => e = .returned (.bool ((zs.take n).contains x)) ∧ w' = w := Any.slices_Contains_int Tryz.lays107 b off n c zs x w hz hbig hc
open Go.Lib in
/-- The same at a slice of length 0, a nil one too. (LAID: no walk: one application.) -/
theorem Tryz.slices_Contains_int_empty (a : Option Addr) (c : Nat) (x : Int) (w : World) :
    Calls Tryz.prog 80 #[.slice a 0 c, .int .i64 x] w fun e w' => e = .returned (.bool false) ∧ w' = w := Any.slices_Contains_int_empty Tryz.lays107 a c x w
def Tryz.lays109_ren : Go.Shelf.Ren := ⟨fun | 109 => 66 | n => n, fun | 31 => 42 | 9 => 9 | 3 => 3 | 0 => 0 | 4 => 4 | n => n, fun | n => n⟩
theorem Tryz.lays109 : Go.Proofs.Lays.n109 Tryz.prog Tryz.lays109_ren := {
  mixed := by kernel_rfl
  f109 := Tryz.func66.trans (congrArg some (by kernel_rfl))
  t0 := Tryz.underlying0
  a0 := Tryz.isAgg0
  z0 := Tryz.sizeOf0
  v0 := Tryz.zeroValue0
  t3 := Tryz.underlying3
  a3 := Tryz.isAgg3
  z3 := Tryz.sizeOf3
  v3 := Tryz.zeroValue3
  t4 := Tryz.underlying4
  a4 := Tryz.isAgg4
  z4 := Tryz.sizeOf4
  v4 := Tryz.zeroValue4
  t9 := Tryz.underlying9
  a9 := Tryz.isAgg9
  z9 := Tryz.sizeOf9
  v9 := Tryz.zeroValue9
  t31 := Tryz.underlying42
  a31 := Tryz.isAgg42
  z31 := Tryz.sizeOf42
  v31 := Tryz.zeroValue42 }
open Go.Lib in
/-- slices.Index at []string: "Index returns the index of the first occurrence of v in s, or -1 if not present.": IT RETURNS 'Lib.idxOfS (the elements) v'; the world is as it was. 'zs': what the cells behind the slice's address hold (its spare capacity too, if you have it); 'zs.take n': its elements. (LAID: no walk: one application.) -/
theorem Tryz.slices_Index_string (b off n c : Nat) (zs : List ByteArray) (x : ByteArray) (w : World) (hz : n ≤ zs.length) (hbig : n ≤ 9223372036854775807) (hc : ∀ j, j < zs.length → w.cell? ⟨b, off + j, none⟩ = some (.string (zs.getD j ByteArray.empty))) :
    Calls Tryz.prog 66 #[.slice (some ⟨b, off, none⟩) n c, .string x] w fun e w' => e = .returned (.int .i64 (Lib.idxOfS (zs.take n) x)) ∧ w' = w := Any.slices_Index_string Tryz.lays109 b off n c zs x w hz hbig hc
open Go.Lib in
/-- The same at a slice of length 0, a nil one too: no cell is known, none is asked for. (LAID: no walk: one application.) -/
theorem Tryz.slices_Index_string_empty (a : Option Addr) (c : Nat) (x : ByteArray) (w : World) :
    Calls Tryz.prog 66 #[.slice a 0 c, .string x] w fun e w' => e = .returned (.int .i64 (Lib.idxOfS [] x)) ∧ w' = w := Any.slices_Index_string_empty Tryz.lays109 a c x w
def Tryz.lays111_ren : Go.Shelf.Ren := ⟨fun | 111 => 63 | n => n, fun | 28 => 22 | 3 => 3 | 4 => 4 | 0 => 0 | n => n, fun | n => n⟩
theorem Tryz.lays111 : Go.Proofs.Lays.n111 Tryz.prog Tryz.lays111_ren := {
  mixed := by kernel_rfl
  f111 := Tryz.func63.trans (congrArg some (by kernel_rfl))
  t0 := Tryz.underlying0
  a0 := Tryz.isAgg0
  z0 := Tryz.sizeOf0
  v0 := Tryz.zeroValue0
  t3 := Tryz.underlying3
  a3 := Tryz.isAgg3
  z3 := Tryz.sizeOf3
  v3 := Tryz.zeroValue3
  t4 := Tryz.underlying4
  a4 := Tryz.isAgg4
  z4 := Tryz.sizeOf4
  v4 := Tryz.zeroValue4
  t28 := Tryz.underlying22
  a28 := Tryz.isAgg22
  z28 := Tryz.sizeOf22
  v28 := Tryz.zeroValue22 }
open Go.RowKit Go.Lib in
/-- slices.Equal at []int: "Equal reports whether two slices are equal: the same length and all elements equal. If the lengths are different, Equal returns false. Otherwise, the elements are compared in increasing index order, and the comparison stops at the first unequal pair. Empty and nil slices are considered equal.": IT RETURNS WHETHER THE TWO LISTS OF ELEMENTS ARE ONE; the world is as it was but for the count of draws (the test 's1[i] != s2[i]' has two reads, whose order the model draws, once a round). 'xs', 'ys': what the cells behind the two addresses hold (the spare capacity too, if you have it); 'xs.take n', 'ys.take m': the elements. THE TWO SLICES MAY OVERLAP. (LAID: no walk: one application.) -/
theorem Tryz.slices_Equal_int (b1 o1 n c b2 o2 m d : Nat) (xs ys : List Int) (w : World) (hx : n ≤ xs.length) (hy : m ≤ ys.length) (hbig : n ≤ 9223372036854775807) (hbig2 : m ≤ 9223372036854775807) (hc1 : ∀ j, j < xs.length → w.cell? ⟨b1, o1 + j, none⟩ = some (.int .i64 (xs.getD j 0))) (hc2 : ∀ j, j < ys.length → w.cell? ⟨b2, o2 + j, none⟩ = some (.int .i64 (ys.getD j 0))) :
    Calls Tryz.prog 63 #[.slice (some ⟨b1, o1, none⟩) n c, .slice (some ⟨b2, o2, none⟩) m d] w fun e w' => e = .returned (.bool (xs.take n == ys.take m)) ∧ ∃ q, w' = w.drewN q := Any.slices_Equal_int Tryz.lays111 b1 o1 n c b2 o2 m d xs ys w hx hy hbig hbig2 hc1 hc2
open Go.RowKit Go.Lib in
/-- The same where the first is of length 0 (a nil one too): no cell is asked for. (LAID: no walk: one application.) -/
theorem Tryz.slices_Equal_int_empty (a1 a2 : Option Addr) (c m d : Nat) (w : World) (hbig2 : m ≤ 9223372036854775807) :
    Calls Tryz.prog 63 #[.slice a1 0 c, .slice a2 m d] w fun e w' => e = .returned (.bool (decide (m = 0))) ∧ w' = w := Any.slices_Equal_int_empty Tryz.lays111 a1 a2 c m d w hbig2
def Tryz.laysNm215_ren : Go.Shelf.Ren := ⟨fun | 15 => 52 | n => n, fun | 22 => 22 | 3 => 3 | 4 => 4 | n => n, fun | n => n⟩
theorem Tryz.laysNm215 : Go.Proofs.Lays2.n15 Tryz.prog Tryz.laysNm215_ren := {
  mixed := by kernel_rfl
  f15 := Tryz.func52.trans (congrArg some (by kernel_rfl))
  t3 := Tryz.underlying3
  a3 := Tryz.isAgg3
  z3 := Tryz.sizeOf3
  v3 := Tryz.zeroValue3
  t4 := Tryz.underlying4
  a4 := Tryz.isAgg4
  z4 := Tryz.sizeOf4
  v4 := Tryz.zeroValue4
  t22 := Tryz.underlying22
  a22 := Tryz.isAgg22
  z22 := Tryz.sizeOf22
  v22 := Tryz.zeroValue22
  i3 := by kernel_rfl }
open Go.RowKit Go.Lib in
/-- slices.Clone at []int: "Clone returns a copy of the slice. The elements are copied using assignment, so this is a shallow clone. The result may have additional unused capacity. The result preserves the nilness of s.": OF A SLICE THAT IS NOT nil IT RETURNS A SLICE THAT IS NOT nil, OF THE SAME ELEMENTS, IN MEMORY OF THE CALL's OWN: in the how-to's words (6f): 'w'.ownsRow B e 1 v' n cells': v' begins at the head of a row among the blocks from B on (B: the heap's size at the call), not frozen, whose first cells are the elements · 'Below B w w'': below B all is as it was. The capacity is whatever the run-time gives. 'zs': what the cells behind the slice's address hold; 'zs.take n': its elements. (LAID: no walk: one application.) -/
theorem Tryz.slices_Clone_int (b off n c : Nat) (zs : List Int) (w : World) (hz : n ≤ zs.length) (hbig : n * 8 ≤ 140737488355328) (hc : ∀ j, j < zs.length → w.cell? ⟨b, off + j, none⟩ = some (.int .i64 (zs.getD j 0))) :
    Calls Tryz.prog 52 #[.slice (some ⟨b, off, none⟩) n c] w fun e w' => ∃ v', e = .returned v' ∧ w'.ownsRow w.heap.size 3 1 v' n ((zs.take n).map (Value.int .i64)) ∧ v' ≠ .slice none 0 0 ∧ Below w.heap.size w w' := Any.slices_Clone_int Tryz.laysNm215 b off n c zs w hz hbig hc
open Go.RowKit Go.Lib in
/-- The same at nil: nil comes back; the world is as it was. (LAID: no walk: one application.) -/
theorem Tryz.slices_Clone_int_nil (n c : Nat) (w : World) :
    Calls Tryz.prog 52 #[.slice none n c] w fun e w' => e = .returned (.slice none 0 0) ∧ w' = w := Any.slices_Clone_int_nil Tryz.laysNm215 n c w
open Go.RowKit Go.Lib in
/-- The same at a slice of length 0 that is not nil, WHATEVER ITS ADDRESS (no cell is asked for): a slice that is not nil and owns nothing comes back. (LAID: no walk: one application.) -/
theorem Tryz.slices_Clone_int_zero (a : Addr) (c : Nat) (w : World) :
    Calls Tryz.prog 52 #[.slice (some a) 0 c] w fun e w' => ∃ v', e = .returned v' ∧ w'.ownsRow w.heap.size 3 1 v' 0 [] ∧ v' ≠ .slice none 0 0 ∧ Below w.heap.size w w' := Any.slices_Clone_int_zero Tryz.laysNm215 a c w
open Go.RowKit Go.Lib in
theorem Tryz.slices_Equal_int_lens (a1 a2 : Option Addr) (n c m d : Nat) (w : World) (hnm : n ≠ m) :
    Calls Tryz.prog 63 #[.slice a1 n c, .slice a2 m d] w fun e w' => e = .returned (.bool false) ∧ w' = w := Any.slices_Equal_int_lens Tryz.lays111 a1 a2 n c m d w hnm
end Go.Proofs
