/-
  DERIVED: THE SHELF's CONTRACTS AT THIS DUMP, IN PLAIN WORDS (tools/lay-plain.mjs out of 'TrydShelf.lean', which tools/lay-shelf.mjs wrote): THE SAME DECLARATIONS UNDER THE SAME NAMES: 'import', 'namespace', 'open', 'def', 'theorem' AND NOTHING ELSE: no command of the shelf's: FOR A HAND-IN. Each laying: the table of numbers ('.._ren') and one theorem, a field a fact of the dump's own or the kernel's comparison; each contract: ONE APPLICATION.
-/
import Derived.Shelf.Strings.Builder1
import Derived.Shelf.Strings.Builder2
import Derived.Shelf.Strings.OnBuilder
import Derived.Shelf.Strings.TrimSpace
import Derived.Shelf.Small.Utf8
import Derived.Shelf.Strings.BuilderF
import Derived.Shelf.Strings.BuilderK
import Derived.Shelf.Strings.BuilderRune
import Derived.Shelf.Utf8.AppendRune
import Derived.Shelf.Utf8.AppendRunePlain
import Derived.Shelf.Strings.Builder2Cap
import Derived.Shelf.Strconv.Itoa0
import Derived.Shelf.Strconv.Itoa1
import Derived.Shelf.LaysM
import Derived.Shelf.Strconv.Itoa2
import Derived.Shelf.Strconv.Itoa3
import Derived.Shelf.Strconv.Clone
import Derived.Shelf.Strconv.SyntaxError
import Derived.Shelf.LaysC
import Derived.Shelf.Strconv.ToError
import Derived.Shelf.Strconv.Lower
import Derived.Shelf.Strconv.ParseUint10
import Derived.Shelf.Strconv.ParseUint10Empty
import Derived.Shelf.Strconv.ParseUint10Any
import Derived.Shelf.Strconv.RangeError
import Derived.Shelf.Strconv.ToErrorRange
import Derived.Shelf.Strconv.ParseUintEmpty
import Derived.Shelf.Strconv.ParseUint10b64
import Derived.Shelf.Strconv.ParseUint10b32
import Derived.Shelf.Strconv.ParseUint10b16
import Derived.Shelf.Strconv.ParseUint10b8
import Derived.Shelf.Strconv.ParseUint10At
import Derived.Ground.MpProg
import Derived.Shelf.Pu.ParseUintPublic10
import Derived.Shelf.Pu.ErrVarParseUint
import Derived.Shelf.GgClosure.StringsIndexFunc
import Derived.Shelf.GgClosure.StringsTrimFunc
import Derived.Shelf.GgClosure.StringsRunes
import Derived.Shelf.Strings.Fold
import Derived.Shelf.Unicode.Latin
import Derived.Shelf.Unicode.Decode
import Derived.Shelf.Unicode.DecodeSlow
import Derived.Shelf.Unicode.DecodeAny
import Derived.Shelf.Unicode.Is16White
import Derived.Shelf.Unicode.IsSpaceAny
import Derived.Shelf.Unicode.DecodeLast
import Derived.Shelf.Strings.TrimSpaceAny
import Derived.Shelf.Unicode.Is16WhiteD
import Derived.Shelf.Unicode.IsSpaceAnyD
import Derived.Shelf.Unicode.CaseLookup
import Derived.Shelf.Unicode.CaseConvert
import Derived.Shelf.Unicode.CaseTo
import Derived.Shelf.Unicode.CaseLaid
import Derived.Shelf.Strings.MapAny
import Derived.Shelf.Strings.CaseAny
import Derived.Shelf.Unicode.Is16Any
import Derived.Shelf.Unicode.Is32Any
import Derived.Shelf.Unicode.ExclAny
import Derived.Shelf.Strings.FuncGrows
import Derived.Shelf.Strings.BuilderCap
import Derived.Shelf.Strings.MapGrows
import Derived.Shelf.Slices.Turned
import Derived.Test.YtmojecgmneodlaaDoorProg
namespace Go.Proofs
open Go.Shelf
def Tryd.lays169_ren : Go.Shelf.Ren := ⟨fun | 169 => 83 | n => n, fun | 70 => 109 | 9 => 9 | 0 => 0 | 72 => 111 | 37 => 33 | 127 => 142 | 3 => 3 | 5 => 5 | n => n, fun | n => n⟩
theorem Tryd.lays169 : Go.Proofs.Lays.n169 Tryd.prog Tryd.lays169_ren := {
  mixed := by kernel_rfl
  f169 := Tryd.func83.trans (congrArg some (by kernel_rfl))
  t0 := Tryd.underlying0
  a0 := Tryd.isAgg0
  z0 := Tryd.sizeOf0
  v0 := Tryd.zeroValue0
  t3 := Tryd.underlying3
  a3 := Tryd.isAgg3
  z3 := Tryd.sizeOf3
  v3 := Tryd.zeroValue3
  t9 := Tryd.underlying9
  a9 := Tryd.isAgg9
  z9 := Tryd.sizeOf9
  v9 := Tryd.zeroValue9
  t37 := Tryd.underlying33
  a37 := Tryd.isAgg33
  z37 := Tryd.sizeOf33
  v37 := Tryd.zeroValue33
  t70 := Tryd.underlying109
  a70 := Tryd.isAgg109
  z70 := Tryd.sizeOf109
  v70 := Tryd.zeroValue109
  t72 := Tryd.underlying111
  a72 := Tryd.isAgg111
  z72 := Tryd.sizeOf111
  v72 := Tryd.zeroValue111
  t127 := Tryd.underlying142
  a127 := Tryd.isAgg142
  z127 := Tryd.sizeOf142
  v127 := Tryd.zeroValue142 }
theorem Tryd.Builder_Extra_169 : Builder.Extra Tryd.prog Tryd.lays169_ren := {
  sizeBuilder := by kernel_rfl
  liesBuilder := by kernel_rfl
  t5 := Tryd.underlying5
  a5 := Tryd.isAgg5
  z5 := Tryd.sizeOf5
  v5 := Tryd.zeroValue5
  infoByte := by kernel_rfl
  cellsByte := by kernel_rfl
  sizeByte := by kernel_rfl
  neB5 := by decide }
open Go.RowKit in
/-- (*strings.Builder).String: "String returns the accumulated string.": OF A BUILDER THAT HOLDS AT LEAST ONE BYTE. ✋ THE MODEL FREEZES THOSE BYTES IN THE BUFFER (unsafe.String): a later write INTO them ends the model's run without an answer; a later append BEHIND them goes on. The statement's order of evaluation is drawn: one draw. (LAID: no walk: one application.) -/
theorem Tryd.Builder_String (B b : Nat) (l : List UInt8) (w : World) (h : Lib.IsBuilder 111 5 B b (Lib.byteCells l) w) (h0 : l ≠ []) :
    Calls Tryd.prog 83 #[.pointer (some ⟨b, 0, none⟩)] w fun e w' => e = .returned (.string ⟨l.toArray⟩) ∧ Below B w w' := Any.Builder_String Tryd.lays169 Tryd.Builder_Extra_169 B b l w h h0
open Go.RowKit in
/-- (*strings.Builder).String OF A BUILDER THAT HOLDS NO BYTE: the empty string. (Its buffer is nil, or a row of which it has taken nothing yet; where that row has NO capacity the model lays one new block for unsafe.SliceData's 'some address'.) One draw. (LAID: no walk: one application.) -/
theorem Tryd.Builder_String_empty (B b : Nat) (w : World) (h : Lib.IsBuilder 111 5 B b [] w) (hBw : B ≤ w.heap.size) :
    Calls Tryd.prog 83 #[.pointer (some ⟨b, 0, none⟩)] w fun e w' => e = .returned (.string ⟨#[]⟩) ∧ Below B w w' := Any.Builder_String_empty Tryd.lays169 Tryd.Builder_Extra_169 B b w h hBw
open Go.RowKit in
/-- (*strings.Builder).String: "String returns the accumulated string.": WHATEVER THE BUILDER HOLDS. (LAID: no walk: one application.) -/
theorem Tryd.Builder_String_any (B b : Nat) (l : List UInt8) (w : World) (h : Lib.IsBuilder 111 5 B b (Lib.byteCells l) w) (hBw : B ≤ w.heap.size) :
    Calls Tryd.prog 83 #[.pointer (some ⟨b, 0, none⟩)] w fun e w' => e = .returned (.string ⟨l.toArray⟩) ∧ Below B w w' := Any.Builder_String_any Tryd.lays169 Tryd.Builder_Extra_169 B b l w h hBw
def Tryd.lays241_ren : Go.Shelf.Ren := ⟨fun | 241 => 106 | 277 => 123 | n => n, fun | 70 => 109 | 3 => 3 | 0 => 0 | 72 => 111 | 37 => 33 | 5 => 5 | n => n, fun | n => n⟩
theorem Tryd.lays241 : Go.Proofs.Lays.n241 Tryd.prog Tryd.lays241_ren := {
  mixed := by kernel_rfl
  f241 := Tryd.func106.trans (congrArg some (by kernel_rfl))
  f277 := Tryd.func123.trans (congrArg some (by kernel_rfl))
  t0 := Tryd.underlying0
  a0 := Tryd.isAgg0
  z0 := Tryd.sizeOf0
  v0 := Tryd.zeroValue0
  t3 := Tryd.underlying3
  a3 := Tryd.isAgg3
  z3 := Tryd.sizeOf3
  v3 := Tryd.zeroValue3
  t37 := Tryd.underlying33
  a37 := Tryd.isAgg33
  z37 := Tryd.sizeOf33
  v37 := Tryd.zeroValue33
  t70 := Tryd.underlying109
  a70 := Tryd.isAgg109
  z70 := Tryd.sizeOf109
  v70 := Tryd.zeroValue109
  t72 := Tryd.underlying111
  a72 := Tryd.isAgg111
  z72 := Tryd.sizeOf111
  v72 := Tryd.zeroValue111 }
theorem Tryd.Builder_Extra_241 : Builder.Extra Tryd.prog Tryd.lays241_ren := {
  sizeBuilder := by kernel_rfl
  liesBuilder := by kernel_rfl
  t5 := Tryd.underlying5
  a5 := Tryd.isAgg5
  z5 := Tryd.sizeOf5
  v5 := Tryd.zeroValue5
  infoByte := by kernel_rfl
  cellsByte := by kernel_rfl
  sizeByte := by kernel_rfl
  neB5 := by decide }
open Go.RowKit in
/-- (*strings.Builder).grow (no doc but "grow copies the buffer to a new, larger buffer so that there are at least n bytes of capacity beyond len(b.buf)."): AT A BUILDER WITHOUT A BUFFER: a new row of whatever bytes for its buffer, none of them its own yet. Three draws. (LAID: no walk: one application.) -/
theorem Tryd.Builder_grow_fresh (B b n : Nat) (w : World) (hB : B ≤ b) (hbk : w.heap[b]? = some (.cells #[.pointer (some ⟨b, 0, none⟩), .slice none 0 0] 111 (0, 0))) (hBw : B ≤ w.heap.size) (hn : n ≤ 281474976710656) :
    Calls Tryd.prog 106 #[.pointer (some ⟨b, 0, none⟩), .int .i64 n] w fun e w' => e = .returned (.tuple #[]) ∧ (Lib.BuilderAt 111 5 B b (.pointer (some ⟨b, 0, none⟩)) [] w' ∧ Below B w w') := Any.Builder_grow_fresh Tryd.lays241 Tryd.Builder_Extra_241 B b n w hB hbk hBw hn
def Tryd.lays165_ren : Go.Shelf.Ren := ⟨fun | 165 => 80 | 240 => 105 | 241 => 106 | 276 => 122 | 277 => 123 | n => n, fun | 70 => 109 | 3 => 3 | 0 => 0 | 4 => 4 | 9 => 9 | 20 => 20 | 72 => 111 | 37 => 33 | 164 => 169 | 5 => 5 | n => n, fun | n => n⟩
theorem Tryd.lays165 : Go.Proofs.Lays.n165 Tryd.prog Tryd.lays165_ren := {
  mixed := by kernel_rfl
  f165 := Tryd.func80.trans (congrArg some (by kernel_rfl))
  f240 := Tryd.func105.trans (congrArg some (by kernel_rfl))
  f241 := Tryd.func106.trans (congrArg some (by kernel_rfl))
  f276 := Tryd.func122.trans (congrArg some (by kernel_rfl))
  f277 := Tryd.func123.trans (congrArg some (by kernel_rfl))
  t0 := Tryd.underlying0
  a0 := Tryd.isAgg0
  z0 := Tryd.sizeOf0
  v0 := Tryd.zeroValue0
  t3 := Tryd.underlying3
  a3 := Tryd.isAgg3
  z3 := Tryd.sizeOf3
  v3 := Tryd.zeroValue3
  t4 := Tryd.underlying4
  a4 := Tryd.isAgg4
  z4 := Tryd.sizeOf4
  v4 := Tryd.zeroValue4
  t9 := Tryd.underlying9
  a9 := Tryd.isAgg9
  z9 := Tryd.sizeOf9
  v9 := Tryd.zeroValue9
  t20 := Tryd.underlying20
  a20 := Tryd.isAgg20
  z20 := Tryd.sizeOf20
  v20 := Tryd.zeroValue20
  t37 := Tryd.underlying33
  a37 := Tryd.isAgg33
  z37 := Tryd.sizeOf33
  v37 := Tryd.zeroValue33
  t70 := Tryd.underlying109
  a70 := Tryd.isAgg109
  z70 := Tryd.sizeOf109
  v70 := Tryd.zeroValue109
  t72 := Tryd.underlying111
  a72 := Tryd.isAgg111
  z72 := Tryd.sizeOf111
  v72 := Tryd.zeroValue111
  t164 := Tryd.underlying169
  a164 := Tryd.isAgg169
  z164 := Tryd.sizeOf169
  v164 := Tryd.zeroValue169 }
theorem Tryd.Builder_Extra_165 : Builder.Extra Tryd.prog Tryd.lays165_ren := {
  sizeBuilder := by kernel_rfl
  liesBuilder := by kernel_rfl
  t5 := Tryd.underlying5
  a5 := Tryd.isAgg5
  z5 := Tryd.sizeOf5
  v5 := Tryd.zeroValue5
  infoByte := by kernel_rfl
  cellsByte := by kernel_rfl
  sizeByte := by kernel_rfl
  neB5 := by decide }
open Go.RowKit in
/-- (*strings.Builder).Grow AT A BUILDER THAT HAS NOT BEEN WRITTEN ('var b strings.Builder; b.Grow(n)'): "Grow grows b's capacity, if necessary, to guarantee space for another n bytes.": it holds no byte behind it as before it. (LAID: no walk: one application.) -/
theorem Tryd.Builder_Grow_fresh (B b n : Nat) (w : World) (hB : B ≤ b) (hbk : w.heap[b]? = some (.cells #[.pointer none, .slice none 0 0] 111 (0, 0))) (hBw : B ≤ w.heap.size) (hn : n ≤ 281474976710656) :
    Calls Tryd.prog 80 #[.pointer (some ⟨b, 0, none⟩), .int .i64 n] w fun e w' => e = .returned (.tuple #[]) ∧ (Lib.BuilderAt 111 5 B b (.pointer (some ⟨b, 0, none⟩)) [] w' ∧ Below B w w') := Any.Builder_Grow_fresh Tryd.lays165 Tryd.Builder_Extra_165 B b n w hB hbk hBw hn
def Tryd.lays158_ren : Go.Shelf.Ren := ⟨fun | 158 => 66 | 165 => 80 | 166 => 81 | 167 => 82 | 169 => 83 | 230 => 84 | 203 => 85 | 240 => 105 | 241 => 106 | 197 => 78 | 118 => 107 | 168 => 108 | 270 => 109 | 262 => 110 | 276 => 122 | 277 => 123 | 260 => 102 | 242 => 124 | 313 => 125 | 278 => 132 | 274 => 103 | 275 => 104 | n => n, fun | 9 => 9 | 4 => 4 | 3 => 3 | 5 => 5 | 72 => 111 | 0 => 0 | 76 => 113 | 75 => 92 | 107 => 108 | 70 => 109 | 20 => 20 | 37 => 33 | 127 => 142 | 21 => 21 | 105 => 106 | 164 => 169 | 162 => 140 | 203 => 173 | 119 => 121 | 46 => 102 | 139 => 164 | 138 => 163 | 51 => 149 | 160 => 138 | 208 => 168 | 206 => 166 | 80 => 82 | n => n, fun | 13 => 4 | 3 => 9 | 4 => 10 | n => n⟩
theorem Tryd.lays158 : Go.Proofs.Lays.n158 Tryd.prog Tryd.lays158_ren := {
  mixed := by kernel_rfl
  f118 := Tryd.func107.trans (congrArg some (by kernel_rfl))
  f158 := Tryd.func66.trans (congrArg some (by kernel_rfl))
  f165 := Tryd.func80.trans (congrArg some (by kernel_rfl))
  f166 := Tryd.func81.trans (congrArg some (by kernel_rfl))
  f167 := Tryd.func82.trans (congrArg some (by kernel_rfl))
  f168 := Tryd.func108.trans (congrArg some (by kernel_rfl))
  f169 := Tryd.func83.trans (congrArg some (by kernel_rfl))
  f197 := Tryd.func78.trans (congrArg some (by kernel_rfl))
  f203 := Tryd.func85.trans (congrArg some (by kernel_rfl))
  f230 := Tryd.func84.trans (congrArg some (by kernel_rfl))
  f240 := Tryd.func105.trans (congrArg some (by kernel_rfl))
  f241 := Tryd.func106.trans (congrArg some (by kernel_rfl))
  f242 := Tryd.func124.trans (congrArg some (by kernel_rfl))
  f260 := Tryd.func102.trans (congrArg some (by kernel_rfl))
  f262 := Tryd.func110.trans (congrArg some (by kernel_rfl))
  f270 := Tryd.func109.trans (congrArg some (by kernel_rfl))
  f274 := Tryd.func103.trans (congrArg some (by kernel_rfl))
  f275 := Tryd.func104.trans (congrArg some (by kernel_rfl))
  f276 := Tryd.func122.trans (congrArg some (by kernel_rfl))
  f277 := Tryd.func123.trans (congrArg some (by kernel_rfl))
  f278 := Tryd.func132.trans (congrArg some (by kernel_rfl))
  f313 := Tryd.func125.trans (congrArg some (by kernel_rfl))
  t0 := Tryd.underlying0
  a0 := Tryd.isAgg0
  z0 := Tryd.sizeOf0
  v0 := Tryd.zeroValue0
  t3 := Tryd.underlying3
  a3 := Tryd.isAgg3
  z3 := Tryd.sizeOf3
  v3 := Tryd.zeroValue3
  t4 := Tryd.underlying4
  a4 := Tryd.isAgg4
  z4 := Tryd.sizeOf4
  v4 := Tryd.zeroValue4
  t5 := Tryd.underlying5
  a5 := Tryd.isAgg5
  z5 := Tryd.sizeOf5
  v5 := Tryd.zeroValue5
  t9 := Tryd.underlying9
  a9 := Tryd.isAgg9
  z9 := Tryd.sizeOf9
  v9 := Tryd.zeroValue9
  t20 := Tryd.underlying20
  a20 := Tryd.isAgg20
  z20 := Tryd.sizeOf20
  v20 := Tryd.zeroValue20
  t21 := Tryd.underlying21
  a21 := Tryd.isAgg21
  z21 := Tryd.sizeOf21
  v21 := Tryd.zeroValue21
  t37 := Tryd.underlying33
  a37 := Tryd.isAgg33
  z37 := Tryd.sizeOf33
  v37 := Tryd.zeroValue33
  t46 := Tryd.underlying102
  a46 := Tryd.isAgg102
  z46 := Tryd.sizeOf102
  v46 := Tryd.zeroValue102
  t51 := Tryd.underlying149
  a51 := Tryd.isAgg149
  z51 := Tryd.sizeOf149
  v51 := Tryd.zeroValue149
  t70 := Tryd.underlying109
  a70 := Tryd.isAgg109
  z70 := Tryd.sizeOf109
  v70 := Tryd.zeroValue109
  t72 := Tryd.underlying111
  a72 := Tryd.isAgg111
  z72 := Tryd.sizeOf111
  v72 := Tryd.zeroValue111
  t75 := Tryd.underlying92
  a75 := Tryd.isAgg92
  z75 := Tryd.sizeOf92
  v75 := Tryd.zeroValue92
  t76 := Tryd.underlying113
  a76 := Tryd.isAgg113
  z76 := Tryd.sizeOf113
  v76 := Tryd.zeroValue113
  t105 := Tryd.underlying106
  a105 := Tryd.isAgg106
  z105 := Tryd.sizeOf106
  v105 := Tryd.zeroValue106
  t107 := Tryd.underlying108
  a107 := Tryd.isAgg108
  z107 := Tryd.sizeOf108
  v107 := Tryd.zeroValue108
  t119 := Tryd.underlying121
  a119 := Tryd.isAgg121
  z119 := Tryd.sizeOf121
  t127 := Tryd.underlying142
  a127 := Tryd.isAgg142
  z127 := Tryd.sizeOf142
  v127 := Tryd.zeroValue142
  t138 := Tryd.underlying163
  a138 := Tryd.isAgg163
  z138 := Tryd.sizeOf163
  v138 := Tryd.zeroValue163
  t139 := Tryd.underlying164
  a139 := Tryd.isAgg164
  z139 := Tryd.sizeOf164
  v139 := Tryd.zeroValue164
  t160 := Tryd.underlying138
  a160 := Tryd.isAgg138
  z160 := Tryd.sizeOf138
  v160 := Tryd.zeroValue138
  t162 := Tryd.underlying140
  a162 := Tryd.isAgg140
  z162 := Tryd.sizeOf140
  v162 := Tryd.zeroValue140
  t164 := Tryd.underlying169
  a164 := Tryd.isAgg169
  z164 := Tryd.sizeOf169
  v164 := Tryd.zeroValue169
  t203 := Tryd.underlying173
  a203 := Tryd.isAgg173
  z203 := Tryd.sizeOf173
  v203 := Tryd.zeroValue173
  t206 := Tryd.underlying166
  a206 := Tryd.isAgg166
  z206 := Tryd.sizeOf166
  v206 := Tryd.zeroValue166
  t208 := Tryd.underlying168
  a208 := Tryd.isAgg168
  z208 := Tryd.sizeOf168
  v208 := Tryd.zeroValue168
  g3 := by kernel_rfl
  g4 := by kernel_rfl
  g13 := by kernel_rfl }
theorem Tryd.Builder_Extra_158 : Builder.Extra Tryd.prog Tryd.lays158_ren := {
  sizeBuilder := by kernel_rfl
  liesBuilder := by kernel_rfl
  t5 := Tryd.underlying5
  a5 := Tryd.isAgg5
  z5 := Tryd.sizeOf5
  v5 := Tryd.zeroValue5
  infoByte := by kernel_rfl
  cellsByte := by kernel_rfl
  sizeByte := by kernel_rfl
  neB5 := by decide }
open Go.RowKit in
/-- strings.ToUpper: "ToUpper returns s with all Unicode letters mapped to their upper case.": ON ASCII TEXT OF AT MOST 2^47 BYTES. Below the heap's end the world is as it was: where a letter turns, the call makes a builder and its buffer. (LAID: no walk: one application.) -/
theorem Tryd.strings_ToUpper_ascii (s : ByteArray) (w : World) (hs : s.size ≤ 140737488355328) (hascii : ∀ (j : Nat) (b : UInt8), s.data.toList[j]? = some b → b.toNat < 128) :
    Calls Tryd.prog 66 #[.string s] w fun e w' => e = .returned (.string ⟨(Lib.toUpperA s.data.toList).toArray⟩) ∧ Below w.heap.size w w' := Any.strings_ToUpper_ascii Tryd.lays158 Tryd.Builder_Extra_158 s w hs hascii
def Tryd.lays163_ren : Go.Shelf.Ren := ⟨fun | 163 => 68 | 237 => 87 | 199 => 88 | 238 => 89 | 272 => 112 | 261 => 113 | 273 => 114 | 197 => 78 | 315 => 126 | 311 => 127 | 312 => 128 | 271 => 129 | 260 => 102 | 120 => 133 | n => n, fun | 9 => 9 | 37 => 33 | 3 => 3 | 0 => 0 | 5 => 5 | 4 => 4 | 40 => 120 | 119 => 121 | 21 => 21 | 51 => 149 | 141 => 151 | 105 => 106 | 196 => 179 | 193 => 176 | 198 => 181 | 49 => 48 | 194 => 177 | 201 => 184 | 226 => 190 | 46 => 102 | 227 => 191 | 139 => 164 | 138 => 163 | n => n, fun | 0 => 0 | 6 => 5 | 3 => 9 | 4 => 10 | n => n⟩
theorem Tryd.lays163 : Go.Proofs.Lays.n163 Tryd.prog Tryd.lays163_ren := {
  mixed := by kernel_rfl
  f120 := Tryd.func133.trans (congrArg some (by kernel_rfl))
  f163 := Tryd.func68.trans (congrArg some (by kernel_rfl))
  f197 := Tryd.func78.trans (congrArg some (by kernel_rfl))
  f199 := Tryd.func88.trans (congrArg some (by kernel_rfl))
  f237 := Tryd.func87.trans (congrArg some (by kernel_rfl))
  f238 := Tryd.func89.trans (congrArg some (by kernel_rfl))
  f260 := Tryd.func102.trans (congrArg some (by kernel_rfl))
  f261 := Tryd.func113.trans (congrArg some (by kernel_rfl))
  f271 := Tryd.func129.trans (congrArg some (by kernel_rfl))
  f272 := Tryd.func112.trans (congrArg some (by kernel_rfl))
  f273 := Tryd.func114.trans (congrArg some (by kernel_rfl))
  f311 := Tryd.func127.trans (congrArg some (by kernel_rfl))
  f312 := Tryd.func128.trans (congrArg some (by kernel_rfl))
  f315 := Tryd.func126.trans (congrArg some (by kernel_rfl))
  t0 := Tryd.underlying0
  a0 := Tryd.isAgg0
  z0 := Tryd.sizeOf0
  v0 := Tryd.zeroValue0
  t3 := Tryd.underlying3
  a3 := Tryd.isAgg3
  z3 := Tryd.sizeOf3
  v3 := Tryd.zeroValue3
  t4 := Tryd.underlying4
  a4 := Tryd.isAgg4
  z4 := Tryd.sizeOf4
  v4 := Tryd.zeroValue4
  t5 := Tryd.underlying5
  a5 := Tryd.isAgg5
  z5 := Tryd.sizeOf5
  v5 := Tryd.zeroValue5
  t9 := Tryd.underlying9
  a9 := Tryd.isAgg9
  z9 := Tryd.sizeOf9
  v9 := Tryd.zeroValue9
  t21 := Tryd.underlying21
  a21 := Tryd.isAgg21
  z21 := Tryd.sizeOf21
  v21 := Tryd.zeroValue21
  t37 := Tryd.underlying33
  a37 := Tryd.isAgg33
  z37 := Tryd.sizeOf33
  v37 := Tryd.zeroValue33
  t40 := Tryd.underlying120
  a40 := Tryd.isAgg120
  z40 := Tryd.sizeOf120
  v40 := Tryd.zeroValue120
  t46 := Tryd.underlying102
  a46 := Tryd.isAgg102
  z46 := Tryd.sizeOf102
  v46 := Tryd.zeroValue102
  t49 := Tryd.underlying48
  a49 := Tryd.isAgg48
  z49 := Tryd.sizeOf48
  v49 := Tryd.zeroValue48
  t51 := Tryd.underlying149
  a51 := Tryd.isAgg149
  z51 := Tryd.sizeOf149
  v51 := Tryd.zeroValue149
  t105 := Tryd.underlying106
  a105 := Tryd.isAgg106
  z105 := Tryd.sizeOf106
  v105 := Tryd.zeroValue106
  t119 := Tryd.underlying121
  a119 := Tryd.isAgg121
  z119 := Tryd.sizeOf121
  t138 := Tryd.underlying163
  a138 := Tryd.isAgg163
  z138 := Tryd.sizeOf163
  v138 := Tryd.zeroValue163
  t139 := Tryd.underlying164
  a139 := Tryd.isAgg164
  z139 := Tryd.sizeOf164
  v139 := Tryd.zeroValue164
  t141 := Tryd.underlying151
  a141 := Tryd.isAgg151
  z141 := Tryd.sizeOf151
  v141 := Tryd.zeroValue151
  t193 := Tryd.underlying176
  a193 := Tryd.isAgg176
  z193 := Tryd.sizeOf176
  v193 := Tryd.zeroValue176
  t194 := Tryd.underlying177
  a194 := Tryd.isAgg177
  z194 := Tryd.sizeOf177
  v194 := Tryd.zeroValue177
  t196 := Tryd.underlying179
  a196 := Tryd.isAgg179
  z196 := Tryd.sizeOf179
  v196 := Tryd.zeroValue179
  t198 := Tryd.underlying181
  a198 := Tryd.isAgg181
  z198 := Tryd.sizeOf181
  v198 := Tryd.zeroValue181
  t201 := Tryd.underlying184
  a201 := Tryd.isAgg184
  z201 := Tryd.sizeOf184
  v201 := Tryd.zeroValue184
  t226 := Tryd.underlying190
  a226 := Tryd.isAgg190
  z226 := Tryd.sizeOf190
  v226 := Tryd.zeroValue190
  t227 := Tryd.underlying191
  a227 := Tryd.isAgg191
  z227 := Tryd.sizeOf191
  v227 := Tryd.zeroValue191
  g0 := by kernel_rfl
  g3 := by kernel_rfl
  g4 := by kernel_rfl
  g6 := by kernel_rfl }
theorem Tryd.Space_Extra_163 : Space.Extra Tryd.prog Tryd.lays163_ren := {
  gNamed := by kernel_rfl }
open Go.RowKit in
theorem Tryd.strings_TrimSpace (s : ByteArray) (w : World) (hs : s.size ≤ 9223372036854775807) (hascii : ∀ (j : Nat) b, s.data.toList[j]? = some b → b.toNat < 128) (htab : Lib.TabIs Tryd.prog w "strings.asciiSpace" .u8 Lib.asciiSpaceTab) :
    Calls Tryd.prog 68 #[.string s] w fun e w' => e = .returned (.string ⟨(Lib.trimSpace s.data.toList).toArray⟩) ∧ w' = Lib.bytesWorld w 5 s := Any.strings_TrimSpace Tryd.lays163 Tryd.Space_Extra_163 s w hs hascii htab
def Tryd.lays118_ren : Go.Shelf.Ren := ⟨fun | 118 => 107 | n => n, fun | 21 => 21 | 3 => 3 | 4 => 4 | n => n, fun | n => n⟩
theorem Tryd.lays118 : Go.Proofs.Lays.n118 Tryd.prog Tryd.lays118_ren := {
  mixed := by kernel_rfl
  f118 := Tryd.func107.trans (congrArg some (by kernel_rfl))
  t3 := Tryd.underlying3
  a3 := Tryd.isAgg3
  z3 := Tryd.sizeOf3
  v3 := Tryd.zeroValue3
  t4 := Tryd.underlying4
  a4 := Tryd.isAgg4
  z4 := Tryd.sizeOf4
  v4 := Tryd.zeroValue4
  t21 := Tryd.underlying21
  a21 := Tryd.isAgg21
  z21 := Tryd.sizeOf21
  v21 := Tryd.zeroValue21 }
/-- utf8.RuneLen: "RuneLen returns the number of bytes in the UTF-8 encoding of the rune. It returns -1 if the rune is not a valid value to encode in UTF-8.": IT RETURNS 'Lib.runeLen r'; the world is as it was. (LAID: no walk: one application.) -/
theorem Tryd.utf8_RuneLen (r : Int) (w : World) :
    Calls Tryd.prog 107 #[.int .i32 r] w fun e w' => e = .returned (.int .i64 (Lib.runeLen r)) ∧ w' = w := Any.utf8_RuneLen Tryd.lays118 r w
def Tryd.lays120_ren : Go.Shelf.Ren := ⟨fun | 120 => 133 | n => n, fun | 5 => 5 | 4 => 4 | n => n, fun | n => n⟩
theorem Tryd.lays120 : Go.Proofs.Lays.n120 Tryd.prog Tryd.lays120_ren := {
  mixed := by kernel_rfl
  f120 := Tryd.func133.trans (congrArg some (by kernel_rfl))
  t4 := Tryd.underlying4
  a4 := Tryd.isAgg4
  z4 := Tryd.sizeOf4
  v4 := Tryd.zeroValue4
  t5 := Tryd.underlying5
  a5 := Tryd.isAgg5
  z5 := Tryd.sizeOf5
  v5 := Tryd.zeroValue5 }
/-- utf8.RuneStart: "RuneStart reports whether the byte could be the first byte of an encoded, possibly invalid rune. Second and subsequent bytes always have the top two bits set to 10.": IT RETURNS 'Lib.runeStart b'; the world is as it was. ('h0', 'h1': b is a byte: a caller has it of every byte that it was handed.) (LAID: no walk: one application.) -/
theorem Tryd.utf8_RuneStart (b : Int) (w : World) (h0 : 0 ≤ b) (h1 : b < 256) :
    Calls Tryd.prog 133 #[.int .u8 b] w fun e w' => e = .returned (.bool (Lib.runeStart b)) ∧ w' = w := Any.utf8_RuneStart Tryd.lays120 b w h0 h1
open Go.RowKit in
/-- (*strings.Builder).String: "String returns the accumulated string.": OF A BUILDER THAT HOLDS AT LEAST ONE BYTE. ✋ THE MODEL FREEZES THOSE BYTES IN THE BUFFER (unsafe.String): a later write INTO them ends the model's run without an answer; a later append BEHIND them goes on. The statement's order of evaluation is drawn: one draw. THE FORM '_f': IT SAYS BESIDES THAT THE BUILDER IS A BUILDER STILL ('Lib.IsBuilderF', the same bytes): SO IT CAN BE WRITTEN ON: 'b.WriteString(b.String()[:k])'. (LAID: no walk: one application.) -/
theorem Tryd.Builder_String_f (B b : Nat) (l : List UInt8) (w : World) (h : Lib.IsBuilderF 111 5 B b (Lib.byteCells l) w) (h0 : l ≠ []) :
    Calls Tryd.prog 83 #[.pointer (some ⟨b, 0, none⟩)] w fun e w' => e = .returned (.string ⟨l.toArray⟩) ∧ (Lib.IsBuilderF 111 5 B b (Lib.byteCells l) w' ∧ Below B w w') := Any.Builder_String_f Tryd.lays169 Tryd.Builder_Extra_169 B b l w h h0
open Go.RowKit in
/-- (*strings.Builder).String OF A BUILDER THAT HOLDS NO BYTE: the empty string; THE FORM '_f': a builder still. (LAID: no walk: one application.) -/
theorem Tryd.Builder_String_empty_f (B b : Nat) (w : World) (h : Lib.IsBuilderF 111 5 B b [] w) (hBw : B ≤ w.heap.size) :
    Calls Tryd.prog 83 #[.pointer (some ⟨b, 0, none⟩)] w fun e w' => e = .returned (.string ⟨#[]⟩) ∧ (Lib.IsBuilderF 111 5 B b [] w' ∧ Below B w w') := Any.Builder_String_empty_f Tryd.lays169 Tryd.Builder_Extra_169 B b w h hBw
open Go.RowKit in
/-- (*strings.Builder).String: "String returns the accumulated string.": WHATEVER THE BUILDER HOLDS; THE FORM '_f': OF A BUILDER THAT MAY HAVE BEEN READ BEFORE; AND IT IS A BUILDER STILL, holding the same bytes: it can be written on. (LAID: no walk: one application.) -/
theorem Tryd.Builder_String_any_f (B b : Nat) (l : List UInt8) (w : World) (h : Lib.IsBuilderF 111 5 B b (Lib.byteCells l) w) (hBw : B ≤ w.heap.size) :
    Calls Tryd.prog 83 #[.pointer (some ⟨b, 0, none⟩)] w fun e w' => e = .returned (.string ⟨l.toArray⟩) ∧ (Lib.IsBuilderF 111 5 B b (Lib.byteCells l) w' ∧ Below B w w') := Any.Builder_String_any_f Tryd.lays169 Tryd.Builder_Extra_169 B b l w h hBw
open Go.RowKit in
/-- (*strings.Builder).String: "String returns the accumulated string.": OF A BUILDER THAT HOLDS AT LEAST ONE BYTE. ✋ THE MODEL FREEZES THOSE BYTES IN THE BUFFER (unsafe.String): a later write INTO them ends the model's run without an answer; a later append BEHIND them goes on. The statement's order of evaluation is drawn: one draw. THE FORM '_k': OVER 'Lib.IsBuilderF' (a builder that 'String()' may have read), AND WITH THE FRAME THAT REACHES ABOVE THE BUILDER: 'Lib.OthersKept': every block that is not b and is no row of uint8's stands as it stood: the iterator of a range among them. (LAID: no walk: one application.) -/
theorem Tryd.Builder_String_k (B b : Nat) (l : List UInt8) (w : World) (h : Lib.IsBuilderF 111 5 B b (Lib.byteCells l) w) (h0 : l ≠ []) :
    Calls Tryd.prog 83 #[.pointer (some ⟨b, 0, none⟩)] w fun e w' => e = .returned (.string ⟨l.toArray⟩) ∧ (Lib.IsBuilderF 111 5 B b (Lib.byteCells l) w' ∧ Below B w w' ∧ Lib.OthersKept 5 (some b) w w') := Any.Builder_String_k Tryd.lays169 Tryd.Builder_Extra_169 B b l w h h0
open Go.RowKit in
/-- (*strings.Builder).String OF A BUILDER THAT HOLDS NO BYTE: the empty string; THE FORM '_k': OVER 'Lib.IsBuilderF' (a builder that 'String()' may have read), AND WITH THE FRAME THAT REACHES ABOVE THE BUILDER: 'Lib.OthersKept': every block that is not b and is no row of uint8's stands as it stood: the iterator of a range among them. (LAID: no walk: one application.) -/
theorem Tryd.Builder_String_empty_k (B b : Nat) (w : World) (h : Lib.IsBuilderF 111 5 B b [] w) (hBw : B ≤ w.heap.size) :
    Calls Tryd.prog 83 #[.pointer (some ⟨b, 0, none⟩)] w fun e w' => e = .returned (.string ⟨#[]⟩) ∧ (Lib.IsBuilderF 111 5 B b [] w' ∧ Below B w w' ∧ Lib.OthersKept 5 (some b) w w') := Any.Builder_String_empty_k Tryd.lays169 Tryd.Builder_Extra_169 B b w h hBw
open Go.RowKit in
/-- (*strings.Builder).String: "String returns the accumulated string.": WHATEVER THE BUILDER HOLDS; THE FORM '_k': OVER 'Lib.IsBuilderF' (a builder that 'String()' may have read), AND WITH THE FRAME THAT REACHES ABOVE THE BUILDER: 'Lib.OthersKept': every block that is not b and is no row of uint8's stands as it stood: the iterator of a range among them. (LAID: no walk: one application.) -/
theorem Tryd.Builder_String_any_k (B b : Nat) (l : List UInt8) (w : World) (h : Lib.IsBuilderF 111 5 B b (Lib.byteCells l) w) (hBw : B ≤ w.heap.size) :
    Calls Tryd.prog 83 #[.pointer (some ⟨b, 0, none⟩)] w fun e w' => e = .returned (.string ⟨l.toArray⟩) ∧ (Lib.IsBuilderF 111 5 B b (Lib.byteCells l) w' ∧ Below B w w' ∧ Lib.OthersKept 5 (some b) w w') := Any.Builder_String_any_k Tryd.lays169 Tryd.Builder_Extra_169 B b l w h hBw
def Tryd.lays278_ren : Go.Shelf.Ren := ⟨fun | 278 => 132 | n => n, fun | 37 => 33 | 21 => 21 | 51 => 149 | 4 => 4 | 46 => 102 | 5 => 5 | n => n, fun | n => n⟩
theorem Tryd.lays278 : Go.Proofs.Lays.n278 Tryd.prog Tryd.lays278_ren := {
  mixed := by kernel_rfl
  f278 := Tryd.func132.trans (congrArg some (by kernel_rfl))
  t4 := Tryd.underlying4
  a4 := Tryd.isAgg4
  z4 := Tryd.sizeOf4
  v4 := Tryd.zeroValue4
  t5 := Tryd.underlying5
  a5 := Tryd.isAgg5
  z5 := Tryd.sizeOf5
  v5 := Tryd.zeroValue5
  t21 := Tryd.underlying21
  a21 := Tryd.isAgg21
  z21 := Tryd.sizeOf21
  v21 := Tryd.zeroValue21
  t37 := Tryd.underlying33
  a37 := Tryd.isAgg33
  z37 := Tryd.sizeOf33
  v37 := Tryd.zeroValue33
  t46 := Tryd.underlying102
  a46 := Tryd.isAgg102
  z46 := Tryd.sizeOf102
  v46 := Tryd.zeroValue102
  t51 := Tryd.underlying149
  a51 := Tryd.isAgg149
  z51 := Tryd.sizeOf149
  v51 := Tryd.zeroValue149 }
open Go.RowKit in
/-- unicode/utf8.appendRuneNonASCII (what AppendRune calls for all but ASCII), ONTO A ROW OF BYTES THAT THE CALL OWNS: every int32 that is no ASCII rune: 'Lib.runeCells r' goes in behind what the row holds. (LAID: no walk: one application.) -/
theorem Tryd.utf8_appendRuneNonASCII_row (B : Nat) (v : Value) (n : Nat) (xs : List Value) (r : Int) (hr0 : -2147483648 ≤ r) (hr1 : r ≤ 2147483647) (hna : r < 0 ∨ 128 ≤ r) (w : World) (hown : w.ownsRowF B 5 1 v n xs) (hlen : n + 4 ≤ 140737488355328) (hBw : B ≤ w.heap.size) :
    Calls Tryd.prog 132 #[v, .int .i32 r] w fun e w' => ∃ v', e = .returned v' ∧ w'.ownsRowF B 5 1 v' (n + (Lib.runeCells r).length) (xs ++ Lib.runeCells r) ∧ ∃ o, (w.alloc o).grownBy w' v.ownBlock := Any.utf8_appendRuneNonASCII_row Tryd.lays278 (by kernel_rfl) B v n xs r hr0 hr1 hna w hown hlen hBw
def Tryd.lays242_ren : Go.Shelf.Ren := ⟨fun | 242 => 124 | 278 => 132 | n => n, fun | 37 => 33 | 21 => 21 | 51 => 149 | 4 => 4 | 5 => 5 | 46 => 102 | n => n, fun | n => n⟩
theorem Tryd.lays242 : Go.Proofs.Lays.n242 Tryd.prog Tryd.lays242_ren := {
  mixed := by kernel_rfl
  f242 := Tryd.func124.trans (congrArg some (by kernel_rfl))
  f278 := Tryd.func132.trans (congrArg some (by kernel_rfl))
  t4 := Tryd.underlying4
  a4 := Tryd.isAgg4
  z4 := Tryd.sizeOf4
  v4 := Tryd.zeroValue4
  t5 := Tryd.underlying5
  a5 := Tryd.isAgg5
  z5 := Tryd.sizeOf5
  v5 := Tryd.zeroValue5
  t21 := Tryd.underlying21
  a21 := Tryd.isAgg21
  z21 := Tryd.sizeOf21
  v21 := Tryd.zeroValue21
  t37 := Tryd.underlying33
  a37 := Tryd.isAgg33
  z37 := Tryd.sizeOf33
  v37 := Tryd.zeroValue33
  t46 := Tryd.underlying102
  a46 := Tryd.isAgg102
  z46 := Tryd.sizeOf102
  v46 := Tryd.zeroValue102
  t51 := Tryd.underlying149
  a51 := Tryd.isAgg149
  z51 := Tryd.sizeOf149
  v51 := Tryd.zeroValue149 }
open Go.RowKit in
/-- unicode/utf8.AppendRune: "AppendRune appends the UTF-8 encoding of r to the end of p and returns the extended buffer. If the rune is out of range, it appends the encoding of RuneError.": ONTO A ROW OF BYTES THAT THE CALL OWNS (its head frozen or not): EVERY int32: 'Lib.runeCells r' goes in behind what the row holds; the world: one new block (the bytes as the call's variadic argument), then what 'append' does to the row. (LAID: no walk: one application.) -/
theorem Tryd.utf8_AppendRune_row (B : Nat) (v : Value) (n : Nat) (xs : List Value) (r : Int) (hr0 : -2147483648 ≤ r) (hr1 : r ≤ 2147483647) (w : World) (hown : w.ownsRowF B 5 1 v n xs) (hlen : n + 4 ≤ 140737488355328) (hBw : B ≤ w.heap.size) :
    Calls Tryd.prog 124 #[v, .int .i32 r] w fun e w' => ∃ v', e = .returned v' ∧ w'.ownsRowF B 5 1 v' (n + (Lib.runeCells r).length) (xs ++ Lib.runeCells r) ∧ ∃ o, (w.alloc o).grownBy w' v.ownBlock := Any.utf8_AppendRune_row Tryd.lays242 (by kernel_rfl) B v n xs r hr0 hr1 w hown hlen hBw
open Go.RowKit in
/-- unicode/utf8.appendRuneNonASCII (what AppendRune calls for all but ASCII), ONTO A ROW OF BYTES THAT THE CALL OWNS: every int32 that is no ASCII rune: 'Lib.runeCells r' goes in behind what the row holds. (LAID: no walk: one application.) -/
theorem Tryd.utf8_appendRuneNonASCII_plain (B : Nat) (v : Value) (n : Nat) (xs : List Value) (r : Int) (hr0 : -2147483648 ≤ r) (hr1 : r ≤ 2147483647) (hna : r < 0 ∨ 128 ≤ r) (w : World) (hown : w.ownsRow B 5 1 v n xs) (hlen : n + 4 ≤ 140737488355328) (hBw : B ≤ w.heap.size) :
    Calls Tryd.prog 132 #[v, .int .i32 r] w fun e w' => ∃ v', e = .returned v' ∧ w'.ownsRow B 5 1 v' (n + (Lib.runeCells r).length) (xs ++ Lib.runeCells r) ∧ ∃ o, (w.alloc o).grownBy w' v.ownBlock := Any.utf8_appendRuneNonASCII_plain Tryd.lays278 (by kernel_rfl) B v n xs r hr0 hr1 hna w hown hlen hBw
open Go.RowKit in
/-- unicode/utf8.AppendRune: "AppendRune appends the UTF-8 encoding of r to the end of p and returns the extended buffer. If the rune is out of range, it appends the encoding of RuneError.": ONTO A ROW OF BYTES THAT THE CALL OWNS (its head frozen or not): EVERY int32: 'Lib.runeCells r' goes in behind what the row holds; the world: one new block (the bytes as the call's variadic argument), then what 'append' does to the row. (LAID: no walk: one application.) -/
theorem Tryd.utf8_AppendRune_plain (B : Nat) (v : Value) (n : Nat) (xs : List Value) (r : Int) (hr0 : -2147483648 ≤ r) (hr1 : r ≤ 2147483647) (w : World) (hown : w.ownsRow B 5 1 v n xs) (hlen : n + 4 ≤ 140737488355328) (hBw : B ≤ w.heap.size) :
    Calls Tryd.prog 124 #[v, .int .i32 r] w fun e w' => ∃ v', e = .returned v' ∧ w'.ownsRow B 5 1 v' (n + (Lib.runeCells r).length) (xs ++ Lib.runeCells r) ∧ ∃ o, (w.alloc o).grownBy w' v.ownBlock := Any.utf8_AppendRune_plain Tryd.lays242 (by kernel_rfl) B v n xs r hr0 hr1 w hown hlen hBw
open Go.RowKit in
/-- (*strings.Builder).grow (no doc but "grow copies the buffer to a new, larger buffer so that there are at least n bytes of capacity beyond len(b.buf)."): AT A BUILDER WITHOUT A BUFFER: a new row of whatever bytes for its buffer, none of them its own yet. Three draws. (LAID: no walk: one application.) -/
theorem Tryd.Builder_grow_fresh_cap (B b n : Nat) (w : World) (hB : B ≤ b) (hbk : w.heap[b]? = some (.cells #[.pointer (some ⟨b, 0, none⟩), .slice none 0 0] 111 (0, 0))) (hBw : B ≤ w.heap.size) (hn : n ≤ 281474976710656) :
    Calls Tryd.prog 106 #[.pointer (some ⟨b, 0, none⟩), .int .i64 n] w fun e w' => e = .returned (.tuple #[]) ∧ (Lib.BuilderAt 111 5 B b (.pointer (some ⟨b, 0, none⟩)) [] w' ∧ Below B w w') ∧ ∃ p cap, w'.cell? ⟨b, 1, none⟩ = some (.slice p 0 cap) ∧ n ≤ cap := Any.Builder_grow_fresh_cap Tryd.lays241 Tryd.Builder_Extra_241 B b n w hB hbk hBw hn
open Go.RowKit in
/-- (*strings.Builder).Grow AT A BUILDER THAT HAS NOT BEEN WRITTEN ('var b strings.Builder; b.Grow(n)'): "Grow grows b's capacity, if necessary, to guarantee space for another n bytes.": it holds no byte behind it as before it. (LAID: no walk: one application.) -/
theorem Tryd.Builder_Grow_fresh_cap (B b n : Nat) (w : World) (hB : B ≤ b) (hbk : w.heap[b]? = some (.cells #[.pointer none, .slice none 0 0] 111 (0, 0))) (hBw : B ≤ w.heap.size) (hn : n ≤ 281474976710656) :
    Calls Tryd.prog 80 #[.pointer (some ⟨b, 0, none⟩), .int .i64 n] w fun e w' => e = .returned (.tuple #[]) ∧ (Lib.BuilderAt 111 5 B b (.pointer (some ⟨b, 0, none⟩)) [] w' ∧ Below B w w') ∧ ∃ p cap, w'.cell? ⟨b, 1, none⟩ = some (.slice p 0 cap) ∧ n ≤ cap := Any.Builder_Grow_fresh_cap Tryd.lays165 Tryd.Builder_Extra_165 B b n w hB hbk hBw hn
def Tryd.lays129_ren : Go.Shelf.Ren := ⟨fun | 129 => 116 | n => n, fun | 53 => 90 | 3 => 3 | 4 => 4 | 46 => 102 | 5 => 5 | 9 => 9 | n => n, fun | n => n⟩
theorem Tryd.lays129 : Go.Proofs.Lays.n129 Tryd.prog Tryd.lays129_ren := {
  mixed := by kernel_rfl
  f129 := Tryd.func116.trans (congrArg some (by kernel_rfl))
  t3 := Tryd.underlying3
  a3 := Tryd.isAgg3
  z3 := Tryd.sizeOf3
  v3 := Tryd.zeroValue3
  t4 := Tryd.underlying4
  a4 := Tryd.isAgg4
  z4 := Tryd.sizeOf4
  v4 := Tryd.zeroValue4
  t5 := Tryd.underlying5
  a5 := Tryd.isAgg5
  z5 := Tryd.sizeOf5
  v5 := Tryd.zeroValue5
  t9 := Tryd.underlying9
  a9 := Tryd.isAgg9
  z9 := Tryd.sizeOf9
  v9 := Tryd.zeroValue9
  t46 := Tryd.underlying102
  a46 := Tryd.isAgg102
  z46 := Tryd.sizeOf102
  v46 := Tryd.zeroValue102
  t53 := Tryd.underlying90
  a53 := Tryd.isAgg90
  z53 := Tryd.sizeOf90
  v53 := Tryd.zeroValue90 }
/-- bits.Len64: "Len64 returns the minimum number of bits required to represent x; the result is 0 for x == 0.": IT RETURNS 'Lib.bitLen x'; the world is as it was. ('h0', 'h1': x is a uint64.) (LAID: no walk: one application.) -/
theorem Tryd.bits_Len64 (x : Int) (w : World) (h0 : 0 ≤ x) (h1 : x ≤ 18446744073709551615) :
    Calls Tryd.prog 116 #[.int .u64 x] w fun e w' => e = .returned (.int .i64 (Lib.bitLen x.toNat)) ∧ w' = w := Any.bits_Len64 Tryd.lays129 x w h0 h1
def Tryd.lays317_ren : Go.Shelf.Ren := ⟨fun | 317 => 115 | n => n, fun | 3 => 3 | 46 => 102 | n => n, fun | n => n⟩
theorem Tryd.lays317 : Go.Proofs.Lays.n317 Tryd.prog Tryd.lays317_ren := {
  mixed := by kernel_rfl
  f317 := Tryd.func115.trans (congrArg some (by kernel_rfl))
  t3 := Tryd.underlying3
  a3 := Tryd.isAgg3
  z3 := Tryd.sizeOf3
  v3 := Tryd.zeroValue3
  t46 := Tryd.underlying102
  a46 := Tryd.isAgg102
  z46 := Tryd.sizeOf102
  v46 := Tryd.zeroValue102 }
open Go.Lib in
/-- internal/strconv.log10Pow2: "log10Pow2(x) returns ⌊log₁₀ 2**x⌋ = ⌊x * log₁₀ 2⌋.": '(x * 78913) >> 18', at an x up to 64 (a length in bits). The world is as it was. (LAID: no walk: one application.) -/
theorem Tryd.internal_strconv_log10Pow2 (x : Nat) (h : x ≤ 64) (w : World) :
    Calls Tryd.prog 115 #[.int .i64 x] w fun e w' => e = .returned (.int .i64 (Lib.l10 x)) ∧ w' = w := Any.internal_strconv_log10Pow2 Tryd.lays317 x h w
def Tryd.lays318_ren : Go.Shelf.Ren := ⟨fun | 318 => 117 | n => n, fun | 3 => 3 | 4 => 4 | n => n, fun | n => n⟩
theorem Tryd.lays318 : Go.Proofs.Lays.n318 Tryd.prog Tryd.lays318_ren := {
  mixed := by kernel_rfl
  f318 := Tryd.func117.trans (congrArg some (by kernel_rfl))
  t3 := Tryd.underlying3
  a3 := Tryd.isAgg3
  z3 := Tryd.sizeOf3
  v3 := Tryd.zeroValue3
  t4 := Tryd.underlying4
  a4 := Tryd.isAgg4
  z4 := Tryd.sizeOf4
  v4 := Tryd.zeroValue4 }
open Go.Lib in
/-- internal/strconv.bool2: "bool2 converts b to an integer: 1 for true, 0 for false." The world is as it was. (LAID: no walk: one application.) -/
theorem Tryd.internal_strconv_bool2_int (b : Bool) (w : World) :
    Calls Tryd.prog 117 #[.bool b] w fun e w' => e = .returned (.int .i64 (if b then 1 else 0)) ∧ w' = w := Any.internal_strconv_bool2_int Tryd.lays318 b w
def Tryd.lays283_ren : Go.Shelf.Ren := ⟨fun | 283 => 92 | n => n, fun | 3 => 3 | 9 => 9 | 4 => 4 | n => n, fun | n => n⟩
theorem Tryd.lays283 : Go.Proofs.Lays.n283 Tryd.prog Tryd.lays283_ren := {
  mixed := by kernel_rfl
  f283 := Tryd.func92.trans (congrArg some (by kernel_rfl))
  t3 := Tryd.underlying3
  a3 := Tryd.isAgg3
  z3 := Tryd.sizeOf3
  v3 := Tryd.zeroValue3
  t4 := Tryd.underlying4
  a4 := Tryd.isAgg4
  z4 := Tryd.sizeOf4
  v4 := Tryd.zeroValue4
  t9 := Tryd.underlying9
  a9 := Tryd.isAgg9
  z9 := Tryd.sizeOf9
  v9 := Tryd.zeroValue9 }
open Go.Lib in
/-- internal/strconv.small: "small returns the string for an i with 0 <= i < nSmalls.": i's decimal numeral. The world is as it was. (LAID: no walk: one application.) -/
theorem Tryd.internal_strconv_small (i : Nat) (h : i < 100) (w : World) :
    Calls Tryd.prog 92 #[.int .i64 i] w fun e w' => e = .returned (.string ⟨(Lib.decDigits i).toArray⟩) ∧ w' = w := Any.internal_strconv_small Tryd.lays283 i h w
def Tryd.laysM284_ren : Go.Shelf.Ren := ⟨fun | 284 => 93 | 129 => 116 | 317 => 115 | 318 => 117 | n => n, fun | 53 => 90 | 3 => 3 | 212 => 155 | 0 => 0 | 4 => 4 | 46 => 102 | 5 => 5 | 9 => 9 | n => n, fun | 17 => 6 | n => n⟩
theorem Tryd.laysM284 : Go.Proofs.LaysM.n284 Tryd.prog Tryd.laysM284_ren := {
  mixed := by kernel_rfl
  f129 := Tryd.func116.trans (congrArg some (by kernel_rfl))
  f284 := Tryd.func93.trans (congrArg some (by kernel_rfl))
  f317 := Tryd.func115.trans (congrArg some (by kernel_rfl))
  f318 := Tryd.func117.trans (congrArg some (by kernel_rfl))
  t0 := Tryd.underlying0
  a0 := Tryd.isAgg0
  z0 := Tryd.sizeOf0
  v0 := Tryd.zeroValue0
  t3 := Tryd.underlying3
  a3 := Tryd.isAgg3
  z3 := Tryd.sizeOf3
  v3 := Tryd.zeroValue3
  t4 := Tryd.underlying4
  a4 := Tryd.isAgg4
  z4 := Tryd.sizeOf4
  v4 := Tryd.zeroValue4
  t5 := Tryd.underlying5
  a5 := Tryd.isAgg5
  z5 := Tryd.sizeOf5
  v5 := Tryd.zeroValue5
  t9 := Tryd.underlying9
  a9 := Tryd.isAgg9
  z9 := Tryd.sizeOf9
  v9 := Tryd.zeroValue9
  t46 := Tryd.underlying102
  a46 := Tryd.isAgg102
  z46 := Tryd.sizeOf102
  v46 := Tryd.zeroValue102
  t53 := Tryd.underlying90
  a53 := Tryd.isAgg90
  z53 := Tryd.sizeOf90
  v53 := Tryd.zeroValue90
  t212 := Tryd.underlying155
  a212 := Tryd.isAgg155
  z212 := Tryd.sizeOf155
  v212 := Tryd.zeroValue155
  g17 := by kernel_rfl
  i0 := by kernel_rfl
  i3 := by kernel_rfl
  i4 := by kernel_rfl
  i5 := by kernel_rfl
  i9 := by kernel_rfl
  i46 := by kernel_rfl
  i53 := by kernel_rfl
  i212 := by kernel_rfl
  m17 := by kernel_rfl }
open Go.Lib in
/-- internal/strconv.numDigits, at a d that is not 0: THE NUMBER OF d's DECIMAL DIGITS. The world is as it was. (LAID: no walk: one application.) -/
theorem Tryd.internal_strconv_numDigits (u : Nat) (h1 : 1 ≤ u) (h2 : u < 18446744073709551616) (w : World) (htab : Lib.TabIs Tryd.prog w "internal/strconv.uint64pow10" .u64 Lib.pow10Tab) :
    Calls Tryd.prog 93 #[.int .u64 u] w fun e w' => e = .returned (.int .i64 (Lib.nDigits u)) ∧ w' = w := Any.internal_strconv_numDigits Tryd.laysM284 u h1 h2 w htab
def Tryd.lays285_ren : Go.Shelf.Ren := ⟨fun | 285 => 94 | n => n, fun | 37 => 33 | 53 => 90 | 3 => 3 | 4 => 4 | 51 => 149 | 9 => 9 | 5 => 5 | 0 => 0 | n => n, fun | n => n⟩
theorem Tryd.lays285 : Go.Proofs.Lays.n285 Tryd.prog Tryd.lays285_ren := {
  mixed := by kernel_rfl
  f285 := Tryd.func94.trans (congrArg some (by kernel_rfl))
  t0 := Tryd.underlying0
  a0 := Tryd.isAgg0
  z0 := Tryd.sizeOf0
  v0 := Tryd.zeroValue0
  t3 := Tryd.underlying3
  a3 := Tryd.isAgg3
  z3 := Tryd.sizeOf3
  v3 := Tryd.zeroValue3
  t4 := Tryd.underlying4
  a4 := Tryd.isAgg4
  z4 := Tryd.sizeOf4
  v4 := Tryd.zeroValue4
  t5 := Tryd.underlying5
  a5 := Tryd.isAgg5
  z5 := Tryd.sizeOf5
  v5 := Tryd.zeroValue5
  t9 := Tryd.underlying9
  a9 := Tryd.isAgg9
  z9 := Tryd.sizeOf9
  v9 := Tryd.zeroValue9
  t37 := Tryd.underlying33
  a37 := Tryd.isAgg33
  z37 := Tryd.sizeOf33
  v37 := Tryd.zeroValue33
  t51 := Tryd.underlying149
  a51 := Tryd.isAgg149
  z51 := Tryd.sizeOf149
  v51 := Tryd.zeroValue149
  t53 := Tryd.underlying90
  a53 := Tryd.isAgg90
  z53 := Tryd.sizeOf90
  v53 := Tryd.zeroValue90 }
open Go.RowKit Go.Sort Go.Lib in
/-- internal/strconv.formatBase10: "formatBase10 formats the decimal representation of u into a. The caller is responsible for ensuring that a is big enough to hold u. If a is too big, leading zeros will be filled in as needed.": THE ROW HOLDS u's DIGITS ('FmtInv .. 0 ..': every place t holds 'dg u (len - 1 - t)'); all else is as it was but for the count of draws. (LAID: no walk: one application.) -/
theorem Tryd.internal_strconv_formatBase10 (blk off cap : Nat) (u : Nat) (d : Array UInt8) (w : World) (hH : Holds (fun (b : UInt8) => Value.int .u8 (b.toNat : Int)) w blk off d) (hu : u < 10 ^ d.size) (hu64 : u < 18446744073709551616) (hsz : d.size < 4611686018427387904) :
    Calls Tryd.prog 94 #[.slice (some ⟨blk, off, none⟩) d.size cap, .int .u64 u] w fun e w' =>
      e = .returned (.tuple #[]) ∧ ∃ (n v' : Nat) (dk : Array UInt8), w' = (putRow (fun (b : UInt8) => Value.int .u8 (b.toNat : Int)) w blk off dk).drewN n ∧ FmtInv d.size u 0 v' dk := Any.internal_strconv_formatBase10 Tryd.lays285 blk off cap u d w hH hu hu64 hsz
def Tryd.laysM246_ren : Go.Shelf.Ren := ⟨fun | 246 => 74 | 283 => 92 | 284 => 93 | 285 => 94 | 286 => 95 | 129 => 116 | 317 => 115 | 318 => 117 | 319 => 118 | 320 => 119 | 337 => 130 | 338 => 131 | n => n, fun | 2 => 2 | 3 => 3 | 9 => 9 | 4 => 4 | 171 => 124 | 0 => 0 | 53 => 90 | 37 => 33 | 5 => 5 | 173 => 127 | 212 => 155 | 51 => 149 | 20 => 20 | 213 => 156 | 46 => 102 | 232 => 193 | 233 => 148 | n => n, fun | 17 => 6 | 18 => 12 | 19 => 13 | n => n⟩
theorem Tryd.laysM246 : Go.Proofs.LaysM.n246 Tryd.prog Tryd.laysM246_ren := {
  mixed := by kernel_rfl
  f129 := Tryd.func116.trans (congrArg some (by kernel_rfl))
  f246 := Tryd.func74.trans (congrArg some (by kernel_rfl))
  f283 := Tryd.func92.trans (congrArg some (by kernel_rfl))
  f284 := Tryd.func93.trans (congrArg some (by kernel_rfl))
  f285 := Tryd.func94.trans (congrArg some (by kernel_rfl))
  f286 := Tryd.func95.trans (congrArg some (by kernel_rfl))
  f317 := Tryd.func115.trans (congrArg some (by kernel_rfl))
  f318 := Tryd.func117.trans (congrArg some (by kernel_rfl))
  f319 := Tryd.func118.trans (congrArg some (by kernel_rfl))
  f320 := Tryd.func119.trans (congrArg some (by kernel_rfl))
  f337 := Tryd.func130.trans (congrArg some (by kernel_rfl))
  f338 := Tryd.func131.trans (congrArg some (by kernel_rfl))
  t0 := Tryd.underlying0
  a0 := Tryd.isAgg0
  z0 := Tryd.sizeOf0
  v0 := Tryd.zeroValue0
  t2 := Tryd.underlying2
  a2 := Tryd.isAgg2
  z2 := Tryd.sizeOf2
  v2 := Tryd.zeroValue2
  t3 := Tryd.underlying3
  a3 := Tryd.isAgg3
  z3 := Tryd.sizeOf3
  v3 := Tryd.zeroValue3
  t4 := Tryd.underlying4
  a4 := Tryd.isAgg4
  z4 := Tryd.sizeOf4
  v4 := Tryd.zeroValue4
  t5 := Tryd.underlying5
  a5 := Tryd.isAgg5
  z5 := Tryd.sizeOf5
  v5 := Tryd.zeroValue5
  t9 := Tryd.underlying9
  a9 := Tryd.isAgg9
  z9 := Tryd.sizeOf9
  v9 := Tryd.zeroValue9
  t20 := Tryd.underlying20
  a20 := Tryd.isAgg20
  z20 := Tryd.sizeOf20
  v20 := Tryd.zeroValue20
  t37 := Tryd.underlying33
  a37 := Tryd.isAgg33
  z37 := Tryd.sizeOf33
  v37 := Tryd.zeroValue33
  t46 := Tryd.underlying102
  a46 := Tryd.isAgg102
  z46 := Tryd.sizeOf102
  v46 := Tryd.zeroValue102
  t51 := Tryd.underlying149
  a51 := Tryd.isAgg149
  z51 := Tryd.sizeOf149
  v51 := Tryd.zeroValue149
  t53 := Tryd.underlying90
  a53 := Tryd.isAgg90
  z53 := Tryd.sizeOf90
  v53 := Tryd.zeroValue90
  t171 := Tryd.underlying124
  a171 := Tryd.isAgg124
  z171 := Tryd.sizeOf124
  v171 := Tryd.zeroValue124
  t173 := Tryd.underlying127
  a173 := Tryd.isAgg127
  z173 := Tryd.sizeOf127
  v173 := Tryd.zeroValue127
  t212 := Tryd.underlying155
  a212 := Tryd.isAgg155
  z212 := Tryd.sizeOf155
  v212 := Tryd.zeroValue155
  t213 := Tryd.underlying156
  a213 := Tryd.isAgg156
  z213 := Tryd.sizeOf156
  t232 := Tryd.underlying193
  a232 := Tryd.isAgg193
  z232 := Tryd.sizeOf193
  v232 := Tryd.zeroValue193
  t233 := Tryd.underlying148
  a233 := Tryd.isAgg148
  z233 := Tryd.sizeOf148
  v233 := Tryd.zeroValue148
  g17 := by kernel_rfl
  g18 := by kernel_rfl
  g19 := by kernel_rfl
  i0 := by kernel_rfl
  i2 := by kernel_rfl
  i3 := by kernel_rfl
  i4 := by kernel_rfl
  i5 := by kernel_rfl
  i9 := by kernel_rfl
  i20 := by kernel_rfl
  i37 := by kernel_rfl
  i46 := by kernel_rfl
  i51 := by kernel_rfl
  i53 := by kernel_rfl
  i171 := by kernel_rfl
  i173 := by kernel_rfl
  i212 := by kernel_rfl
  i232 := by kernel_rfl
  i233 := by kernel_rfl
  m17 := by kernel_rfl
  m18 := by kernel_rfl
  m19 := by kernel_rfl }
open Go.RowKit Go.Sort Go.Lib in
/-- internal/strconv.FormatInt: "FormatInt returns the string representation of i in the given base": AT BASE 10: i's decimal numeral, for every int64. The world behind the call: the world before it, new blocks behind the heap, draws. (LAID: no walk: one application.) -/
theorem Tryd.internal_strconv_FormatInt_10 (n : Int) (h0 : -9223372036854775808 ≤ n) (h1 : n ≤ 9223372036854775807) (w : World) (htab : Lib.TabIs Tryd.prog w "internal/strconv.uint64pow10" .u64 Lib.pow10Tab) :
    Calls Tryd.prog 74 #[.int .i64 n, .int .i64 10] w fun e w' => e = .returned (.string ⟨(Lib.itoa n).toArray⟩) ∧ ∃ k os, w' = grow (w.drewN k) os := Any.internal_strconv_FormatInt_10 Tryd.laysM246 n h0 h1 w htab
def Tryd.lays246_ren : Go.Shelf.Ren := ⟨fun | 246 => 74 | 283 => 92 | 284 => 93 | 285 => 94 | 286 => 95 | 129 => 116 | 317 => 115 | 318 => 117 | 319 => 118 | 320 => 119 | 337 => 130 | 338 => 131 | n => n, fun | 2 => 2 | 3 => 3 | 9 => 9 | 4 => 4 | 171 => 124 | 0 => 0 | 53 => 90 | 37 => 33 | 5 => 5 | 173 => 127 | 212 => 155 | 51 => 149 | 20 => 20 | 213 => 156 | 46 => 102 | 232 => 193 | 233 => 148 | n => n, fun | 17 => 6 | 18 => 12 | 19 => 13 | n => n⟩
theorem Tryd.lays246 : Go.Proofs.Lays.n246 Tryd.prog Tryd.lays246_ren := {
  mixed := by kernel_rfl
  f129 := Tryd.func116.trans (congrArg some (by kernel_rfl))
  f246 := Tryd.func74.trans (congrArg some (by kernel_rfl))
  f283 := Tryd.func92.trans (congrArg some (by kernel_rfl))
  f284 := Tryd.func93.trans (congrArg some (by kernel_rfl))
  f285 := Tryd.func94.trans (congrArg some (by kernel_rfl))
  f286 := Tryd.func95.trans (congrArg some (by kernel_rfl))
  f317 := Tryd.func115.trans (congrArg some (by kernel_rfl))
  f318 := Tryd.func117.trans (congrArg some (by kernel_rfl))
  f319 := Tryd.func118.trans (congrArg some (by kernel_rfl))
  f320 := Tryd.func119.trans (congrArg some (by kernel_rfl))
  f337 := Tryd.func130.trans (congrArg some (by kernel_rfl))
  f338 := Tryd.func131.trans (congrArg some (by kernel_rfl))
  t0 := Tryd.underlying0
  a0 := Tryd.isAgg0
  z0 := Tryd.sizeOf0
  v0 := Tryd.zeroValue0
  t2 := Tryd.underlying2
  a2 := Tryd.isAgg2
  z2 := Tryd.sizeOf2
  v2 := Tryd.zeroValue2
  t3 := Tryd.underlying3
  a3 := Tryd.isAgg3
  z3 := Tryd.sizeOf3
  v3 := Tryd.zeroValue3
  t4 := Tryd.underlying4
  a4 := Tryd.isAgg4
  z4 := Tryd.sizeOf4
  v4 := Tryd.zeroValue4
  t5 := Tryd.underlying5
  a5 := Tryd.isAgg5
  z5 := Tryd.sizeOf5
  v5 := Tryd.zeroValue5
  t9 := Tryd.underlying9
  a9 := Tryd.isAgg9
  z9 := Tryd.sizeOf9
  v9 := Tryd.zeroValue9
  t20 := Tryd.underlying20
  a20 := Tryd.isAgg20
  z20 := Tryd.sizeOf20
  v20 := Tryd.zeroValue20
  t37 := Tryd.underlying33
  a37 := Tryd.isAgg33
  z37 := Tryd.sizeOf33
  v37 := Tryd.zeroValue33
  t46 := Tryd.underlying102
  a46 := Tryd.isAgg102
  z46 := Tryd.sizeOf102
  v46 := Tryd.zeroValue102
  t51 := Tryd.underlying149
  a51 := Tryd.isAgg149
  z51 := Tryd.sizeOf149
  v51 := Tryd.zeroValue149
  t53 := Tryd.underlying90
  a53 := Tryd.isAgg90
  z53 := Tryd.sizeOf90
  v53 := Tryd.zeroValue90
  t171 := Tryd.underlying124
  a171 := Tryd.isAgg124
  z171 := Tryd.sizeOf124
  v171 := Tryd.zeroValue124
  t173 := Tryd.underlying127
  a173 := Tryd.isAgg127
  z173 := Tryd.sizeOf127
  v173 := Tryd.zeroValue127
  t212 := Tryd.underlying155
  a212 := Tryd.isAgg155
  z212 := Tryd.sizeOf155
  v212 := Tryd.zeroValue155
  t213 := Tryd.underlying156
  a213 := Tryd.isAgg156
  z213 := Tryd.sizeOf156
  t232 := Tryd.underlying193
  a232 := Tryd.isAgg193
  z232 := Tryd.sizeOf193
  v232 := Tryd.zeroValue193
  t233 := Tryd.underlying148
  a233 := Tryd.isAgg148
  z233 := Tryd.sizeOf148
  v233 := Tryd.zeroValue148
  g17 := by kernel_rfl
  g18 := by kernel_rfl
  g19 := by kernel_rfl }
open Go.RowKit Go.Sort Go.Lib in
/-- THE ROAD WITHOUT THE TABLE: 0 <= i < 100: two constants are read, nothing is laid: no premise on the world, and the world is as it was. (LAID: no walk: one application.) -/
theorem Tryd.internal_strconv_FormatInt_10_small (i : Nat) (hi : i < 100) (w : World) :
    Calls Tryd.prog 74 #[.int .i64 i, .int .i64 10] w fun e w' => e = .returned (.string ⟨(Lib.decDigits i).toArray⟩) ∧ w' = w := Any.internal_strconv_FormatInt_10_small Tryd.lays246 i hi w
def Tryd.laysM243_ren : Go.Shelf.Ren := ⟨fun | 243 => 57 | 246 => 74 | 283 => 92 | 284 => 93 | 285 => 94 | 286 => 95 | 129 => 116 | 317 => 115 | 318 => 117 | 319 => 118 | 320 => 119 | 337 => 130 | 338 => 131 | n => n, fun | 3 => 3 | 9 => 9 | 2 => 2 | 4 => 4 | 171 => 124 | 0 => 0 | 53 => 90 | 37 => 33 | 5 => 5 | 173 => 127 | 212 => 155 | 51 => 149 | 20 => 20 | 213 => 156 | 46 => 102 | 232 => 193 | 233 => 148 | n => n, fun | 17 => 6 | 18 => 12 | 19 => 13 | n => n⟩
theorem Tryd.laysM243 : Go.Proofs.LaysM.n243 Tryd.prog Tryd.laysM243_ren := {
  mixed := by kernel_rfl
  f129 := Tryd.func116.trans (congrArg some (by kernel_rfl))
  f243 := Tryd.func57.trans (congrArg some (by kernel_rfl))
  f246 := Tryd.func74.trans (congrArg some (by kernel_rfl))
  f283 := Tryd.func92.trans (congrArg some (by kernel_rfl))
  f284 := Tryd.func93.trans (congrArg some (by kernel_rfl))
  f285 := Tryd.func94.trans (congrArg some (by kernel_rfl))
  f286 := Tryd.func95.trans (congrArg some (by kernel_rfl))
  f317 := Tryd.func115.trans (congrArg some (by kernel_rfl))
  f318 := Tryd.func117.trans (congrArg some (by kernel_rfl))
  f319 := Tryd.func118.trans (congrArg some (by kernel_rfl))
  f320 := Tryd.func119.trans (congrArg some (by kernel_rfl))
  f337 := Tryd.func130.trans (congrArg some (by kernel_rfl))
  f338 := Tryd.func131.trans (congrArg some (by kernel_rfl))
  t0 := Tryd.underlying0
  a0 := Tryd.isAgg0
  z0 := Tryd.sizeOf0
  v0 := Tryd.zeroValue0
  t2 := Tryd.underlying2
  a2 := Tryd.isAgg2
  z2 := Tryd.sizeOf2
  v2 := Tryd.zeroValue2
  t3 := Tryd.underlying3
  a3 := Tryd.isAgg3
  z3 := Tryd.sizeOf3
  v3 := Tryd.zeroValue3
  t4 := Tryd.underlying4
  a4 := Tryd.isAgg4
  z4 := Tryd.sizeOf4
  v4 := Tryd.zeroValue4
  t5 := Tryd.underlying5
  a5 := Tryd.isAgg5
  z5 := Tryd.sizeOf5
  v5 := Tryd.zeroValue5
  t9 := Tryd.underlying9
  a9 := Tryd.isAgg9
  z9 := Tryd.sizeOf9
  v9 := Tryd.zeroValue9
  t20 := Tryd.underlying20
  a20 := Tryd.isAgg20
  z20 := Tryd.sizeOf20
  v20 := Tryd.zeroValue20
  t37 := Tryd.underlying33
  a37 := Tryd.isAgg33
  z37 := Tryd.sizeOf33
  v37 := Tryd.zeroValue33
  t46 := Tryd.underlying102
  a46 := Tryd.isAgg102
  z46 := Tryd.sizeOf102
  v46 := Tryd.zeroValue102
  t51 := Tryd.underlying149
  a51 := Tryd.isAgg149
  z51 := Tryd.sizeOf149
  v51 := Tryd.zeroValue149
  t53 := Tryd.underlying90
  a53 := Tryd.isAgg90
  z53 := Tryd.sizeOf90
  v53 := Tryd.zeroValue90
  t171 := Tryd.underlying124
  a171 := Tryd.isAgg124
  z171 := Tryd.sizeOf124
  v171 := Tryd.zeroValue124
  t173 := Tryd.underlying127
  a173 := Tryd.isAgg127
  z173 := Tryd.sizeOf127
  v173 := Tryd.zeroValue127
  t212 := Tryd.underlying155
  a212 := Tryd.isAgg155
  z212 := Tryd.sizeOf155
  v212 := Tryd.zeroValue155
  t213 := Tryd.underlying156
  a213 := Tryd.isAgg156
  z213 := Tryd.sizeOf156
  t232 := Tryd.underlying193
  a232 := Tryd.isAgg193
  z232 := Tryd.sizeOf193
  v232 := Tryd.zeroValue193
  t233 := Tryd.underlying148
  a233 := Tryd.isAgg148
  z233 := Tryd.sizeOf148
  v233 := Tryd.zeroValue148
  g17 := by kernel_rfl
  g18 := by kernel_rfl
  g19 := by kernel_rfl
  i0 := by kernel_rfl
  i2 := by kernel_rfl
  i3 := by kernel_rfl
  i4 := by kernel_rfl
  i5 := by kernel_rfl
  i9 := by kernel_rfl
  i20 := by kernel_rfl
  i37 := by kernel_rfl
  i46 := by kernel_rfl
  i51 := by kernel_rfl
  i53 := by kernel_rfl
  i171 := by kernel_rfl
  i173 := by kernel_rfl
  i212 := by kernel_rfl
  i232 := by kernel_rfl
  i233 := by kernel_rfl
  m17 := by kernel_rfl
  m18 := by kernel_rfl
  m19 := by kernel_rfl }
open Go.RowKit Go.Sort Go.Lib in
/-- internal/strconv.Itoa: "Itoa is equivalent to FormatInt(int64(i), 10).": i's decimal numeral, for every int. (LAID: no walk: one application.) -/
theorem Tryd.internal_strconv_Itoa (n : Int) (h0 : -9223372036854775808 ≤ n) (h1 : n ≤ 9223372036854775807) (w : World) (htab : Lib.TabIs Tryd.prog w "internal/strconv.uint64pow10" .u64 Lib.pow10Tab) :
    Calls Tryd.prog 57 #[.int .i64 n] w fun e w' => e = .returned (.string ⟨(Lib.itoa n).toArray⟩) ∧ ∃ k os, w' = grow (w.drewN k) os := Any.internal_strconv_Itoa Tryd.laysM243 n h0 h1 w htab
def Tryd.lays243_ren : Go.Shelf.Ren := ⟨fun | 243 => 57 | 246 => 74 | 283 => 92 | 284 => 93 | 285 => 94 | 286 => 95 | 129 => 116 | 317 => 115 | 318 => 117 | 319 => 118 | 320 => 119 | 337 => 130 | 338 => 131 | n => n, fun | 3 => 3 | 9 => 9 | 2 => 2 | 4 => 4 | 171 => 124 | 0 => 0 | 53 => 90 | 37 => 33 | 5 => 5 | 173 => 127 | 212 => 155 | 51 => 149 | 20 => 20 | 213 => 156 | 46 => 102 | 232 => 193 | 233 => 148 | n => n, fun | 17 => 6 | 18 => 12 | 19 => 13 | n => n⟩
theorem Tryd.lays243 : Go.Proofs.Lays.n243 Tryd.prog Tryd.lays243_ren := {
  mixed := by kernel_rfl
  f129 := Tryd.func116.trans (congrArg some (by kernel_rfl))
  f243 := Tryd.func57.trans (congrArg some (by kernel_rfl))
  f246 := Tryd.func74.trans (congrArg some (by kernel_rfl))
  f283 := Tryd.func92.trans (congrArg some (by kernel_rfl))
  f284 := Tryd.func93.trans (congrArg some (by kernel_rfl))
  f285 := Tryd.func94.trans (congrArg some (by kernel_rfl))
  f286 := Tryd.func95.trans (congrArg some (by kernel_rfl))
  f317 := Tryd.func115.trans (congrArg some (by kernel_rfl))
  f318 := Tryd.func117.trans (congrArg some (by kernel_rfl))
  f319 := Tryd.func118.trans (congrArg some (by kernel_rfl))
  f320 := Tryd.func119.trans (congrArg some (by kernel_rfl))
  f337 := Tryd.func130.trans (congrArg some (by kernel_rfl))
  f338 := Tryd.func131.trans (congrArg some (by kernel_rfl))
  t0 := Tryd.underlying0
  a0 := Tryd.isAgg0
  z0 := Tryd.sizeOf0
  v0 := Tryd.zeroValue0
  t2 := Tryd.underlying2
  a2 := Tryd.isAgg2
  z2 := Tryd.sizeOf2
  v2 := Tryd.zeroValue2
  t3 := Tryd.underlying3
  a3 := Tryd.isAgg3
  z3 := Tryd.sizeOf3
  v3 := Tryd.zeroValue3
  t4 := Tryd.underlying4
  a4 := Tryd.isAgg4
  z4 := Tryd.sizeOf4
  v4 := Tryd.zeroValue4
  t5 := Tryd.underlying5
  a5 := Tryd.isAgg5
  z5 := Tryd.sizeOf5
  v5 := Tryd.zeroValue5
  t9 := Tryd.underlying9
  a9 := Tryd.isAgg9
  z9 := Tryd.sizeOf9
  v9 := Tryd.zeroValue9
  t20 := Tryd.underlying20
  a20 := Tryd.isAgg20
  z20 := Tryd.sizeOf20
  v20 := Tryd.zeroValue20
  t37 := Tryd.underlying33
  a37 := Tryd.isAgg33
  z37 := Tryd.sizeOf33
  v37 := Tryd.zeroValue33
  t46 := Tryd.underlying102
  a46 := Tryd.isAgg102
  z46 := Tryd.sizeOf102
  v46 := Tryd.zeroValue102
  t51 := Tryd.underlying149
  a51 := Tryd.isAgg149
  z51 := Tryd.sizeOf149
  v51 := Tryd.zeroValue149
  t53 := Tryd.underlying90
  a53 := Tryd.isAgg90
  z53 := Tryd.sizeOf90
  v53 := Tryd.zeroValue90
  t171 := Tryd.underlying124
  a171 := Tryd.isAgg124
  z171 := Tryd.sizeOf124
  v171 := Tryd.zeroValue124
  t173 := Tryd.underlying127
  a173 := Tryd.isAgg127
  z173 := Tryd.sizeOf127
  v173 := Tryd.zeroValue127
  t212 := Tryd.underlying155
  a212 := Tryd.isAgg155
  z212 := Tryd.sizeOf155
  v212 := Tryd.zeroValue155
  t213 := Tryd.underlying156
  a213 := Tryd.isAgg156
  z213 := Tryd.sizeOf156
  t232 := Tryd.underlying193
  a232 := Tryd.isAgg193
  z232 := Tryd.sizeOf193
  v232 := Tryd.zeroValue193
  t233 := Tryd.underlying148
  a233 := Tryd.isAgg148
  z233 := Tryd.sizeOf148
  v233 := Tryd.zeroValue148
  g17 := by kernel_rfl
  g18 := by kernel_rfl
  g19 := by kernel_rfl }
open Go.RowKit Go.Sort Go.Lib in
/-- THE ROAD WITHOUT THE TABLE: 0 <= i < 100. (LAID: no walk: one application.) -/
theorem Tryd.internal_strconv_Itoa_small (i : Nat) (hi : i < 100) (w : World) :
    Calls Tryd.prog 57 #[.int .i64 i] w fun e w' => e = .returned (.string ⟨(Lib.decDigits i).toArray⟩) ∧ w' = w := Any.internal_strconv_Itoa_small Tryd.lays243 i hi w
def Tryd.laysM171_ren : Go.Shelf.Ren := ⟨fun | 171 => 33 | 243 => 57 | 246 => 74 | 283 => 92 | 284 => 93 | 285 => 94 | 286 => 95 | 129 => 116 | 317 => 115 | 318 => 117 | 319 => 118 | 320 => 119 | 337 => 130 | 338 => 131 | n => n, fun | 3 => 3 | 9 => 9 | 2 => 2 | 4 => 4 | 171 => 124 | 0 => 0 | 53 => 90 | 37 => 33 | 5 => 5 | 173 => 127 | 212 => 155 | 51 => 149 | 20 => 20 | 213 => 156 | 46 => 102 | 232 => 193 | 233 => 148 | n => n, fun | 17 => 6 | 18 => 12 | 19 => 13 | n => n⟩
theorem Tryd.laysM171 : Go.Proofs.LaysM.n171 Tryd.prog Tryd.laysM171_ren := {
  mixed := by kernel_rfl
  f129 := Tryd.func116.trans (congrArg some (by kernel_rfl))
  f171 := Tryd.func33.trans (congrArg some (by kernel_rfl))
  f243 := Tryd.func57.trans (congrArg some (by kernel_rfl))
  f246 := Tryd.func74.trans (congrArg some (by kernel_rfl))
  f283 := Tryd.func92.trans (congrArg some (by kernel_rfl))
  f284 := Tryd.func93.trans (congrArg some (by kernel_rfl))
  f285 := Tryd.func94.trans (congrArg some (by kernel_rfl))
  f286 := Tryd.func95.trans (congrArg some (by kernel_rfl))
  f317 := Tryd.func115.trans (congrArg some (by kernel_rfl))
  f318 := Tryd.func117.trans (congrArg some (by kernel_rfl))
  f319 := Tryd.func118.trans (congrArg some (by kernel_rfl))
  f320 := Tryd.func119.trans (congrArg some (by kernel_rfl))
  f337 := Tryd.func130.trans (congrArg some (by kernel_rfl))
  f338 := Tryd.func131.trans (congrArg some (by kernel_rfl))
  t0 := Tryd.underlying0
  a0 := Tryd.isAgg0
  z0 := Tryd.sizeOf0
  v0 := Tryd.zeroValue0
  t2 := Tryd.underlying2
  a2 := Tryd.isAgg2
  z2 := Tryd.sizeOf2
  v2 := Tryd.zeroValue2
  t3 := Tryd.underlying3
  a3 := Tryd.isAgg3
  z3 := Tryd.sizeOf3
  v3 := Tryd.zeroValue3
  t4 := Tryd.underlying4
  a4 := Tryd.isAgg4
  z4 := Tryd.sizeOf4
  v4 := Tryd.zeroValue4
  t5 := Tryd.underlying5
  a5 := Tryd.isAgg5
  z5 := Tryd.sizeOf5
  v5 := Tryd.zeroValue5
  t9 := Tryd.underlying9
  a9 := Tryd.isAgg9
  z9 := Tryd.sizeOf9
  v9 := Tryd.zeroValue9
  t20 := Tryd.underlying20
  a20 := Tryd.isAgg20
  z20 := Tryd.sizeOf20
  v20 := Tryd.zeroValue20
  t37 := Tryd.underlying33
  a37 := Tryd.isAgg33
  z37 := Tryd.sizeOf33
  v37 := Tryd.zeroValue33
  t46 := Tryd.underlying102
  a46 := Tryd.isAgg102
  z46 := Tryd.sizeOf102
  v46 := Tryd.zeroValue102
  t51 := Tryd.underlying149
  a51 := Tryd.isAgg149
  z51 := Tryd.sizeOf149
  v51 := Tryd.zeroValue149
  t53 := Tryd.underlying90
  a53 := Tryd.isAgg90
  z53 := Tryd.sizeOf90
  v53 := Tryd.zeroValue90
  t171 := Tryd.underlying124
  a171 := Tryd.isAgg124
  z171 := Tryd.sizeOf124
  v171 := Tryd.zeroValue124
  t173 := Tryd.underlying127
  a173 := Tryd.isAgg127
  z173 := Tryd.sizeOf127
  v173 := Tryd.zeroValue127
  t212 := Tryd.underlying155
  a212 := Tryd.isAgg155
  z212 := Tryd.sizeOf155
  v212 := Tryd.zeroValue155
  t213 := Tryd.underlying156
  a213 := Tryd.isAgg156
  z213 := Tryd.sizeOf156
  t232 := Tryd.underlying193
  a232 := Tryd.isAgg193
  z232 := Tryd.sizeOf193
  v232 := Tryd.zeroValue193
  t233 := Tryd.underlying148
  a233 := Tryd.isAgg148
  z233 := Tryd.sizeOf148
  v233 := Tryd.zeroValue148
  g17 := by kernel_rfl
  g18 := by kernel_rfl
  g19 := by kernel_rfl
  i0 := by kernel_rfl
  i2 := by kernel_rfl
  i3 := by kernel_rfl
  i4 := by kernel_rfl
  i5 := by kernel_rfl
  i9 := by kernel_rfl
  i20 := by kernel_rfl
  i37 := by kernel_rfl
  i46 := by kernel_rfl
  i51 := by kernel_rfl
  i53 := by kernel_rfl
  i171 := by kernel_rfl
  i173 := by kernel_rfl
  i212 := by kernel_rfl
  i232 := by kernel_rfl
  i233 := by kernel_rfl
  m17 := by kernel_rfl
  m18 := by kernel_rfl
  m19 := by kernel_rfl }
open Go.RowKit Go.Sort Go.Lib in
/-- strconv.Itoa: "Itoa is equivalent to FormatInt(int64(i), 10).": i's DECIMAL NUMERAL ('Lib.itoa': a '-' where i is negative, then the digits), FOR EVERY int. The world behind the call: the world before it, new blocks behind the heap (the library's 'var a [24]byte'), draws. (LAID: no walk: one application.) -/
theorem Tryd.strconv_Itoa (n : Int) (h0 : -9223372036854775808 ≤ n) (h1 : n ≤ 9223372036854775807) (w : World) (htab : Lib.TabIs Tryd.prog w "internal/strconv.uint64pow10" .u64 Lib.pow10Tab) :
    Calls Tryd.prog 33 #[.int .i64 n] w fun e w' => e = .returned (.string ⟨(Lib.itoa n).toArray⟩) ∧ ∃ k os, w' = grow (w.drewN k) os := Any.strconv_Itoa Tryd.laysM171 n h0 h1 w htab
def Tryd.lays171_ren : Go.Shelf.Ren := ⟨fun | 171 => 33 | 243 => 57 | 246 => 74 | 283 => 92 | 284 => 93 | 285 => 94 | 286 => 95 | 129 => 116 | 317 => 115 | 318 => 117 | 319 => 118 | 320 => 119 | 337 => 130 | 338 => 131 | n => n, fun | 3 => 3 | 9 => 9 | 2 => 2 | 4 => 4 | 171 => 124 | 0 => 0 | 53 => 90 | 37 => 33 | 5 => 5 | 173 => 127 | 212 => 155 | 51 => 149 | 20 => 20 | 213 => 156 | 46 => 102 | 232 => 193 | 233 => 148 | n => n, fun | 17 => 6 | 18 => 12 | 19 => 13 | n => n⟩
theorem Tryd.lays171 : Go.Proofs.Lays.n171 Tryd.prog Tryd.lays171_ren := {
  mixed := by kernel_rfl
  f129 := Tryd.func116.trans (congrArg some (by kernel_rfl))
  f171 := Tryd.func33.trans (congrArg some (by kernel_rfl))
  f243 := Tryd.func57.trans (congrArg some (by kernel_rfl))
  f246 := Tryd.func74.trans (congrArg some (by kernel_rfl))
  f283 := Tryd.func92.trans (congrArg some (by kernel_rfl))
  f284 := Tryd.func93.trans (congrArg some (by kernel_rfl))
  f285 := Tryd.func94.trans (congrArg some (by kernel_rfl))
  f286 := Tryd.func95.trans (congrArg some (by kernel_rfl))
  f317 := Tryd.func115.trans (congrArg some (by kernel_rfl))
  f318 := Tryd.func117.trans (congrArg some (by kernel_rfl))
  f319 := Tryd.func118.trans (congrArg some (by kernel_rfl))
  f320 := Tryd.func119.trans (congrArg some (by kernel_rfl))
  f337 := Tryd.func130.trans (congrArg some (by kernel_rfl))
  f338 := Tryd.func131.trans (congrArg some (by kernel_rfl))
  t0 := Tryd.underlying0
  a0 := Tryd.isAgg0
  z0 := Tryd.sizeOf0
  v0 := Tryd.zeroValue0
  t2 := Tryd.underlying2
  a2 := Tryd.isAgg2
  z2 := Tryd.sizeOf2
  v2 := Tryd.zeroValue2
  t3 := Tryd.underlying3
  a3 := Tryd.isAgg3
  z3 := Tryd.sizeOf3
  v3 := Tryd.zeroValue3
  t4 := Tryd.underlying4
  a4 := Tryd.isAgg4
  z4 := Tryd.sizeOf4
  v4 := Tryd.zeroValue4
  t5 := Tryd.underlying5
  a5 := Tryd.isAgg5
  z5 := Tryd.sizeOf5
  v5 := Tryd.zeroValue5
  t9 := Tryd.underlying9
  a9 := Tryd.isAgg9
  z9 := Tryd.sizeOf9
  v9 := Tryd.zeroValue9
  t20 := Tryd.underlying20
  a20 := Tryd.isAgg20
  z20 := Tryd.sizeOf20
  v20 := Tryd.zeroValue20
  t37 := Tryd.underlying33
  a37 := Tryd.isAgg33
  z37 := Tryd.sizeOf33
  v37 := Tryd.zeroValue33
  t46 := Tryd.underlying102
  a46 := Tryd.isAgg102
  z46 := Tryd.sizeOf102
  v46 := Tryd.zeroValue102
  t51 := Tryd.underlying149
  a51 := Tryd.isAgg149
  z51 := Tryd.sizeOf149
  v51 := Tryd.zeroValue149
  t53 := Tryd.underlying90
  a53 := Tryd.isAgg90
  z53 := Tryd.sizeOf90
  v53 := Tryd.zeroValue90
  t171 := Tryd.underlying124
  a171 := Tryd.isAgg124
  z171 := Tryd.sizeOf124
  v171 := Tryd.zeroValue124
  t173 := Tryd.underlying127
  a173 := Tryd.isAgg127
  z173 := Tryd.sizeOf127
  v173 := Tryd.zeroValue127
  t212 := Tryd.underlying155
  a212 := Tryd.isAgg155
  z212 := Tryd.sizeOf155
  v212 := Tryd.zeroValue155
  t213 := Tryd.underlying156
  a213 := Tryd.isAgg156
  z213 := Tryd.sizeOf156
  t232 := Tryd.underlying193
  a232 := Tryd.isAgg193
  z232 := Tryd.sizeOf193
  v232 := Tryd.zeroValue193
  t233 := Tryd.underlying148
  a233 := Tryd.isAgg148
  z233 := Tryd.sizeOf148
  v233 := Tryd.zeroValue148
  g17 := by kernel_rfl
  g18 := by kernel_rfl
  g19 := by kernel_rfl }
open Go.RowKit Go.Sort Go.Lib in
/-- THE ROAD WITHOUT THE TABLE: 0 <= i < 100: NO PREMISE ON THE WORLD, AND THE WORLD IS AS IT WAS: a row that keeps its argument in that range need list no table ('laid = []'). (LAID: no walk: one application.) -/
theorem Tryd.strconv_Itoa_small (i : Nat) (hi : i < 100) (w : World) :
    Calls Tryd.prog 33 #[.int .i64 i] w fun e w' => e = .returned (.string ⟨(Lib.decDigits i).toArray⟩) ∧ w' = w := Any.strconv_Itoa_small Tryd.lays171 i hi w
def Tryd.laysM316_ren : Go.Shelf.Ren := ⟨fun | 316 => 120 | n => n, fun | 9 => 9 | 3 => 3 | 4 => 4 | 37 => 33 | 0 => 0 | 127 => 142 | 5 => 5 | n => n, fun | n => n⟩
theorem Tryd.laysM316 : Go.Proofs.LaysM.n316 Tryd.prog Tryd.laysM316_ren := {
  mixed := by kernel_rfl
  f316 := Tryd.func120.trans (congrArg some (by kernel_rfl))
  t0 := Tryd.underlying0
  a0 := Tryd.isAgg0
  z0 := Tryd.sizeOf0
  v0 := Tryd.zeroValue0
  t3 := Tryd.underlying3
  a3 := Tryd.isAgg3
  z3 := Tryd.sizeOf3
  v3 := Tryd.zeroValue3
  t4 := Tryd.underlying4
  a4 := Tryd.isAgg4
  z4 := Tryd.sizeOf4
  v4 := Tryd.zeroValue4
  t9 := Tryd.underlying9
  a9 := Tryd.isAgg9
  z9 := Tryd.sizeOf9
  v9 := Tryd.zeroValue9
  t37 := Tryd.underlying33
  a37 := Tryd.isAgg33
  z37 := Tryd.sizeOf33
  v37 := Tryd.zeroValue33
  t127 := Tryd.underlying142
  a127 := Tryd.isAgg142
  z127 := Tryd.sizeOf142
  v127 := Tryd.zeroValue142
  t5 := Tryd.underlying5
  a5 := Tryd.isAgg5
  z5 := Tryd.sizeOf5
  v5 := Tryd.zeroValue5
  i0 := by kernel_rfl
  i3 := by kernel_rfl
  i4 := by kernel_rfl
  i5 := by kernel_rfl
  i9 := by kernel_rfl
  i37 := by kernel_rfl
  i127 := by kernel_rfl }
open Go.RowKit in
/-- internal/stringslite.Clone (what strings.Clone calls): "Clone returns a fresh copy of s.": THE SAME BYTES. Of what was there nothing has turned (a new row is laid, and frozen, where s is not empty). (LAID: no walk: one application.) -/
theorem Tryd.stringslite_Clone (s : ByteArray) (w : World) (hlim : s.size ≤ 281474976710656) :
    Calls Tryd.prog 120 #[.string s] w fun e w' => e = .returned (.string s) ∧ Below w.heap.size w w' := Any.stringslite_Clone Tryd.laysM316 s w hlim
def Tryd.laysM279_ren : Go.Shelf.Ren := ⟨fun | 279 => 98 | 316 => 120 | n => n, fun | 9 => 9 | 168 => 131 | 75 => 92 | 210 => 160 | 3 => 3 | 4 => 4 | 37 => 33 | 0 => 0 | 127 => 142 | 80 => 82 | 5 => 5 | n => n, fun | 15 => 7 | n => n⟩
theorem Tryd.laysM279 : Go.Proofs.LaysM.n279 Tryd.prog Tryd.laysM279_ren := {
  mixed := by kernel_rfl
  f279 := Tryd.func98.trans (congrArg some (by kernel_rfl))
  f316 := Tryd.func120.trans (congrArg some (by kernel_rfl))
  t0 := Tryd.underlying0
  a0 := Tryd.isAgg0
  z0 := Tryd.sizeOf0
  v0 := Tryd.zeroValue0
  t3 := Tryd.underlying3
  a3 := Tryd.isAgg3
  z3 := Tryd.sizeOf3
  v3 := Tryd.zeroValue3
  t4 := Tryd.underlying4
  a4 := Tryd.isAgg4
  z4 := Tryd.sizeOf4
  v4 := Tryd.zeroValue4
  t9 := Tryd.underlying9
  a9 := Tryd.isAgg9
  z9 := Tryd.sizeOf9
  v9 := Tryd.zeroValue9
  t37 := Tryd.underlying33
  a37 := Tryd.isAgg33
  z37 := Tryd.sizeOf33
  v37 := Tryd.zeroValue33
  t75 := Tryd.underlying92
  a75 := Tryd.isAgg92
  z75 := Tryd.sizeOf92
  v75 := Tryd.zeroValue92
  t127 := Tryd.underlying142
  a127 := Tryd.isAgg142
  z127 := Tryd.sizeOf142
  v127 := Tryd.zeroValue142
  t168 := Tryd.underlying131
  a168 := Tryd.isAgg131
  z168 := Tryd.sizeOf131
  v168 := Tryd.zeroValue131
  t210 := Tryd.underlying160
  a210 := Tryd.isAgg160
  z210 := Tryd.sizeOf160
  v210 := Tryd.zeroValue160
  g15 := by kernel_rfl
  t5 := Tryd.underlying5
  a5 := Tryd.isAgg5
  z5 := Tryd.sizeOf5
  v5 := Tryd.zeroValue5
  t80 := Tryd.underlying82
  a80 := Tryd.isAgg82
  z80 := Tryd.sizeOf82
  v80 := Tryd.zeroValue82
  i0 := by kernel_rfl
  i3 := by kernel_rfl
  i4 := by kernel_rfl
  i5 := by kernel_rfl
  i9 := by kernel_rfl
  i37 := by kernel_rfl
  i75 := by kernel_rfl
  i80 := by kernel_rfl
  i127 := by kernel_rfl
  i168 := by kernel_rfl
  i210 := by kernel_rfl
  m15 := by kernel_rfl }
open Go.RowKit in
/-- strconv.syntaxError: '&NumError{fn, stringslite.Clone(str), ErrSyntax}': A POINTER TO A NEW BLOCK that holds fn, str's bytes, and what the variable ErrSyntax holds. Of what was there nothing has turned. (LAID: no walk: one application.) -/
theorem Tryd.strconv_syntaxError (fn s : ByteArray) (ev : Value) (w : World) (hlim : s.size ≤ 281474976710656) (hv : w.cell? ⟨7, 0, none⟩ = some ev) (hev : ev = .nilIface ∨ ∃ te pe, ev = .iface te pe) :
    Calls Tryd.prog 98 #[.string fn, .string s] w fun e w' => ∃ N, e = .returned (.pointer (some ⟨N, 0, none⟩)) ∧ w.heap.size ≤ N ∧ w'.heap[N]? = some (.cells #[.string fn, .string s, ev] 160 (0, 0)) ∧ Below w.heap.size w w' := Any.strconv_syntaxError Tryd.laysM279 fn s ev w hlim hv hev
def Tryd.laysC245_ren : Go.Shelf.Ren := ⟨fun | 245 => 76 | 279 => 98 | 280 => 99 | 281 => 100 | 282 => 101 | 316 => 120 | 171 => 33 | 205 => 121 | 243 => 57 | 246 => 74 | 283 => 92 | 284 => 93 | 285 => 94 | 286 => 95 | 129 => 116 | 317 => 115 | 318 => 117 | 319 => 118 | 320 => 119 | 337 => 130 | 338 => 131 | n => n, fun | 9 => 9 | 3 => 3 | 75 => 92 | 167 => 129 | 4 => 4 | 168 => 131 | 210 => 160 | 37 => 33 | 0 => 0 | 127 => 142 | 145 => 189 | 143 => 187 | 2 => 2 | 171 => 124 | 53 => 90 | 5 => 5 | 173 => 127 | 212 => 155 | 51 => 149 | 20 => 20 | 213 => 156 | 46 => 102 | 232 => 193 | 233 => 148 | 80 => 82 | n => n, fun | 15 => 7 | 16 => 8 | 17 => 6 | 18 => 12 | 19 => 13 | n => n⟩
theorem Tryd.laysC245 : Go.Proofs.LaysC.n245 Tryd.prog Tryd.laysC245_ren := {
  mixed := by kernel_rfl
  f129 := Tryd.func116.trans (congrArg some (by kernel_rfl))
  f171 := Tryd.func33.trans (congrArg some (by kernel_rfl))
  f205 := Tryd.func121.trans (congrArg some (by kernel_rfl))
  f243 := Tryd.func57.trans (congrArg some (by kernel_rfl))
  f245 := Tryd.func76.trans (congrArg some (by kernel_rfl))
  f246 := Tryd.func74.trans (congrArg some (by kernel_rfl))
  f279 := Tryd.func98.trans (congrArg some (by kernel_rfl))
  f280 := Tryd.func99.trans (congrArg some (by kernel_rfl))
  f281 := Tryd.func100.trans (congrArg some (by kernel_rfl))
  f282 := Tryd.func101.trans (congrArg some (by kernel_rfl))
  f283 := Tryd.func92.trans (congrArg some (by kernel_rfl))
  f284 := Tryd.func93.trans (congrArg some (by kernel_rfl))
  f285 := Tryd.func94.trans (congrArg some (by kernel_rfl))
  f286 := Tryd.func95.trans (congrArg some (by kernel_rfl))
  f316 := Tryd.func120.trans (congrArg some (by kernel_rfl))
  f317 := Tryd.func115.trans (congrArg some (by kernel_rfl))
  f318 := Tryd.func117.trans (congrArg some (by kernel_rfl))
  f319 := Tryd.func118.trans (congrArg some (by kernel_rfl))
  f320 := Tryd.func119.trans (congrArg some (by kernel_rfl))
  f337 := Tryd.func130.trans (congrArg some (by kernel_rfl))
  f338 := Tryd.func131.trans (congrArg some (by kernel_rfl))
  t0 := Tryd.underlying0
  a0 := Tryd.isAgg0
  z0 := Tryd.sizeOf0
  v0 := Tryd.zeroValue0
  t2 := Tryd.underlying2
  a2 := Tryd.isAgg2
  z2 := Tryd.sizeOf2
  v2 := Tryd.zeroValue2
  t3 := Tryd.underlying3
  a3 := Tryd.isAgg3
  z3 := Tryd.sizeOf3
  v3 := Tryd.zeroValue3
  t4 := Tryd.underlying4
  a4 := Tryd.isAgg4
  z4 := Tryd.sizeOf4
  v4 := Tryd.zeroValue4
  t5 := Tryd.underlying5
  a5 := Tryd.isAgg5
  z5 := Tryd.sizeOf5
  v5 := Tryd.zeroValue5
  t9 := Tryd.underlying9
  a9 := Tryd.isAgg9
  z9 := Tryd.sizeOf9
  v9 := Tryd.zeroValue9
  t20 := Tryd.underlying20
  a20 := Tryd.isAgg20
  z20 := Tryd.sizeOf20
  v20 := Tryd.zeroValue20
  t37 := Tryd.underlying33
  a37 := Tryd.isAgg33
  z37 := Tryd.sizeOf33
  v37 := Tryd.zeroValue33
  t46 := Tryd.underlying102
  a46 := Tryd.isAgg102
  z46 := Tryd.sizeOf102
  v46 := Tryd.zeroValue102
  t51 := Tryd.underlying149
  a51 := Tryd.isAgg149
  z51 := Tryd.sizeOf149
  v51 := Tryd.zeroValue149
  t53 := Tryd.underlying90
  a53 := Tryd.isAgg90
  z53 := Tryd.sizeOf90
  v53 := Tryd.zeroValue90
  t75 := Tryd.underlying92
  a75 := Tryd.isAgg92
  z75 := Tryd.sizeOf92
  v75 := Tryd.zeroValue92
  t127 := Tryd.underlying142
  a127 := Tryd.isAgg142
  z127 := Tryd.sizeOf142
  v127 := Tryd.zeroValue142
  t143 := Tryd.underlying187
  a143 := Tryd.isAgg187
  z143 := Tryd.sizeOf187
  v143 := Tryd.zeroValue187
  t145 := Tryd.underlying189
  a145 := Tryd.isAgg189
  z145 := Tryd.sizeOf189
  v145 := Tryd.zeroValue189
  t167 := Tryd.underlying129
  a167 := Tryd.isAgg129
  z167 := Tryd.sizeOf129
  v167 := Tryd.zeroValue129
  t168 := Tryd.underlying131
  a168 := Tryd.isAgg131
  z168 := Tryd.sizeOf131
  v168 := Tryd.zeroValue131
  t171 := Tryd.underlying124
  a171 := Tryd.isAgg124
  z171 := Tryd.sizeOf124
  v171 := Tryd.zeroValue124
  t173 := Tryd.underlying127
  a173 := Tryd.isAgg127
  z173 := Tryd.sizeOf127
  v173 := Tryd.zeroValue127
  t210 := Tryd.underlying160
  a210 := Tryd.isAgg160
  z210 := Tryd.sizeOf160
  v210 := Tryd.zeroValue160
  t212 := Tryd.underlying155
  a212 := Tryd.isAgg155
  z212 := Tryd.sizeOf155
  v212 := Tryd.zeroValue155
  t213 := Tryd.underlying156
  a213 := Tryd.isAgg156
  z213 := Tryd.sizeOf156
  t232 := Tryd.underlying193
  a232 := Tryd.isAgg193
  z232 := Tryd.sizeOf193
  v232 := Tryd.zeroValue193
  t233 := Tryd.underlying148
  a233 := Tryd.isAgg148
  z233 := Tryd.sizeOf148
  v233 := Tryd.zeroValue148
  g15 := by kernel_rfl
  g16 := by kernel_rfl
  g17 := by kernel_rfl
  g18 := by kernel_rfl
  g19 := by kernel_rfl
  t80 := Tryd.underlying82
  a80 := Tryd.isAgg82
  z80 := Tryd.sizeOf82
  v80 := Tryd.zeroValue82
  i0 := by kernel_rfl
  i2 := by kernel_rfl
  i3 := by kernel_rfl
  i4 := by kernel_rfl
  i5 := by kernel_rfl
  i9 := by kernel_rfl
  i20 := by kernel_rfl
  i37 := by kernel_rfl
  i46 := by kernel_rfl
  i51 := by kernel_rfl
  i53 := by kernel_rfl
  i75 := by kernel_rfl
  i80 := by kernel_rfl
  i127 := by kernel_rfl
  i143 := by kernel_rfl
  i145 := by kernel_rfl
  i167 := by kernel_rfl
  i168 := by kernel_rfl
  i171 := by kernel_rfl
  i173 := by kernel_rfl
  i210 := by kernel_rfl
  i212 := by kernel_rfl
  i232 := by kernel_rfl
  i233 := by kernel_rfl
  m15 := by kernel_rfl
  m16 := by kernel_rfl
  m17 := by kernel_rfl
  m18 := by kernel_rfl
  m19 := by kernel_rfl
  c0 := by kernel_rfl
  c2 := by kernel_rfl
  c3 := by kernel_rfl
  c4 := by kernel_rfl
  c5 := by kernel_rfl
  c9 := by kernel_rfl
  c20 := by kernel_rfl
  c37 := by kernel_rfl
  c46 := by kernel_rfl
  c51 := by kernel_rfl
  c53 := by kernel_rfl
  c75 := by kernel_rfl
  c80 := by kernel_rfl
  c127 := by kernel_rfl
  c143 := by kernel_rfl
  c145 := by kernel_rfl
  c167 := by kernel_rfl
  c168 := by kernel_rfl
  c171 := by kernel_rfl
  c173 := by kernel_rfl
  c210 := by kernel_rfl
  c212 := by kernel_rfl
  c213 := by kernel_rfl
  c232 := by kernel_rfl
  c233 := by kernel_rfl }
open Go.RowKit in
/-- strconv.toError, at the inner package's ErrSyntax: 'syntaxError(fn, s)' as an error: A *NumError IN A NEW BLOCK. (LAID: no walk: one application.) -/
theorem Tryd.strconv_toError_syntax (fn s : ByteArray) (base bits : Int) (ev : Value) (w : World) (hlim : s.size ≤ 281474976710656) (hv : w.cell? ⟨7, 0, none⟩ = some ev) (hev : ev = .nilIface ∨ ∃ te pe, ev = .iface te pe) :
    Calls Tryd.prog 76 #[.string fn, .string s, .int .i64 base, .int .i64 bits, .iface 129 (.int .i64 2)] w fun e w' => ∃ N, e = .returned (.iface 131 (.pointer (some ⟨N, 0, none⟩))) ∧ w.heap.size ≤ N ∧ w'.heap[N]? = some (.cells #[.string fn, .string s, ev] 160 (0, 0)) ∧ Below w.heap.size w w' := Any.strconv_toError_syntax Tryd.laysC245 fn s base bits ev w hlim hv hev
def Tryd.lays321_ren : Go.Shelf.Ren := ⟨fun | 321 => 96 | n => n, fun | 5 => 5 | n => n, fun | n => n⟩
theorem Tryd.lays321 : Go.Proofs.Lays.n321 Tryd.prog Tryd.lays321_ren := {
  mixed := by kernel_rfl
  f321 := Tryd.func96.trans (congrArg some (by kernel_rfl))
  t5 := Tryd.underlying5
  a5 := Tryd.isAgg5
  z5 := Tryd.sizeOf5
  v5 := Tryd.zeroValue5 }
open Go.RowKit in
/-- internal/strconv.lower: 'c | ('x' - 'X')': the bit 32 set. The world is as it was. (LAID: no walk: one application.) -/
theorem Tryd.internal_strconv_lower (c : Int) (w : World) :
    Calls Tryd.prog 96 #[.int .u8 c] w fun e w' => e = .returned (.int .u8 (bits .or .u8 c 32)) ∧ w' = w := Any.internal_strconv_lower Tryd.lays321 c w
def Tryd.lays287_ren : Go.Shelf.Ren := ⟨fun | 287 => 75 | 321 => 96 | 322 => 97 | n => n, fun | 9 => 9 | 3 => 3 | 53 => 90 | 75 => 92 | 4 => 4 | 167 => 129 | 5 => 5 | 46 => 102 | 37 => 33 | 0 => 0 | 21 => 21 | 80 => 82 | n => n, fun | n => n⟩
theorem Tryd.lays287 : Go.Proofs.Lays.n287 Tryd.prog Tryd.lays287_ren := {
  mixed := by kernel_rfl
  f287 := Tryd.func75.trans (congrArg some (by kernel_rfl))
  f321 := Tryd.func96.trans (congrArg some (by kernel_rfl))
  f322 := Tryd.func97.trans (congrArg some (by kernel_rfl))
  t0 := Tryd.underlying0
  a0 := Tryd.isAgg0
  z0 := Tryd.sizeOf0
  v0 := Tryd.zeroValue0
  t3 := Tryd.underlying3
  a3 := Tryd.isAgg3
  z3 := Tryd.sizeOf3
  v3 := Tryd.zeroValue3
  t4 := Tryd.underlying4
  a4 := Tryd.isAgg4
  z4 := Tryd.sizeOf4
  v4 := Tryd.zeroValue4
  t5 := Tryd.underlying5
  a5 := Tryd.isAgg5
  z5 := Tryd.sizeOf5
  v5 := Tryd.zeroValue5
  t9 := Tryd.underlying9
  a9 := Tryd.isAgg9
  z9 := Tryd.sizeOf9
  v9 := Tryd.zeroValue9
  t21 := Tryd.underlying21
  a21 := Tryd.isAgg21
  z21 := Tryd.sizeOf21
  v21 := Tryd.zeroValue21
  t37 := Tryd.underlying33
  a37 := Tryd.isAgg33
  z37 := Tryd.sizeOf33
  v37 := Tryd.zeroValue33
  t46 := Tryd.underlying102
  a46 := Tryd.isAgg102
  z46 := Tryd.sizeOf102
  v46 := Tryd.zeroValue102
  t53 := Tryd.underlying90
  a53 := Tryd.isAgg90
  z53 := Tryd.sizeOf90
  v53 := Tryd.zeroValue90
  t75 := Tryd.underlying92
  a75 := Tryd.isAgg92
  z75 := Tryd.sizeOf92
  v75 := Tryd.zeroValue92
  t167 := Tryd.underlying129
  a167 := Tryd.isAgg129
  z167 := Tryd.sizeOf129
  v167 := Tryd.zeroValue129 }
open Go.RowKit in
/-- internal/strconv.ParseUint(s, 10, 0), s NOT EMPTY: 'Lib.parseUint10 0' OF ITS BYTES: the number; or (0, ErrSyntax); or (the greatest uint64, ErrRange). The world behind the call: the one new row that '[]byte(s)' lays. (LAID: no walk: one application.) -/
theorem Tryd.internal_strconv_ParseUint_10 (t : ByteArray) (hne : t.size ≠ 0) (hmax : t.size ≤ 9223372036854775806) (w : World) :
    Calls Tryd.prog 75 #[.string t, .int .i64 10, .int .i64 0] w fun e w' => e = .returned (Lib.uintTuple 129 (Lib.parseUint10 0 t.data.toList)) ∧ w' = Lib.bytesWorld w 5 t := Any.internal_strconv_ParseUint_10 Tryd.lays287 t hne hmax w
open Go.RowKit in
/-- internal/strconv.ParseUint("", 10, 0): (0, ErrSyntax). The world is as it was. (LAID: no walk: one application.) -/
theorem Tryd.internal_strconv_ParseUint_10_empty (w : World) :
    Calls Tryd.prog 75 #[.string ⟨#[]⟩, .int .i64 10, .int .i64 0] w fun e w' => e = .returned (Lib.uintTuple 129 .syntax) ∧ w' = w := Any.internal_strconv_ParseUint_10_empty Tryd.lays287 w
open Go.RowKit in
/-- internal/strconv.ParseUint(s, 10, 0): 'Lib.parseMag' OF ITS BYTES. The world: as it was (the empty string), or with the one new row that '[]byte(s)' lays. (LAID: no walk: one application.) -/
theorem Tryd.internal_strconv_ParseUint_10_any (t : ByteArray) (hmax : t.size ≤ 9223372036854775806) (w : World) :
    Calls Tryd.prog 75 #[.string t, .int .i64 10, .int .i64 0] w fun e w' => e = .returned (Lib.uintTuple 129 (Lib.parseMag t.data.toList)) ∧ (w' = w ∨ w' = Lib.bytesWorld w 5 t) := Any.internal_strconv_ParseUint_10_any Tryd.lays287 t hmax w
def Tryd.laysM280_ren : Go.Shelf.Ren := ⟨fun | 280 => 99 | 316 => 120 | n => n, fun | 9 => 9 | 168 => 131 | 75 => 92 | 210 => 160 | 3 => 3 | 4 => 4 | 37 => 33 | 0 => 0 | 127 => 142 | 80 => 82 | 5 => 5 | n => n, fun | 16 => 8 | n => n⟩
theorem Tryd.laysM280 : Go.Proofs.LaysM.n280 Tryd.prog Tryd.laysM280_ren := {
  mixed := by kernel_rfl
  f280 := Tryd.func99.trans (congrArg some (by kernel_rfl))
  f316 := Tryd.func120.trans (congrArg some (by kernel_rfl))
  t0 := Tryd.underlying0
  a0 := Tryd.isAgg0
  z0 := Tryd.sizeOf0
  v0 := Tryd.zeroValue0
  t3 := Tryd.underlying3
  a3 := Tryd.isAgg3
  z3 := Tryd.sizeOf3
  v3 := Tryd.zeroValue3
  t4 := Tryd.underlying4
  a4 := Tryd.isAgg4
  z4 := Tryd.sizeOf4
  v4 := Tryd.zeroValue4
  t9 := Tryd.underlying9
  a9 := Tryd.isAgg9
  z9 := Tryd.sizeOf9
  v9 := Tryd.zeroValue9
  t37 := Tryd.underlying33
  a37 := Tryd.isAgg33
  z37 := Tryd.sizeOf33
  v37 := Tryd.zeroValue33
  t75 := Tryd.underlying92
  a75 := Tryd.isAgg92
  z75 := Tryd.sizeOf92
  v75 := Tryd.zeroValue92
  t127 := Tryd.underlying142
  a127 := Tryd.isAgg142
  z127 := Tryd.sizeOf142
  v127 := Tryd.zeroValue142
  t168 := Tryd.underlying131
  a168 := Tryd.isAgg131
  z168 := Tryd.sizeOf131
  v168 := Tryd.zeroValue131
  t210 := Tryd.underlying160
  a210 := Tryd.isAgg160
  z210 := Tryd.sizeOf160
  v210 := Tryd.zeroValue160
  g16 := by kernel_rfl
  t5 := Tryd.underlying5
  a5 := Tryd.isAgg5
  z5 := Tryd.sizeOf5
  v5 := Tryd.zeroValue5
  t80 := Tryd.underlying82
  a80 := Tryd.isAgg82
  z80 := Tryd.sizeOf82
  v80 := Tryd.zeroValue82
  i0 := by kernel_rfl
  i3 := by kernel_rfl
  i4 := by kernel_rfl
  i5 := by kernel_rfl
  i9 := by kernel_rfl
  i37 := by kernel_rfl
  i75 := by kernel_rfl
  i80 := by kernel_rfl
  i127 := by kernel_rfl
  i168 := by kernel_rfl
  i210 := by kernel_rfl
  m16 := by kernel_rfl }
open Go.RowKit in
/-- strconv.rangeError: '&NumError{fn, stringslite.Clone(str), ErrRange}': A POINTER TO A NEW BLOCK that holds fn, str's bytes, and what the variable ErrRange holds. Of what was there nothing has turned. (LAID: no walk: one application.) -/
theorem Tryd.strconv_rangeError (fn s : ByteArray) (ev : Value) (w : World) (hlim : s.size ≤ 281474976710656) (hv : w.cell? ⟨8, 0, none⟩ = some ev) (hev : ev = .nilIface ∨ ∃ te pe, ev = .iface te pe) :
    Calls Tryd.prog 99 #[.string fn, .string s] w fun e w' => ∃ N, e = .returned (.pointer (some ⟨N, 0, none⟩)) ∧ w.heap.size ≤ N ∧ w'.heap[N]? = some (.cells #[.string fn, .string s, ev] 160 (0, 0)) ∧ Below w.heap.size w w' := Any.strconv_rangeError Tryd.laysM280 fn s ev w hlim hv hev
open Go.RowKit in
/-- strconv.toError, at the inner package's ErrRange: 'rangeError(fn, s)' as an error: A *NumError IN A NEW BLOCK. (LAID: no walk: one application.) -/
theorem Tryd.strconv_toError_range (fn s : ByteArray) (base bits : Int) (ev : Value) (w : World) (hlim : s.size ≤ 281474976710656) (hv : w.cell? ⟨8, 0, none⟩ = some ev) (hev : ev = .nilIface ∨ ∃ te pe, ev = .iface te pe) :
    Calls Tryd.prog 76 #[.string fn, .string s, .int .i64 base, .int .i64 bits, .iface 129 (.int .i64 1)] w fun e w' => ∃ N, e = .returned (.iface 131 (.pointer (some ⟨N, 0, none⟩))) ∧ w.heap.size ≤ N ∧ w'.heap[N]? = some (.cells #[.string fn, .string s, ev] 160 (0, 0)) ∧ Below w.heap.size w w' := Any.strconv_toError_range Tryd.laysC245 fn s base bits ev w hlim hv hev
open Go.RowKit in
/-- internal/strconv.ParseUint("", base, bitSize): (0, ErrSyntax): the first test of the text. The world is as it was. (LAID: no walk: one application.) -/
theorem Tryd.internal_strconv_ParseUint_empty (base bits : Int) (w : World) :
    Calls Tryd.prog 75 #[.string ⟨#[]⟩, .int .i64 base, .int .i64 bits] w fun e w' => e = .returned (.tuple #[.int .u64 0, .iface 129 (.int .i64 2)]) ∧ w' = w := Any.internal_strconv_ParseUint_empty Tryd.lays287 base bits w
open Go.RowKit in
/-- internal/strconv.ParseUint(s, 10, 64), s NOT EMPTY: 'Lib.parseUint10 0' OF ITS BYTES: the number; or (0, ErrSyntax); or (the greatest uint64, ErrRange). The world behind the call: the one new row that '[]byte(s)' lays. (LAID: no walk: one application.) -/
theorem Tryd.internal_strconv_ParseUint_10_b64 (t : ByteArray) (hne : t.size ≠ 0) (hmax : t.size ≤ 9223372036854775806) (w : World) :
    Calls Tryd.prog 75 #[.string t, .int .i64 10, .int .i64 64] w fun e w' => e = .returned (Lib.uintTuple 129 (Lib.parseUint10 0 t.data.toList)) ∧ w' = Lib.bytesWorld w 5 t := Any.internal_strconv_ParseUint_10_b64 Tryd.lays287 t hne hmax w
open Go.RowKit in
/-- internal/strconv.ParseUint(s, 10, 32), s NOT EMPTY: 'Lib.parseUintM 4294967295 0' OF ITS BYTES: the number; or (0, ErrSyntax); or (the greatest uint32, ErrRange). The world behind the call: the one new row that '[]byte(s)' lays. (LAID: no walk: one application.) -/
theorem Tryd.internal_strconv_ParseUint_10_b32 (t : ByteArray) (hne : t.size ≠ 0) (hmax : t.size ≤ 9223372036854775806) (w : World) :
    Calls Tryd.prog 75 #[.string t, .int .i64 10, .int .i64 32] w fun e w' => e = .returned (Lib.uintTupleM 129 4294967295 (Lib.parseUintM 4294967295 0 t.data.toList)) ∧ w' = Lib.bytesWorld w 5 t := Any.internal_strconv_ParseUint_10_b32 Tryd.lays287 t hne hmax w
open Go.RowKit in
/-- internal/strconv.ParseUint(s, 10, 16), s NOT EMPTY: 'Lib.parseUintM 65535 0' OF ITS BYTES: the number; or (0, ErrSyntax); or (the greatest uint16, ErrRange). The world behind the call: the one new row that '[]byte(s)' lays. (LAID: no walk: one application.) -/
theorem Tryd.internal_strconv_ParseUint_10_b16 (t : ByteArray) (hne : t.size ≠ 0) (hmax : t.size ≤ 9223372036854775806) (w : World) :
    Calls Tryd.prog 75 #[.string t, .int .i64 10, .int .i64 16] w fun e w' => e = .returned (Lib.uintTupleM 129 65535 (Lib.parseUintM 65535 0 t.data.toList)) ∧ w' = Lib.bytesWorld w 5 t := Any.internal_strconv_ParseUint_10_b16 Tryd.lays287 t hne hmax w
open Go.RowKit in
/-- internal/strconv.ParseUint(s, 10, 8), s NOT EMPTY: 'Lib.parseUintM 255 0' OF ITS BYTES: the number; or (0, ErrSyntax); or (the greatest uint8, ErrRange). The world behind the call: the one new row that '[]byte(s)' lays. (LAID: no walk: one application.) -/
theorem Tryd.internal_strconv_ParseUint_10_b8 (t : ByteArray) (hne : t.size ≠ 0) (hmax : t.size ≤ 9223372036854775806) (w : World) :
    Calls Tryd.prog 75 #[.string t, .int .i64 10, .int .i64 8] w fun e w' => e = .returned (Lib.uintTupleM 129 255 (Lib.parseUintM 255 0 t.data.toList)) ∧ w' = Lib.bytesWorld w 5 t := Any.internal_strconv_ParseUint_10_b8 Tryd.lays287 t hne hmax w
open Go.RowKit in
/-- internal/strconv.ParseUint(s, 10, 0): 'Lib.parseUintB 64' OF ITS BYTES. The world: as it was (the empty string), or with the one new row that '[]byte(s)' lays. (LAID: no walk: one application.) -/
theorem Tryd.internal_strconv_ParseUint_10_at0 (t : ByteArray) (hmax : t.size ≤ 9223372036854775806) (w : World) :
    Calls Tryd.prog 75 #[.string t, .int .i64 10, .int .i64 0] w fun e w' => e = .returned (Lib.uintTupleM 129 18446744073709551615 (Lib.parseUintB 64 t.data.toList)) ∧ (w' = w ∨ w' = Lib.bytesWorld w 5 t) := Any.internal_strconv_ParseUint_10_at0 Tryd.lays287 t hmax w
open Go.RowKit in
/-- internal/strconv.ParseUint(s, 10, 64): 'Lib.parseUintB 64' OF ITS BYTES. The world: as it was (the empty string), or with the one new row that '[]byte(s)' lays. (LAID: no walk: one application.) -/
theorem Tryd.internal_strconv_ParseUint_10_at64 (t : ByteArray) (hmax : t.size ≤ 9223372036854775806) (w : World) :
    Calls Tryd.prog 75 #[.string t, .int .i64 10, .int .i64 64] w fun e w' => e = .returned (Lib.uintTupleM 129 18446744073709551615 (Lib.parseUintB 64 t.data.toList)) ∧ (w' = w ∨ w' = Lib.bytesWorld w 5 t) := Any.internal_strconv_ParseUint_10_at64 Tryd.lays287 t hmax w
open Go.RowKit in
/-- internal/strconv.ParseUint(s, 10, 32): 'Lib.parseUintB 32' OF ITS BYTES. The world: as it was (the empty string), or with the one new row that '[]byte(s)' lays. (LAID: no walk: one application.) -/
theorem Tryd.internal_strconv_ParseUint_10_at32 (t : ByteArray) (hmax : t.size ≤ 9223372036854775806) (w : World) :
    Calls Tryd.prog 75 #[.string t, .int .i64 10, .int .i64 32] w fun e w' => e = .returned (Lib.uintTupleM 129 4294967295 (Lib.parseUintB 32 t.data.toList)) ∧ (w' = w ∨ w' = Lib.bytesWorld w 5 t) := Any.internal_strconv_ParseUint_10_at32 Tryd.lays287 t hmax w
open Go.RowKit in
/-- internal/strconv.ParseUint(s, 10, 16): 'Lib.parseUintB 16' OF ITS BYTES. The world: as it was (the empty string), or with the one new row that '[]byte(s)' lays. (LAID: no walk: one application.) -/
theorem Tryd.internal_strconv_ParseUint_10_at16 (t : ByteArray) (hmax : t.size ≤ 9223372036854775806) (w : World) :
    Calls Tryd.prog 75 #[.string t, .int .i64 10, .int .i64 16] w fun e w' => e = .returned (Lib.uintTupleM 129 65535 (Lib.parseUintB 16 t.data.toList)) ∧ (w' = w ∨ w' = Lib.bytesWorld w 5 t) := Any.internal_strconv_ParseUint_10_at16 Tryd.lays287 t hmax w
open Go.RowKit in
/-- internal/strconv.ParseUint(s, 10, 8): 'Lib.parseUintB 8' OF ITS BYTES. The world: as it was (the empty string), or with the one new row that '[]byte(s)' lays. (LAID: no walk: one application.) -/
theorem Tryd.internal_strconv_ParseUint_10_at8 (t : ByteArray) (hmax : t.size ≤ 9223372036854775806) (w : World) :
    Calls Tryd.prog 75 #[.string t, .int .i64 10, .int .i64 8] w fun e w' => e = .returned (Lib.uintTupleM 129 255 (Lib.parseUintB 8 t.data.toList)) ∧ (w' = w ∨ w' = Lib.bytesWorld w 5 t) := Any.internal_strconv_ParseUint_10_at8 Tryd.lays287 t hmax w
def Tryd.laysPu14_ren : Go.Shelf.Ren := ⟨fun | 14 => 61 | 16 => 75 | 17 => 76 | 19 => 96 | 20 => 97 | 21 => 98 | 22 => 99 | 23 => 100 | 24 => 101 | 25 => 120 | 27 => 33 | 26 => 121 | 28 => 57 | 29 => 74 | 30 => 92 | 31 => 93 | 32 => 94 | 33 => 95 | 35 => 116 | 34 => 115 | 36 => 117 | 37 => 118 | 38 => 119 | 39 => 130 | 40 => 131 | n => n, fun | 9 => 9 | 3 => 3 | 22 => 90 | 24 => 92 | 25 => 93 | 4 => 4 | 34 => 129 | 5 => 5 | 36 => 102 | 37 => 33 | 0 => 0 | 39 => 131 | 21 => 21 | 44 => 160 | 47 => 142 | 50 => 189 | 48 => 187 | 2 => 2 | 52 => 124 | 55 => 127 | 59 => 155 | 60 => 149 | 20 => 20 | 61 => 156 | 65 => 193 | 66 => 148 | 67 => 82 | n => n, fun | 0 => 7 | 1 => 8 | 2 => 6 | 3 => 12 | 4 => 13 | n => n⟩
theorem Tryd.laysPu14 : Go.Proofs.LaysPu.n14 Tryd.prog Tryd.laysPu14_ren := {
  mixed := by kernel_rfl
  f14 := Tryd.func61.trans (congrArg some (by kernel_rfl))
  f16 := Tryd.func75.trans (congrArg some (by kernel_rfl))
  f17 := Tryd.func76.trans (congrArg some (by kernel_rfl))
  f19 := Tryd.func96.trans (congrArg some (by kernel_rfl))
  f20 := Tryd.func97.trans (congrArg some (by kernel_rfl))
  f21 := Tryd.func98.trans (congrArg some (by kernel_rfl))
  f22 := Tryd.func99.trans (congrArg some (by kernel_rfl))
  f23 := Tryd.func100.trans (congrArg some (by kernel_rfl))
  f24 := Tryd.func101.trans (congrArg some (by kernel_rfl))
  f25 := Tryd.func120.trans (congrArg some (by kernel_rfl))
  f26 := Tryd.func121.trans (congrArg some (by kernel_rfl))
  f27 := Tryd.func33.trans (congrArg some (by kernel_rfl))
  f28 := Tryd.func57.trans (congrArg some (by kernel_rfl))
  f29 := Tryd.func74.trans (congrArg some (by kernel_rfl))
  f30 := Tryd.func92.trans (congrArg some (by kernel_rfl))
  f31 := Tryd.func93.trans (congrArg some (by kernel_rfl))
  f32 := Tryd.func94.trans (congrArg some (by kernel_rfl))
  f33 := Tryd.func95.trans (congrArg some (by kernel_rfl))
  f34 := Tryd.func115.trans (congrArg some (by kernel_rfl))
  f35 := Tryd.func116.trans (congrArg some (by kernel_rfl))
  f36 := Tryd.func117.trans (congrArg some (by kernel_rfl))
  f37 := Tryd.func118.trans (congrArg some (by kernel_rfl))
  f38 := Tryd.func119.trans (congrArg some (by kernel_rfl))
  f39 := Tryd.func130.trans (congrArg some (by kernel_rfl))
  f40 := Tryd.func131.trans (congrArg some (by kernel_rfl))
  t0 := Tryd.underlying0
  a0 := Tryd.isAgg0
  z0 := Tryd.sizeOf0
  v0 := Tryd.zeroValue0
  i0 := by kernel_rfl
  t2 := Tryd.underlying2
  a2 := Tryd.isAgg2
  z2 := Tryd.sizeOf2
  v2 := Tryd.zeroValue2
  i2 := by kernel_rfl
  t3 := Tryd.underlying3
  a3 := Tryd.isAgg3
  z3 := Tryd.sizeOf3
  v3 := Tryd.zeroValue3
  i3 := by kernel_rfl
  t4 := Tryd.underlying4
  a4 := Tryd.isAgg4
  z4 := Tryd.sizeOf4
  v4 := Tryd.zeroValue4
  i4 := by kernel_rfl
  t5 := Tryd.underlying5
  a5 := Tryd.isAgg5
  z5 := Tryd.sizeOf5
  v5 := Tryd.zeroValue5
  i5 := by kernel_rfl
  t9 := Tryd.underlying9
  a9 := Tryd.isAgg9
  z9 := Tryd.sizeOf9
  v9 := Tryd.zeroValue9
  i9 := by kernel_rfl
  t20 := Tryd.underlying20
  a20 := Tryd.isAgg20
  z20 := Tryd.sizeOf20
  v20 := Tryd.zeroValue20
  i20 := by kernel_rfl
  t21 := Tryd.underlying21
  a21 := Tryd.isAgg21
  z21 := Tryd.sizeOf21
  v21 := Tryd.zeroValue21
  i21 := by kernel_rfl
  t22 := Tryd.underlying90
  a22 := Tryd.isAgg90
  z22 := Tryd.sizeOf90
  v22 := Tryd.zeroValue90
  i22 := by kernel_rfl
  t24 := Tryd.underlying92
  a24 := Tryd.isAgg92
  z24 := Tryd.sizeOf92
  v24 := Tryd.zeroValue92
  i24 := by kernel_rfl
  t25 := Tryd.underlying93
  a25 := Tryd.isAgg93
  z25 := Tryd.sizeOf93
  v25 := Tryd.zeroValue93
  i25 := by kernel_rfl
  t34 := Tryd.underlying129
  a34 := Tryd.isAgg129
  z34 := Tryd.sizeOf129
  v34 := Tryd.zeroValue129
  i34 := by kernel_rfl
  c34 := by kernel_rfl
  t36 := Tryd.underlying102
  a36 := Tryd.isAgg102
  z36 := Tryd.sizeOf102
  v36 := Tryd.zeroValue102
  i36 := by kernel_rfl
  t37 := Tryd.underlying33
  a37 := Tryd.isAgg33
  z37 := Tryd.sizeOf33
  v37 := Tryd.zeroValue33
  i37 := by kernel_rfl
  t39 := Tryd.underlying131
  a39 := Tryd.isAgg131
  z39 := Tryd.sizeOf131
  v39 := Tryd.zeroValue131
  i39 := by kernel_rfl
  t44 := Tryd.underlying160
  a44 := Tryd.isAgg160
  z44 := Tryd.sizeOf160
  v44 := Tryd.zeroValue160
  i44 := by kernel_rfl
  t47 := Tryd.underlying142
  a47 := Tryd.isAgg142
  z47 := Tryd.sizeOf142
  v47 := Tryd.zeroValue142
  i47 := by kernel_rfl
  t48 := Tryd.underlying187
  a48 := Tryd.isAgg187
  z48 := Tryd.sizeOf187
  v48 := Tryd.zeroValue187
  i48 := by kernel_rfl
  t50 := Tryd.underlying189
  a50 := Tryd.isAgg189
  z50 := Tryd.sizeOf189
  v50 := Tryd.zeroValue189
  i50 := by kernel_rfl
  t52 := Tryd.underlying124
  a52 := Tryd.isAgg124
  z52 := Tryd.sizeOf124
  v52 := Tryd.zeroValue124
  i52 := by kernel_rfl
  t55 := Tryd.underlying127
  a55 := Tryd.isAgg127
  z55 := Tryd.sizeOf127
  v55 := Tryd.zeroValue127
  i55 := by kernel_rfl
  t59 := Tryd.underlying155
  a59 := Tryd.isAgg155
  z59 := Tryd.sizeOf155
  v59 := Tryd.zeroValue155
  i59 := by kernel_rfl
  t60 := Tryd.underlying149
  a60 := Tryd.isAgg149
  z60 := Tryd.sizeOf149
  v60 := Tryd.zeroValue149
  i60 := by kernel_rfl
  t61 := Tryd.underlying156
  a61 := Tryd.isAgg156
  z61 := Tryd.sizeOf156
  t65 := Tryd.underlying193
  a65 := Tryd.isAgg193
  z65 := Tryd.sizeOf193
  v65 := Tryd.zeroValue193
  i65 := by kernel_rfl
  t66 := Tryd.underlying148
  a66 := Tryd.isAgg148
  z66 := Tryd.sizeOf148
  v66 := Tryd.zeroValue148
  i66 := by kernel_rfl
  t67 := Tryd.underlying82
  a67 := Tryd.isAgg82
  z67 := Tryd.sizeOf82
  v67 := Tryd.zeroValue82
  i67 := by kernel_rfl
  g0 := by kernel_rfl
  m0 := by kernel_rfl
  g1 := by kernel_rfl
  m1 := by kernel_rfl
  g2 := by kernel_rfl
  m2 := by kernel_rfl
  g3 := by kernel_rfl
  m3 := by kernel_rfl
  g4 := by kernel_rfl
  m4 := by kernel_rfl }
open Go.RowKit in
/-- strconv.ParseUint(s, 10, 0), AT EVERY STRING THAT SPELLS A uint64 ('Lib.parseUintB 64 s.data.toList = .ok u'): u, AND NO ERROR. (LAID: no walk: one application.) -/
theorem Tryd.strconv_ParseUint_10_at0_ok (s : ByteArray) (hmax : s.size ≤ 9223372036854775806) (u : Nat) (h : Lib.parseUintB 64 s.data.toList = .ok u) (w : World) :
    Calls Tryd.prog 61 #[.string s, .int .i64 10, .int .i64 0] w fun e w' => e = .returned (.tuple #[.int .u64 u, .nilIface]) ∧ (w' = w ∨ w' = Lib.bytesWorld w 5 s) := Any.strconv_ParseUint_10_at0_ok Tryd.laysPu14 s hmax u h w
open Go.RowKit in
/-- strconv.ParseUint(s, 10, 0), AT EVERY STRING THAT IS NO ROW OF DECIMAL DIGITS (a sign is a fault): 0, AND AN ERROR THAT IS NOT nil: a *NumError in a new block N: {Func: "ParseUint", Num: s's bytes, Err: what the variable ErrSyntax holds}. Of what was there nothing has turned. (LAID: no walk: one application.) -/
theorem Tryd.strconv_ParseUint_10_at0_syntax (s : ByteArray) (hlim : s.size ≤ 281474976710656) (h : Lib.parseUintB 64 s.data.toList = .«syntax») (ev : Value) (w : World) (hv : w.cell? ⟨7, 0, none⟩ = some ev) (hev : ev = .nilIface ∨ ∃ te pe, ev = .iface te pe) :
    Calls Tryd.prog 61 #[.string s, .int .i64 10, .int .i64 0] w fun e w' => ∃ N, e = .returned (.tuple #[.int .u64 0, .iface 131 (.pointer (some ⟨N, 0, none⟩))]) ∧ w.heap.size ≤ N ∧ w'.heap[N]? = some (.cells #[.string ⟨#[80, 97, 114, 115, 101, 85, 105, 110, 116]⟩, .string s, ev] 160 (0, 0)) ∧ Below w.heap.size w w' := Any.strconv_ParseUint_10_at0_syntax Tryd.laysPu14 s hlim h ev w hv hev
open Go.RowKit in
/-- strconv.ParseUint(s, 10, 0), AT EVERY NUMERAL THAT NO uint64 HOLDS: THE GREATEST uint64, AND AN ERROR THAT IS NOT nil: a *NumError in a new block N: {Func: "ParseUint", Num: s's bytes, Err: what the variable ErrRange holds}. Of what was there nothing has turned. (LAID: no walk: one application.) -/
theorem Tryd.strconv_ParseUint_10_at0_range (s : ByteArray) (hlim : s.size ≤ 281474976710656) (h : Lib.parseUintB 64 s.data.toList = .range) (ev : Value) (w : World) (hv : w.cell? ⟨8, 0, none⟩ = some ev) (hev : ev = .nilIface ∨ ∃ te pe, ev = .iface te pe) :
    Calls Tryd.prog 61 #[.string s, .int .i64 10, .int .i64 0] w fun e w' => ∃ N, e = .returned (.tuple #[.int .u64 18446744073709551615, .iface 131 (.pointer (some ⟨N, 0, none⟩))]) ∧ w.heap.size ≤ N ∧ w'.heap[N]? = some (.cells #[.string ⟨#[80, 97, 114, 115, 101, 85, 105, 110, 116]⟩, .string s, ev] 160 (0, 0)) ∧ Below w.heap.size w w' := Any.strconv_ParseUint_10_at0_range Tryd.laysPu14 s hlim h ev w hv hev
open Go.RowKit in
/-- strconv.ParseUint(s, 10, 64), AT EVERY STRING THAT SPELLS A uint64 ('Lib.parseUintB 64 s.data.toList = .ok u'): u, AND NO ERROR. (LAID: no walk: one application.) -/
theorem Tryd.strconv_ParseUint_10_at64_ok (s : ByteArray) (hmax : s.size ≤ 9223372036854775806) (u : Nat) (h : Lib.parseUintB 64 s.data.toList = .ok u) (w : World) :
    Calls Tryd.prog 61 #[.string s, .int .i64 10, .int .i64 64] w fun e w' => e = .returned (.tuple #[.int .u64 u, .nilIface]) ∧ (w' = w ∨ w' = Lib.bytesWorld w 5 s) := Any.strconv_ParseUint_10_at64_ok Tryd.laysPu14 s hmax u h w
open Go.RowKit in
/-- strconv.ParseUint(s, 10, 64), AT EVERY STRING THAT IS NO ROW OF DECIMAL DIGITS (a sign is a fault): 0, AND AN ERROR THAT IS NOT nil: a *NumError in a new block N: {Func: "ParseUint", Num: s's bytes, Err: what the variable ErrSyntax holds}. Of what was there nothing has turned. (LAID: no walk: one application.) -/
theorem Tryd.strconv_ParseUint_10_at64_syntax (s : ByteArray) (hlim : s.size ≤ 281474976710656) (h : Lib.parseUintB 64 s.data.toList = .«syntax») (ev : Value) (w : World) (hv : w.cell? ⟨7, 0, none⟩ = some ev) (hev : ev = .nilIface ∨ ∃ te pe, ev = .iface te pe) :
    Calls Tryd.prog 61 #[.string s, .int .i64 10, .int .i64 64] w fun e w' => ∃ N, e = .returned (.tuple #[.int .u64 0, .iface 131 (.pointer (some ⟨N, 0, none⟩))]) ∧ w.heap.size ≤ N ∧ w'.heap[N]? = some (.cells #[.string ⟨#[80, 97, 114, 115, 101, 85, 105, 110, 116]⟩, .string s, ev] 160 (0, 0)) ∧ Below w.heap.size w w' := Any.strconv_ParseUint_10_at64_syntax Tryd.laysPu14 s hlim h ev w hv hev
open Go.RowKit in
/-- strconv.ParseUint(s, 10, 64), AT EVERY NUMERAL THAT NO uint64 HOLDS: THE GREATEST uint64, AND AN ERROR THAT IS NOT nil: a *NumError in a new block N: {Func: "ParseUint", Num: s's bytes, Err: what the variable ErrRange holds}. Of what was there nothing has turned. (LAID: no walk: one application.) -/
theorem Tryd.strconv_ParseUint_10_at64_range (s : ByteArray) (hlim : s.size ≤ 281474976710656) (h : Lib.parseUintB 64 s.data.toList = .range) (ev : Value) (w : World) (hv : w.cell? ⟨8, 0, none⟩ = some ev) (hev : ev = .nilIface ∨ ∃ te pe, ev = .iface te pe) :
    Calls Tryd.prog 61 #[.string s, .int .i64 10, .int .i64 64] w fun e w' => ∃ N, e = .returned (.tuple #[.int .u64 18446744073709551615, .iface 131 (.pointer (some ⟨N, 0, none⟩))]) ∧ w.heap.size ≤ N ∧ w'.heap[N]? = some (.cells #[.string ⟨#[80, 97, 114, 115, 101, 85, 105, 110, 116]⟩, .string s, ev] 160 (0, 0)) ∧ Below w.heap.size w w' := Any.strconv_ParseUint_10_at64_range Tryd.laysPu14 s hlim h ev w hv hev
open Go.RowKit in
/-- strconv.ParseUint(s, 10, 32), AT EVERY STRING THAT SPELLS A uint32 ('Lib.parseUintB 32 s.data.toList = .ok u'): u, AND NO ERROR. (LAID: no walk: one application.) -/
theorem Tryd.strconv_ParseUint_10_at32_ok (s : ByteArray) (hmax : s.size ≤ 9223372036854775806) (u : Nat) (h : Lib.parseUintB 32 s.data.toList = .ok u) (w : World) :
    Calls Tryd.prog 61 #[.string s, .int .i64 10, .int .i64 32] w fun e w' => e = .returned (.tuple #[.int .u64 u, .nilIface]) ∧ (w' = w ∨ w' = Lib.bytesWorld w 5 s) := Any.strconv_ParseUint_10_at32_ok Tryd.laysPu14 s hmax u h w
open Go.RowKit in
/-- strconv.ParseUint(s, 10, 32), AT EVERY STRING THAT IS NO ROW OF DECIMAL DIGITS (a sign is a fault): 0, AND AN ERROR THAT IS NOT nil: a *NumError in a new block N: {Func: "ParseUint", Num: s's bytes, Err: what the variable ErrSyntax holds}. Of what was there nothing has turned. (LAID: no walk: one application.) -/
theorem Tryd.strconv_ParseUint_10_at32_syntax (s : ByteArray) (hlim : s.size ≤ 281474976710656) (h : Lib.parseUintB 32 s.data.toList = .«syntax») (ev : Value) (w : World) (hv : w.cell? ⟨7, 0, none⟩ = some ev) (hev : ev = .nilIface ∨ ∃ te pe, ev = .iface te pe) :
    Calls Tryd.prog 61 #[.string s, .int .i64 10, .int .i64 32] w fun e w' => ∃ N, e = .returned (.tuple #[.int .u64 0, .iface 131 (.pointer (some ⟨N, 0, none⟩))]) ∧ w.heap.size ≤ N ∧ w'.heap[N]? = some (.cells #[.string ⟨#[80, 97, 114, 115, 101, 85, 105, 110, 116]⟩, .string s, ev] 160 (0, 0)) ∧ Below w.heap.size w w' := Any.strconv_ParseUint_10_at32_syntax Tryd.laysPu14 s hlim h ev w hv hev
open Go.RowKit in
/-- strconv.ParseUint(s, 10, 32), AT EVERY NUMERAL THAT NO uint32 HOLDS: THE GREATEST uint32, AND AN ERROR THAT IS NOT nil: a *NumError in a new block N: {Func: "ParseUint", Num: s's bytes, Err: what the variable ErrRange holds}. Of what was there nothing has turned. (LAID: no walk: one application.) -/
theorem Tryd.strconv_ParseUint_10_at32_range (s : ByteArray) (hlim : s.size ≤ 281474976710656) (h : Lib.parseUintB 32 s.data.toList = .range) (ev : Value) (w : World) (hv : w.cell? ⟨8, 0, none⟩ = some ev) (hev : ev = .nilIface ∨ ∃ te pe, ev = .iface te pe) :
    Calls Tryd.prog 61 #[.string s, .int .i64 10, .int .i64 32] w fun e w' => ∃ N, e = .returned (.tuple #[.int .u64 4294967295, .iface 131 (.pointer (some ⟨N, 0, none⟩))]) ∧ w.heap.size ≤ N ∧ w'.heap[N]? = some (.cells #[.string ⟨#[80, 97, 114, 115, 101, 85, 105, 110, 116]⟩, .string s, ev] 160 (0, 0)) ∧ Below w.heap.size w w' := Any.strconv_ParseUint_10_at32_range Tryd.laysPu14 s hlim h ev w hv hev
open Go.RowKit in
/-- strconv.ParseUint(s, 10, 16), AT EVERY STRING THAT SPELLS A uint16 ('Lib.parseUintB 16 s.data.toList = .ok u'): u, AND NO ERROR. (LAID: no walk: one application.) -/
theorem Tryd.strconv_ParseUint_10_at16_ok (s : ByteArray) (hmax : s.size ≤ 9223372036854775806) (u : Nat) (h : Lib.parseUintB 16 s.data.toList = .ok u) (w : World) :
    Calls Tryd.prog 61 #[.string s, .int .i64 10, .int .i64 16] w fun e w' => e = .returned (.tuple #[.int .u64 u, .nilIface]) ∧ (w' = w ∨ w' = Lib.bytesWorld w 5 s) := Any.strconv_ParseUint_10_at16_ok Tryd.laysPu14 s hmax u h w
open Go.RowKit in
/-- strconv.ParseUint(s, 10, 16), AT EVERY STRING THAT IS NO ROW OF DECIMAL DIGITS (a sign is a fault): 0, AND AN ERROR THAT IS NOT nil: a *NumError in a new block N: {Func: "ParseUint", Num: s's bytes, Err: what the variable ErrSyntax holds}. Of what was there nothing has turned. (LAID: no walk: one application.) -/
theorem Tryd.strconv_ParseUint_10_at16_syntax (s : ByteArray) (hlim : s.size ≤ 281474976710656) (h : Lib.parseUintB 16 s.data.toList = .«syntax») (ev : Value) (w : World) (hv : w.cell? ⟨7, 0, none⟩ = some ev) (hev : ev = .nilIface ∨ ∃ te pe, ev = .iface te pe) :
    Calls Tryd.prog 61 #[.string s, .int .i64 10, .int .i64 16] w fun e w' => ∃ N, e = .returned (.tuple #[.int .u64 0, .iface 131 (.pointer (some ⟨N, 0, none⟩))]) ∧ w.heap.size ≤ N ∧ w'.heap[N]? = some (.cells #[.string ⟨#[80, 97, 114, 115, 101, 85, 105, 110, 116]⟩, .string s, ev] 160 (0, 0)) ∧ Below w.heap.size w w' := Any.strconv_ParseUint_10_at16_syntax Tryd.laysPu14 s hlim h ev w hv hev
open Go.RowKit in
/-- strconv.ParseUint(s, 10, 16), AT EVERY NUMERAL THAT NO uint16 HOLDS: THE GREATEST uint16, AND AN ERROR THAT IS NOT nil: a *NumError in a new block N: {Func: "ParseUint", Num: s's bytes, Err: what the variable ErrRange holds}. Of what was there nothing has turned. (LAID: no walk: one application.) -/
theorem Tryd.strconv_ParseUint_10_at16_range (s : ByteArray) (hlim : s.size ≤ 281474976710656) (h : Lib.parseUintB 16 s.data.toList = .range) (ev : Value) (w : World) (hv : w.cell? ⟨8, 0, none⟩ = some ev) (hev : ev = .nilIface ∨ ∃ te pe, ev = .iface te pe) :
    Calls Tryd.prog 61 #[.string s, .int .i64 10, .int .i64 16] w fun e w' => ∃ N, e = .returned (.tuple #[.int .u64 65535, .iface 131 (.pointer (some ⟨N, 0, none⟩))]) ∧ w.heap.size ≤ N ∧ w'.heap[N]? = some (.cells #[.string ⟨#[80, 97, 114, 115, 101, 85, 105, 110, 116]⟩, .string s, ev] 160 (0, 0)) ∧ Below w.heap.size w w' := Any.strconv_ParseUint_10_at16_range Tryd.laysPu14 s hlim h ev w hv hev
open Go.RowKit in
/-- strconv.ParseUint(s, 10, 8), AT EVERY STRING THAT SPELLS A uint8 ('Lib.parseUintB 8 s.data.toList = .ok u'): u, AND NO ERROR. (LAID: no walk: one application.) -/
theorem Tryd.strconv_ParseUint_10_at8_ok (s : ByteArray) (hmax : s.size ≤ 9223372036854775806) (u : Nat) (h : Lib.parseUintB 8 s.data.toList = .ok u) (w : World) :
    Calls Tryd.prog 61 #[.string s, .int .i64 10, .int .i64 8] w fun e w' => e = .returned (.tuple #[.int .u64 u, .nilIface]) ∧ (w' = w ∨ w' = Lib.bytesWorld w 5 s) := Any.strconv_ParseUint_10_at8_ok Tryd.laysPu14 s hmax u h w
open Go.RowKit in
/-- strconv.ParseUint(s, 10, 8), AT EVERY STRING THAT IS NO ROW OF DECIMAL DIGITS (a sign is a fault): 0, AND AN ERROR THAT IS NOT nil: a *NumError in a new block N: {Func: "ParseUint", Num: s's bytes, Err: what the variable ErrSyntax holds}. Of what was there nothing has turned. (LAID: no walk: one application.) -/
theorem Tryd.strconv_ParseUint_10_at8_syntax (s : ByteArray) (hlim : s.size ≤ 281474976710656) (h : Lib.parseUintB 8 s.data.toList = .«syntax») (ev : Value) (w : World) (hv : w.cell? ⟨7, 0, none⟩ = some ev) (hev : ev = .nilIface ∨ ∃ te pe, ev = .iface te pe) :
    Calls Tryd.prog 61 #[.string s, .int .i64 10, .int .i64 8] w fun e w' => ∃ N, e = .returned (.tuple #[.int .u64 0, .iface 131 (.pointer (some ⟨N, 0, none⟩))]) ∧ w.heap.size ≤ N ∧ w'.heap[N]? = some (.cells #[.string ⟨#[80, 97, 114, 115, 101, 85, 105, 110, 116]⟩, .string s, ev] 160 (0, 0)) ∧ Below w.heap.size w w' := Any.strconv_ParseUint_10_at8_syntax Tryd.laysPu14 s hlim h ev w hv hev
open Go.RowKit in
/-- strconv.ParseUint(s, 10, 8), AT EVERY NUMERAL THAT NO uint8 HOLDS: THE GREATEST uint8, AND AN ERROR THAT IS NOT nil: a *NumError in a new block N: {Func: "ParseUint", Num: s's bytes, Err: what the variable ErrRange holds}. Of what was there nothing has turned. (LAID: no walk: one application.) -/
theorem Tryd.strconv_ParseUint_10_at8_range (s : ByteArray) (hlim : s.size ≤ 281474976710656) (h : Lib.parseUintB 8 s.data.toList = .range) (ev : Value) (w : World) (hv : w.cell? ⟨8, 0, none⟩ = some ev) (hev : ev = .nilIface ∨ ∃ te pe, ev = .iface te pe) :
    Calls Tryd.prog 61 #[.string s, .int .i64 10, .int .i64 8] w fun e w' => ∃ N, e = .returned (.tuple #[.int .u64 255, .iface 131 (.pointer (some ⟨N, 0, none⟩))]) ∧ w.heap.size ≤ N ∧ w'.heap[N]? = some (.cells #[.string ⟨#[80, 97, 114, 115, 101, 85, 105, 110, 116]⟩, .string s, ev] 160 (0, 0)) ∧ Below w.heap.size w w' := Any.strconv_ParseUint_10_at8_range Tryd.laysPu14 s hlim h ev w hv hev
open Go.RowKit in
theorem Tryd.strconv_ParseUint_10_at0_syntax_var (s : ByteArray) (hlim : s.size ≤ 281474976710656) (h : Lib.parseUintB 64 s.data.toList = .«syntax») (tp : TypeId) (p : Value) (w : World) (hvar : w.var? Tryd.prog "strconv.ErrSyntax" = some #[.iface tp p]) :
    Calls Tryd.prog 61 #[.string s, .int .i64 10, .int .i64 0] w fun e w' => ∃ N, e = .returned (.tuple #[.int .u64 0, .iface 131 (.pointer (some ⟨N, 0, none⟩))]) ∧ w.heap.size ≤ N ∧ w'.heap[N]? = some (.cells #[.string ⟨#[80, 97, 114, 115, 101, 85, 105, 110, 116]⟩, .string s, .iface tp p] 160 (0, 0)) ∧ Below w.heap.size w w' := Any.strconv_ParseUint_10_at0_syntax_var Tryd.laysPu14 s hlim h tp p w hvar
open Go.RowKit in
theorem Tryd.strconv_ParseUint_10_at0_range_var (s : ByteArray) (hlim : s.size ≤ 281474976710656) (h : Lib.parseUintB 64 s.data.toList = .range) (tp : TypeId) (p : Value) (w : World) (hvar : w.var? Tryd.prog "strconv.ErrRange" = some #[.iface tp p]) :
    Calls Tryd.prog 61 #[.string s, .int .i64 10, .int .i64 0] w fun e w' => ∃ N, e = .returned (.tuple #[.int .u64 18446744073709551615, .iface 131 (.pointer (some ⟨N, 0, none⟩))]) ∧ w.heap.size ≤ N ∧ w'.heap[N]? = some (.cells #[.string ⟨#[80, 97, 114, 115, 101, 85, 105, 110, 116]⟩, .string s, .iface tp p] 160 (0, 0)) ∧ Below w.heap.size w w' := Any.strconv_ParseUint_10_at0_range_var Tryd.laysPu14 s hlim h tp p w hvar
open Go.RowKit in
theorem Tryd.strconv_ParseUint_10_at64_syntax_var (s : ByteArray) (hlim : s.size ≤ 281474976710656) (h : Lib.parseUintB 64 s.data.toList = .«syntax») (tp : TypeId) (p : Value) (w : World) (hvar : w.var? Tryd.prog "strconv.ErrSyntax" = some #[.iface tp p]) :
    Calls Tryd.prog 61 #[.string s, .int .i64 10, .int .i64 64] w fun e w' => ∃ N, e = .returned (.tuple #[.int .u64 0, .iface 131 (.pointer (some ⟨N, 0, none⟩))]) ∧ w.heap.size ≤ N ∧ w'.heap[N]? = some (.cells #[.string ⟨#[80, 97, 114, 115, 101, 85, 105, 110, 116]⟩, .string s, .iface tp p] 160 (0, 0)) ∧ Below w.heap.size w w' := Any.strconv_ParseUint_10_at64_syntax_var Tryd.laysPu14 s hlim h tp p w hvar
open Go.RowKit in
theorem Tryd.strconv_ParseUint_10_at64_range_var (s : ByteArray) (hlim : s.size ≤ 281474976710656) (h : Lib.parseUintB 64 s.data.toList = .range) (tp : TypeId) (p : Value) (w : World) (hvar : w.var? Tryd.prog "strconv.ErrRange" = some #[.iface tp p]) :
    Calls Tryd.prog 61 #[.string s, .int .i64 10, .int .i64 64] w fun e w' => ∃ N, e = .returned (.tuple #[.int .u64 18446744073709551615, .iface 131 (.pointer (some ⟨N, 0, none⟩))]) ∧ w.heap.size ≤ N ∧ w'.heap[N]? = some (.cells #[.string ⟨#[80, 97, 114, 115, 101, 85, 105, 110, 116]⟩, .string s, .iface tp p] 160 (0, 0)) ∧ Below w.heap.size w w' := Any.strconv_ParseUint_10_at64_range_var Tryd.laysPu14 s hlim h tp p w hvar
open Go.RowKit in
theorem Tryd.strconv_ParseUint_10_at32_syntax_var (s : ByteArray) (hlim : s.size ≤ 281474976710656) (h : Lib.parseUintB 32 s.data.toList = .«syntax») (tp : TypeId) (p : Value) (w : World) (hvar : w.var? Tryd.prog "strconv.ErrSyntax" = some #[.iface tp p]) :
    Calls Tryd.prog 61 #[.string s, .int .i64 10, .int .i64 32] w fun e w' => ∃ N, e = .returned (.tuple #[.int .u64 0, .iface 131 (.pointer (some ⟨N, 0, none⟩))]) ∧ w.heap.size ≤ N ∧ w'.heap[N]? = some (.cells #[.string ⟨#[80, 97, 114, 115, 101, 85, 105, 110, 116]⟩, .string s, .iface tp p] 160 (0, 0)) ∧ Below w.heap.size w w' := Any.strconv_ParseUint_10_at32_syntax_var Tryd.laysPu14 s hlim h tp p w hvar
open Go.RowKit in
theorem Tryd.strconv_ParseUint_10_at32_range_var (s : ByteArray) (hlim : s.size ≤ 281474976710656) (h : Lib.parseUintB 32 s.data.toList = .range) (tp : TypeId) (p : Value) (w : World) (hvar : w.var? Tryd.prog "strconv.ErrRange" = some #[.iface tp p]) :
    Calls Tryd.prog 61 #[.string s, .int .i64 10, .int .i64 32] w fun e w' => ∃ N, e = .returned (.tuple #[.int .u64 4294967295, .iface 131 (.pointer (some ⟨N, 0, none⟩))]) ∧ w.heap.size ≤ N ∧ w'.heap[N]? = some (.cells #[.string ⟨#[80, 97, 114, 115, 101, 85, 105, 110, 116]⟩, .string s, .iface tp p] 160 (0, 0)) ∧ Below w.heap.size w w' := Any.strconv_ParseUint_10_at32_range_var Tryd.laysPu14 s hlim h tp p w hvar
open Go.RowKit in
theorem Tryd.strconv_ParseUint_10_at16_syntax_var (s : ByteArray) (hlim : s.size ≤ 281474976710656) (h : Lib.parseUintB 16 s.data.toList = .«syntax») (tp : TypeId) (p : Value) (w : World) (hvar : w.var? Tryd.prog "strconv.ErrSyntax" = some #[.iface tp p]) :
    Calls Tryd.prog 61 #[.string s, .int .i64 10, .int .i64 16] w fun e w' => ∃ N, e = .returned (.tuple #[.int .u64 0, .iface 131 (.pointer (some ⟨N, 0, none⟩))]) ∧ w.heap.size ≤ N ∧ w'.heap[N]? = some (.cells #[.string ⟨#[80, 97, 114, 115, 101, 85, 105, 110, 116]⟩, .string s, .iface tp p] 160 (0, 0)) ∧ Below w.heap.size w w' := Any.strconv_ParseUint_10_at16_syntax_var Tryd.laysPu14 s hlim h tp p w hvar
open Go.RowKit in
theorem Tryd.strconv_ParseUint_10_at16_range_var (s : ByteArray) (hlim : s.size ≤ 281474976710656) (h : Lib.parseUintB 16 s.data.toList = .range) (tp : TypeId) (p : Value) (w : World) (hvar : w.var? Tryd.prog "strconv.ErrRange" = some #[.iface tp p]) :
    Calls Tryd.prog 61 #[.string s, .int .i64 10, .int .i64 16] w fun e w' => ∃ N, e = .returned (.tuple #[.int .u64 65535, .iface 131 (.pointer (some ⟨N, 0, none⟩))]) ∧ w.heap.size ≤ N ∧ w'.heap[N]? = some (.cells #[.string ⟨#[80, 97, 114, 115, 101, 85, 105, 110, 116]⟩, .string s, .iface tp p] 160 (0, 0)) ∧ Below w.heap.size w w' := Any.strconv_ParseUint_10_at16_range_var Tryd.laysPu14 s hlim h tp p w hvar
open Go.RowKit in
theorem Tryd.strconv_ParseUint_10_at8_syntax_var (s : ByteArray) (hlim : s.size ≤ 281474976710656) (h : Lib.parseUintB 8 s.data.toList = .«syntax») (tp : TypeId) (p : Value) (w : World) (hvar : w.var? Tryd.prog "strconv.ErrSyntax" = some #[.iface tp p]) :
    Calls Tryd.prog 61 #[.string s, .int .i64 10, .int .i64 8] w fun e w' => ∃ N, e = .returned (.tuple #[.int .u64 0, .iface 131 (.pointer (some ⟨N, 0, none⟩))]) ∧ w.heap.size ≤ N ∧ w'.heap[N]? = some (.cells #[.string ⟨#[80, 97, 114, 115, 101, 85, 105, 110, 116]⟩, .string s, .iface tp p] 160 (0, 0)) ∧ Below w.heap.size w w' := Any.strconv_ParseUint_10_at8_syntax_var Tryd.laysPu14 s hlim h tp p w hvar
open Go.RowKit in
theorem Tryd.strconv_ParseUint_10_at8_range_var (s : ByteArray) (hlim : s.size ≤ 281474976710656) (h : Lib.parseUintB 8 s.data.toList = .range) (tp : TypeId) (p : Value) (w : World) (hvar : w.var? Tryd.prog "strconv.ErrRange" = some #[.iface tp p]) :
    Calls Tryd.prog 61 #[.string s, .int .i64 10, .int .i64 8] w fun e w' => ∃ N, e = .returned (.tuple #[.int .u64 255, .iface 131 (.pointer (some ⟨N, 0, none⟩))]) ∧ w.heap.size ≤ N ∧ w'.heap[N]? = some (.cells #[.string ⟨#[80, 97, 114, 115, 101, 85, 105, 110, 116]⟩, .string s, .iface tp p] 160 (0, 0)) ∧ Below w.heap.size w w' := Any.strconv_ParseUint_10_at8_range_var Tryd.laysPu14 s hlim h tp p w hvar
def Tryd.lays315_ren : Go.Shelf.Ren := ⟨fun | 315 => 126 | n => n, fun | 9 => 9 | 40 => 120 | 4 => 4 | 3 => 3 | 0 => 0 | 21 => 21 | n => n, fun | n => n⟩
theorem Tryd.lays315 : Go.Proofs.Lays.n315 Tryd.prog Tryd.lays315_ren := {
  mixed := by kernel_rfl
  f315 := Tryd.func126.trans (congrArg some (by kernel_rfl))
  t0 := Tryd.underlying0
  a0 := Tryd.isAgg0
  z0 := Tryd.sizeOf0
  v0 := Tryd.zeroValue0
  t3 := Tryd.underlying3
  a3 := Tryd.isAgg3
  z3 := Tryd.sizeOf3
  v3 := Tryd.zeroValue3
  t4 := Tryd.underlying4
  a4 := Tryd.isAgg4
  z4 := Tryd.sizeOf4
  v4 := Tryd.zeroValue4
  t9 := Tryd.underlying9
  a9 := Tryd.isAgg9
  z9 := Tryd.sizeOf9
  v9 := Tryd.zeroValue9
  t21 := Tryd.underlying21
  a21 := Tryd.isAgg21
  z21 := Tryd.sizeOf21
  v21 := Tryd.zeroValue21
  t40 := Tryd.underlying120
  a40 := Tryd.isAgg120
  z40 := Tryd.sizeOf120
  v40 := Tryd.zeroValue120 }
open Go.RowKit Go.Lib in
theorem Tryd.strings_indexFunc (g : Nat) (lb : Array Value) (eg : ∀ args w, (callFunc g args).run Tryd.prog w = .ok (.enter g args) w) (p : Nat → Bool) (truth : Bool) (s : ByteArray) (w : World) (hp : PredAt Tryd.prog g lb encR p w) :
    Calls Tryd.prog 126 #[.string s, .func (.func g) #[] lb, .bool truth] w fun e w' => e = .returned (.int .i64 (Lib.idxFunc p truth s)) ∧ Below w.heap.size w w' := Any.strings_indexFunc Tryd.lays315 g lb eg p truth s w hp
def Tryd.lays273_ren : Go.Shelf.Ren := ⟨fun | 273 => 114 | 271 => 129 | 120 => 133 | 197 => 78 | 260 => 102 | n => n, fun | 9 => 9 | 40 => 120 | 4 => 4 | 3 => 3 | 105 => 106 | 21 => 21 | 5 => 5 | 119 => 121 | 0 => 0 | 46 => 102 | 139 => 164 | 138 => 163 | n => n, fun | 3 => 9 | 4 => 10 | n => n⟩
theorem Tryd.lays273 : Go.Proofs.Lays.n273 Tryd.prog Tryd.lays273_ren := {
  mixed := by kernel_rfl
  f120 := Tryd.func133.trans (congrArg some (by kernel_rfl))
  f197 := Tryd.func78.trans (congrArg some (by kernel_rfl))
  f260 := Tryd.func102.trans (congrArg some (by kernel_rfl))
  f271 := Tryd.func129.trans (congrArg some (by kernel_rfl))
  f273 := Tryd.func114.trans (congrArg some (by kernel_rfl))
  t0 := Tryd.underlying0
  a0 := Tryd.isAgg0
  z0 := Tryd.sizeOf0
  v0 := Tryd.zeroValue0
  t3 := Tryd.underlying3
  a3 := Tryd.isAgg3
  z3 := Tryd.sizeOf3
  v3 := Tryd.zeroValue3
  t4 := Tryd.underlying4
  a4 := Tryd.isAgg4
  z4 := Tryd.sizeOf4
  v4 := Tryd.zeroValue4
  t5 := Tryd.underlying5
  a5 := Tryd.isAgg5
  z5 := Tryd.sizeOf5
  v5 := Tryd.zeroValue5
  t9 := Tryd.underlying9
  a9 := Tryd.isAgg9
  z9 := Tryd.sizeOf9
  v9 := Tryd.zeroValue9
  t21 := Tryd.underlying21
  a21 := Tryd.isAgg21
  z21 := Tryd.sizeOf21
  v21 := Tryd.zeroValue21
  t40 := Tryd.underlying120
  a40 := Tryd.isAgg120
  z40 := Tryd.sizeOf120
  v40 := Tryd.zeroValue120
  t46 := Tryd.underlying102
  a46 := Tryd.isAgg102
  z46 := Tryd.sizeOf102
  v46 := Tryd.zeroValue102
  t105 := Tryd.underlying106
  a105 := Tryd.isAgg106
  z105 := Tryd.sizeOf106
  v105 := Tryd.zeroValue106
  t119 := Tryd.underlying121
  a119 := Tryd.isAgg121
  z119 := Tryd.sizeOf121
  t138 := Tryd.underlying163
  a138 := Tryd.isAgg163
  z138 := Tryd.sizeOf163
  v138 := Tryd.zeroValue163
  t139 := Tryd.underlying164
  a139 := Tryd.isAgg164
  z139 := Tryd.sizeOf164
  v139 := Tryd.zeroValue164
  g3 := by kernel_rfl
  g4 := by kernel_rfl }
open Go.RowKit Go.Lib in
theorem Tryd.strings_lastIndexFunc (g : Nat) (lb : Array Value) (eg : ∀ args w, (callFunc g args).run Tryd.prog w = .ok (.enter g args) w) (p : Nat → Bool) (truth : Bool) (s : ByteArray) (w : World) (hs : s.size ≤ 9223372036854775807) (hT : Lib.Utf8Tabs 9 10 w) (hp : PredAt Tryd.prog g lb encR p w) :
    Calls Tryd.prog 114 #[.string s, .func (.func g) #[] lb, .bool truth] w fun e w' => e = .returned (.int .i64 (Lib.lastIdxFunc p truth s)) ∧ Below w.heap.size w w' := Any.strings_lastIndexFunc Tryd.lays273 g lb eg p truth s w hs hT hp
def Tryd.lays272_ren : Go.Shelf.Ren := ⟨fun | 272 => 112 | 315 => 126 | n => n, fun | 9 => 9 | 40 => 120 | 4 => 4 | 3 => 3 | 0 => 0 | 21 => 21 | n => n, fun | n => n⟩
theorem Tryd.lays272 : Go.Proofs.Lays.n272 Tryd.prog Tryd.lays272_ren := {
  mixed := by kernel_rfl
  f272 := Tryd.func112.trans (congrArg some (by kernel_rfl))
  f315 := Tryd.func126.trans (congrArg some (by kernel_rfl))
  t0 := Tryd.underlying0
  a0 := Tryd.isAgg0
  z0 := Tryd.sizeOf0
  v0 := Tryd.zeroValue0
  t3 := Tryd.underlying3
  a3 := Tryd.isAgg3
  z3 := Tryd.sizeOf3
  v3 := Tryd.zeroValue3
  t4 := Tryd.underlying4
  a4 := Tryd.isAgg4
  z4 := Tryd.sizeOf4
  v4 := Tryd.zeroValue4
  t9 := Tryd.underlying9
  a9 := Tryd.isAgg9
  z9 := Tryd.sizeOf9
  v9 := Tryd.zeroValue9
  t21 := Tryd.underlying21
  a21 := Tryd.isAgg21
  z21 := Tryd.sizeOf21
  v21 := Tryd.zeroValue21
  t40 := Tryd.underlying120
  a40 := Tryd.isAgg120
  z40 := Tryd.sizeOf120
  v40 := Tryd.zeroValue120 }
open Go.RowKit Go.Lib in
theorem Tryd.strings_TrimLeftFunc (g : Nat) (lb : Array Value) (eg : ∀ args w, (callFunc g args).run Tryd.prog w = .ok (.enter g args) w) (p : Nat → Bool) (s : ByteArray) (w : World) (hp : PredAt Tryd.prog g lb encR p w) :
    Calls Tryd.prog 112 #[.string s, .func (.func g) #[] lb] w fun e w' => e = .returned (.string (Lib.trimLeftF p s)) ∧ Below w.heap.size w w' := Any.strings_TrimLeftFunc Tryd.lays272 g lb eg p s w hp
def Tryd.lays238_ren : Go.Shelf.Ren := ⟨fun | 238 => 89 | 273 => 114 | 197 => 78 | 271 => 129 | 260 => 102 | 120 => 133 | n => n, fun | 9 => 9 | 40 => 120 | 4 => 4 | 3 => 3 | 105 => 106 | 21 => 21 | 5 => 5 | 119 => 121 | 0 => 0 | 46 => 102 | 139 => 164 | 138 => 163 | n => n, fun | 3 => 9 | 4 => 10 | n => n⟩
theorem Tryd.lays238 : Go.Proofs.Lays.n238 Tryd.prog Tryd.lays238_ren := {
  mixed := by kernel_rfl
  f120 := Tryd.func133.trans (congrArg some (by kernel_rfl))
  f197 := Tryd.func78.trans (congrArg some (by kernel_rfl))
  f238 := Tryd.func89.trans (congrArg some (by kernel_rfl))
  f260 := Tryd.func102.trans (congrArg some (by kernel_rfl))
  f271 := Tryd.func129.trans (congrArg some (by kernel_rfl))
  f273 := Tryd.func114.trans (congrArg some (by kernel_rfl))
  t0 := Tryd.underlying0
  a0 := Tryd.isAgg0
  z0 := Tryd.sizeOf0
  v0 := Tryd.zeroValue0
  t3 := Tryd.underlying3
  a3 := Tryd.isAgg3
  z3 := Tryd.sizeOf3
  v3 := Tryd.zeroValue3
  t4 := Tryd.underlying4
  a4 := Tryd.isAgg4
  z4 := Tryd.sizeOf4
  v4 := Tryd.zeroValue4
  t5 := Tryd.underlying5
  a5 := Tryd.isAgg5
  z5 := Tryd.sizeOf5
  v5 := Tryd.zeroValue5
  t9 := Tryd.underlying9
  a9 := Tryd.isAgg9
  z9 := Tryd.sizeOf9
  v9 := Tryd.zeroValue9
  t21 := Tryd.underlying21
  a21 := Tryd.isAgg21
  z21 := Tryd.sizeOf21
  v21 := Tryd.zeroValue21
  t40 := Tryd.underlying120
  a40 := Tryd.isAgg120
  z40 := Tryd.sizeOf120
  v40 := Tryd.zeroValue120
  t46 := Tryd.underlying102
  a46 := Tryd.isAgg102
  z46 := Tryd.sizeOf102
  v46 := Tryd.zeroValue102
  t105 := Tryd.underlying106
  a105 := Tryd.isAgg106
  z105 := Tryd.sizeOf106
  v105 := Tryd.zeroValue106
  t119 := Tryd.underlying121
  a119 := Tryd.isAgg121
  z119 := Tryd.sizeOf121
  t138 := Tryd.underlying163
  a138 := Tryd.isAgg163
  z138 := Tryd.sizeOf163
  v138 := Tryd.zeroValue163
  t139 := Tryd.underlying164
  a139 := Tryd.isAgg164
  z139 := Tryd.sizeOf164
  v139 := Tryd.zeroValue164
  g3 := by kernel_rfl
  g4 := by kernel_rfl }
open Go.RowKit Go.Lib in
theorem Tryd.strings_TrimRightFunc (g : Nat) (lb : Array Value) (eg : ∀ args w, (callFunc g args).run Tryd.prog w = .ok (.enter g args) w) (p : Nat → Bool) (s : ByteArray) (w : World) (hs : s.size ≤ 9223372036854775807) (hT : Lib.Utf8Tabs 9 10 w) (hp : PredAt Tryd.prog g lb encR p w) :
    Calls Tryd.prog 89 #[.string s, .func (.func g) #[] lb] w fun e w' => e = .returned (.string (Lib.trimRightF p s)) ∧ Below w.heap.size w w' := Any.strings_TrimRightFunc Tryd.lays238 g lb eg p s w hs hT hp
def Tryd.lays237_ren : Go.Shelf.Ren := ⟨fun | 237 => 87 | 272 => 112 | 238 => 89 | 315 => 126 | 273 => 114 | 197 => 78 | 271 => 129 | 260 => 102 | 120 => 133 | n => n, fun | 9 => 9 | 40 => 120 | 4 => 4 | 3 => 3 | 105 => 106 | 21 => 21 | 0 => 0 | 5 => 5 | 119 => 121 | 46 => 102 | 139 => 164 | 138 => 163 | n => n, fun | 3 => 9 | 4 => 10 | n => n⟩
theorem Tryd.lays237 : Go.Proofs.Lays.n237 Tryd.prog Tryd.lays237_ren := {
  mixed := by kernel_rfl
  f120 := Tryd.func133.trans (congrArg some (by kernel_rfl))
  f197 := Tryd.func78.trans (congrArg some (by kernel_rfl))
  f237 := Tryd.func87.trans (congrArg some (by kernel_rfl))
  f238 := Tryd.func89.trans (congrArg some (by kernel_rfl))
  f260 := Tryd.func102.trans (congrArg some (by kernel_rfl))
  f271 := Tryd.func129.trans (congrArg some (by kernel_rfl))
  f272 := Tryd.func112.trans (congrArg some (by kernel_rfl))
  f273 := Tryd.func114.trans (congrArg some (by kernel_rfl))
  f315 := Tryd.func126.trans (congrArg some (by kernel_rfl))
  t0 := Tryd.underlying0
  a0 := Tryd.isAgg0
  z0 := Tryd.sizeOf0
  v0 := Tryd.zeroValue0
  t3 := Tryd.underlying3
  a3 := Tryd.isAgg3
  z3 := Tryd.sizeOf3
  v3 := Tryd.zeroValue3
  t4 := Tryd.underlying4
  a4 := Tryd.isAgg4
  z4 := Tryd.sizeOf4
  v4 := Tryd.zeroValue4
  t5 := Tryd.underlying5
  a5 := Tryd.isAgg5
  z5 := Tryd.sizeOf5
  v5 := Tryd.zeroValue5
  t9 := Tryd.underlying9
  a9 := Tryd.isAgg9
  z9 := Tryd.sizeOf9
  v9 := Tryd.zeroValue9
  t21 := Tryd.underlying21
  a21 := Tryd.isAgg21
  z21 := Tryd.sizeOf21
  v21 := Tryd.zeroValue21
  t40 := Tryd.underlying120
  a40 := Tryd.isAgg120
  z40 := Tryd.sizeOf120
  v40 := Tryd.zeroValue120
  t46 := Tryd.underlying102
  a46 := Tryd.isAgg102
  z46 := Tryd.sizeOf102
  v46 := Tryd.zeroValue102
  t105 := Tryd.underlying106
  a105 := Tryd.isAgg106
  z105 := Tryd.sizeOf106
  v105 := Tryd.zeroValue106
  t119 := Tryd.underlying121
  a119 := Tryd.isAgg121
  z119 := Tryd.sizeOf121
  t138 := Tryd.underlying163
  a138 := Tryd.isAgg163
  z138 := Tryd.sizeOf163
  v138 := Tryd.zeroValue163
  t139 := Tryd.underlying164
  a139 := Tryd.isAgg164
  z139 := Tryd.sizeOf164
  v139 := Tryd.zeroValue164
  g3 := by kernel_rfl
  g4 := by kernel_rfl }
open Go.RowKit Go.Lib in
/-- **strings.TrimFunc(s, f) AT EVERY STRING, AT WHATEVER FUNCTION VALUE.** (LAID: no walk: one application.) -/
theorem Tryd.strings_TrimFunc (g : Nat) (lb : Array Value) (eg : ∀ args w, (callFunc g args).run Tryd.prog w = .ok (.enter g args) w) (p : Nat → Bool) (s : ByteArray) (w : World) (hs : s.size ≤ 9223372036854775807) (hT : Lib.Utf8Tabs 9 10 w) (hp : PredAt Tryd.prog g lb encR p w) :
    Calls Tryd.prog 87 #[.string s, .func (.func g) #[] lb] w fun e w' => e = .returned (.string (Lib.trimF p s)) ∧ Below w.heap.size w w' := Any.strings_TrimFunc Tryd.lays237 g lb eg p s w hs hT hp
open Go.RowKit Go.Lib in
theorem Tryd.strings_indexFunc_runes (g : Nat) (lb : Array Value) (eg : ∀ args w, (callFunc g args).run Tryd.prog w = .ok (.enter g args) w) (p : Nat → Bool) (truth : Bool) (s : ByteArray) (w : World) (hp : PredAtRunes Tryd.prog g lb p w) :
    Calls Tryd.prog 126 #[.string s, .func (.func g) #[] lb, .bool truth] w fun e w' => e = .returned (.int .i64 (Lib.idxFunc p truth s)) ∧ Below w.heap.size w w' := Any.strings_indexFunc_runes Tryd.lays315 g lb eg p truth s w hp
open Go.RowKit Go.Lib in
theorem Tryd.strings_lastIndexFunc_runes (g : Nat) (lb : Array Value) (eg : ∀ args w, (callFunc g args).run Tryd.prog w = .ok (.enter g args) w) (p : Nat → Bool) (truth : Bool) (s : ByteArray) (w : World) (hs : s.size ≤ 9223372036854775807) (hT : Lib.Utf8Tabs 9 10 w) (hp : PredAtRunes Tryd.prog g lb p w) :
    Calls Tryd.prog 114 #[.string s, .func (.func g) #[] lb, .bool truth] w fun e w' => e = .returned (.int .i64 (Lib.lastIdxFunc p truth s)) ∧ Below w.heap.size w w' := Any.strings_lastIndexFunc_runes Tryd.lays273 g lb eg p truth s w hs hT hp
open Go.RowKit Go.Lib in
theorem Tryd.strings_TrimLeftFunc_runes (g : Nat) (lb : Array Value) (eg : ∀ args w, (callFunc g args).run Tryd.prog w = .ok (.enter g args) w) (p : Nat → Bool) (s : ByteArray) (w : World) (hp : PredAtRunes Tryd.prog g lb p w) :
    Calls Tryd.prog 112 #[.string s, .func (.func g) #[] lb] w fun e w' => e = .returned (.string (Lib.trimLeftF p s)) ∧ Below w.heap.size w w' := Any.strings_TrimLeftFunc_runes Tryd.lays272 g lb eg p s w hp
open Go.RowKit Go.Lib in
theorem Tryd.strings_TrimRightFunc_runes (g : Nat) (lb : Array Value) (eg : ∀ args w, (callFunc g args).run Tryd.prog w = .ok (.enter g args) w) (p : Nat → Bool) (s : ByteArray) (w : World) (hs : s.size ≤ 9223372036854775807) (hT : Lib.Utf8Tabs 9 10 w) (hp : PredAtRunes Tryd.prog g lb p w) :
    Calls Tryd.prog 89 #[.string s, .func (.func g) #[] lb] w fun e w' => e = .returned (.string (Lib.trimRightF p s)) ∧ Below w.heap.size w w' := Any.strings_TrimRightFunc_runes Tryd.lays238 g lb eg p s w hs hT hp
open Go.RowKit Go.Lib in
/-- **strings.TrimFunc(s, f) AT EVERY STRING, AT WHATEVER FUNCTION VALUE.** (LAID: no walk: one application.) -/
theorem Tryd.strings_TrimFunc_runes (g : Nat) (lb : Array Value) (eg : ∀ args w, (callFunc g args).run Tryd.prog w = .ok (.enter g args) w) (p : Nat → Bool) (s : ByteArray) (w : World) (hs : s.size ≤ 9223372036854775807) (hT : Lib.Utf8Tabs 9 10 w) (hp : PredAtRunes Tryd.prog g lb p w) :
    Calls Tryd.prog 87 #[.string s, .func (.func g) #[] lb] w fun e w' => e = .returned (.string (Lib.trimF p s)) ∧ Below w.heap.size w w' := Any.strings_TrimFunc_runes Tryd.lays237 g lb eg p s w hs hT hp
def Tryd.lays164_ren : Go.Shelf.Ren := ⟨fun | 164 => 65 | 197 => 78 | 239 => 79 | 260 => 102 | 274 => 103 | 275 => 104 | n => n, fun | 9 => 9 | 4 => 4 | 3 => 3 | 5 => 5 | 0 => 0 | 21 => 21 | 105 => 106 | 156 => 134 | 49 => 48 | 157 => 135 | 46 => 102 | 159 => 137 | 162 => 140 | 160 => 138 | 119 => 121 | 139 => 164 | 138 => 163 | 208 => 168 | 51 => 149 | 206 => 166 | n => n, fun | 11 => 2 | 12 => 3 | 13 => 4 | 3 => 9 | 4 => 10 | n => n⟩
theorem Tryd.lays164 : Go.Proofs.Lays.n164 Tryd.prog Tryd.lays164_ren := {
  mixed := by kernel_rfl
  f164 := Tryd.func65.trans (congrArg some (by kernel_rfl))
  f197 := Tryd.func78.trans (congrArg some (by kernel_rfl))
  f239 := Tryd.func79.trans (congrArg some (by kernel_rfl))
  f260 := Tryd.func102.trans (congrArg some (by kernel_rfl))
  f274 := Tryd.func103.trans (congrArg some (by kernel_rfl))
  f275 := Tryd.func104.trans (congrArg some (by kernel_rfl))
  t0 := Tryd.underlying0
  a0 := Tryd.isAgg0
  z0 := Tryd.sizeOf0
  v0 := Tryd.zeroValue0
  t3 := Tryd.underlying3
  a3 := Tryd.isAgg3
  z3 := Tryd.sizeOf3
  v3 := Tryd.zeroValue3
  t4 := Tryd.underlying4
  a4 := Tryd.isAgg4
  z4 := Tryd.sizeOf4
  v4 := Tryd.zeroValue4
  t5 := Tryd.underlying5
  a5 := Tryd.isAgg5
  z5 := Tryd.sizeOf5
  v5 := Tryd.zeroValue5
  t9 := Tryd.underlying9
  a9 := Tryd.isAgg9
  z9 := Tryd.sizeOf9
  v9 := Tryd.zeroValue9
  t21 := Tryd.underlying21
  a21 := Tryd.isAgg21
  z21 := Tryd.sizeOf21
  v21 := Tryd.zeroValue21
  t46 := Tryd.underlying102
  a46 := Tryd.isAgg102
  z46 := Tryd.sizeOf102
  v46 := Tryd.zeroValue102
  t49 := Tryd.underlying48
  a49 := Tryd.isAgg48
  z49 := Tryd.sizeOf48
  v49 := Tryd.zeroValue48
  t51 := Tryd.underlying149
  a51 := Tryd.isAgg149
  z51 := Tryd.sizeOf149
  v51 := Tryd.zeroValue149
  t105 := Tryd.underlying106
  a105 := Tryd.isAgg106
  z105 := Tryd.sizeOf106
  v105 := Tryd.zeroValue106
  t119 := Tryd.underlying121
  a119 := Tryd.isAgg121
  z119 := Tryd.sizeOf121
  t138 := Tryd.underlying163
  a138 := Tryd.isAgg163
  z138 := Tryd.sizeOf163
  v138 := Tryd.zeroValue163
  t139 := Tryd.underlying164
  a139 := Tryd.isAgg164
  z139 := Tryd.sizeOf164
  v139 := Tryd.zeroValue164
  t156 := Tryd.underlying134
  a156 := Tryd.isAgg134
  z156 := Tryd.sizeOf134
  t157 := Tryd.underlying135
  a157 := Tryd.isAgg135
  z157 := Tryd.sizeOf135
  v157 := Tryd.zeroValue135
  t159 := Tryd.underlying137
  a159 := Tryd.isAgg137
  z159 := Tryd.sizeOf137
  v159 := Tryd.zeroValue137
  t160 := Tryd.underlying138
  a160 := Tryd.isAgg138
  z160 := Tryd.sizeOf138
  v160 := Tryd.zeroValue138
  t162 := Tryd.underlying140
  a162 := Tryd.isAgg140
  z162 := Tryd.sizeOf140
  v162 := Tryd.zeroValue140
  t206 := Tryd.underlying166
  a206 := Tryd.isAgg166
  z206 := Tryd.sizeOf166
  v206 := Tryd.zeroValue166
  t208 := Tryd.underlying168
  a208 := Tryd.isAgg168
  z208 := Tryd.sizeOf168
  v208 := Tryd.zeroValue168
  g3 := by kernel_rfl
  g4 := by kernel_rfl
  g11 := by kernel_rfl
  g12 := by kernel_rfl
  g13 := by kernel_rfl }
open Go.RowKit Go.Lib in
theorem Tryd.strings_EqualFold (s t : ByteArray) (w : World) (hs : s.size < 4294967281) (has : ∀ (j : Nat) b, s.data.toList[j]? = some b → b.toNat < 128) (hat : ∀ (j : Nat) b, t.data.toList[j]? = some b → b.toNat < 128) :
    Calls Tryd.prog 65 #[.string s, .string t] w fun e w' => e = .returned (.bool (Lib.equalFold s.data.toList t.data.toList)) ∧ w' = w := Any.strings_EqualFold Tryd.lays164 s t w hs has hat
def Tryd.lays199_ren : Go.Shelf.Ren := ⟨fun | 199 => 88 | 261 => 113 | 311 => 127 | 312 => 128 | n => n, fun | 21 => 21 | 4 => 4 | 51 => 149 | 141 => 151 | 0 => 0 | 196 => 179 | 193 => 176 | 3 => 3 | 198 => 181 | 49 => 48 | 194 => 177 | 201 => 184 | 226 => 190 | 46 => 102 | 227 => 191 | n => n, fun | 6 => 5 | n => n⟩
theorem Tryd.lays199 : Go.Proofs.Lays.n199 Tryd.prog Tryd.lays199_ren := {
  mixed := by kernel_rfl
  f199 := Tryd.func88.trans (congrArg some (by kernel_rfl))
  f261 := Tryd.func113.trans (congrArg some (by kernel_rfl))
  f311 := Tryd.func127.trans (congrArg some (by kernel_rfl))
  f312 := Tryd.func128.trans (congrArg some (by kernel_rfl))
  t0 := Tryd.underlying0
  a0 := Tryd.isAgg0
  z0 := Tryd.sizeOf0
  v0 := Tryd.zeroValue0
  t3 := Tryd.underlying3
  a3 := Tryd.isAgg3
  z3 := Tryd.sizeOf3
  v3 := Tryd.zeroValue3
  t4 := Tryd.underlying4
  a4 := Tryd.isAgg4
  z4 := Tryd.sizeOf4
  v4 := Tryd.zeroValue4
  t21 := Tryd.underlying21
  a21 := Tryd.isAgg21
  z21 := Tryd.sizeOf21
  v21 := Tryd.zeroValue21
  t46 := Tryd.underlying102
  a46 := Tryd.isAgg102
  z46 := Tryd.sizeOf102
  v46 := Tryd.zeroValue102
  t49 := Tryd.underlying48
  a49 := Tryd.isAgg48
  z49 := Tryd.sizeOf48
  v49 := Tryd.zeroValue48
  t51 := Tryd.underlying149
  a51 := Tryd.isAgg149
  z51 := Tryd.sizeOf149
  v51 := Tryd.zeroValue149
  t141 := Tryd.underlying151
  a141 := Tryd.isAgg151
  z141 := Tryd.sizeOf151
  v141 := Tryd.zeroValue151
  t193 := Tryd.underlying176
  a193 := Tryd.isAgg176
  z193 := Tryd.sizeOf176
  v193 := Tryd.zeroValue176
  t194 := Tryd.underlying177
  a194 := Tryd.isAgg177
  z194 := Tryd.sizeOf177
  v194 := Tryd.zeroValue177
  t196 := Tryd.underlying179
  a196 := Tryd.isAgg179
  z196 := Tryd.sizeOf179
  v196 := Tryd.zeroValue179
  t198 := Tryd.underlying181
  a198 := Tryd.isAgg181
  z198 := Tryd.sizeOf181
  v198 := Tryd.zeroValue181
  t201 := Tryd.underlying184
  a201 := Tryd.isAgg184
  z201 := Tryd.sizeOf184
  v201 := Tryd.zeroValue184
  t226 := Tryd.underlying190
  a226 := Tryd.isAgg190
  z226 := Tryd.sizeOf190
  v226 := Tryd.zeroValue190
  t227 := Tryd.underlying191
  a227 := Tryd.isAgg191
  z227 := Tryd.sizeOf191
  v227 := Tryd.zeroValue191
  g6 := by kernel_rfl }
open Go.RowKit Go.Lib in
theorem Tryd.unicode_IsSpace (r : Int) (w : World) (h0 : 0 ≤ r) (h : r ≤ 255) :
    Calls Tryd.prog 88 #[.int .i32 r] w fun e w' => e = .returned (.bool (Lib.isSpaceL r)) ∧ w' = w := Any.unicode_IsSpace Tryd.lays199 r w h0 h
def Tryd.lays203_ren : Go.Shelf.Ren := ⟨fun | 203 => 85 | 262 => 110 | 313 => 125 | 274 => 103 | 275 => 104 | n => n, fun | 21 => 21 | 4 => 4 | 3 => 3 | 162 => 140 | 203 => 173 | 160 => 138 | 46 => 102 | 0 => 0 | 208 => 168 | 51 => 149 | 206 => 166 | n => n, fun | 13 => 4 | n => n⟩
theorem Tryd.lays203 : Go.Proofs.Lays.n203 Tryd.prog Tryd.lays203_ren := {
  mixed := by kernel_rfl
  f203 := Tryd.func85.trans (congrArg some (by kernel_rfl))
  f262 := Tryd.func110.trans (congrArg some (by kernel_rfl))
  f274 := Tryd.func103.trans (congrArg some (by kernel_rfl))
  f275 := Tryd.func104.trans (congrArg some (by kernel_rfl))
  f313 := Tryd.func125.trans (congrArg some (by kernel_rfl))
  t0 := Tryd.underlying0
  a0 := Tryd.isAgg0
  z0 := Tryd.sizeOf0
  v0 := Tryd.zeroValue0
  t3 := Tryd.underlying3
  a3 := Tryd.isAgg3
  z3 := Tryd.sizeOf3
  v3 := Tryd.zeroValue3
  t4 := Tryd.underlying4
  a4 := Tryd.isAgg4
  z4 := Tryd.sizeOf4
  v4 := Tryd.zeroValue4
  t21 := Tryd.underlying21
  a21 := Tryd.isAgg21
  z21 := Tryd.sizeOf21
  v21 := Tryd.zeroValue21
  t46 := Tryd.underlying102
  a46 := Tryd.isAgg102
  z46 := Tryd.sizeOf102
  v46 := Tryd.zeroValue102
  t51 := Tryd.underlying149
  a51 := Tryd.isAgg149
  z51 := Tryd.sizeOf149
  v51 := Tryd.zeroValue149
  t160 := Tryd.underlying138
  a160 := Tryd.isAgg138
  z160 := Tryd.sizeOf138
  v160 := Tryd.zeroValue138
  t162 := Tryd.underlying140
  a162 := Tryd.isAgg140
  z162 := Tryd.sizeOf140
  v162 := Tryd.zeroValue140
  t203 := Tryd.underlying173
  a203 := Tryd.isAgg173
  z203 := Tryd.sizeOf173
  v203 := Tryd.zeroValue173
  t206 := Tryd.underlying166
  a206 := Tryd.isAgg166
  z206 := Tryd.sizeOf166
  v206 := Tryd.zeroValue166
  t208 := Tryd.underlying168
  a208 := Tryd.isAgg168
  z208 := Tryd.sizeOf168
  v208 := Tryd.zeroValue168
  g13 := by kernel_rfl }
open Go.RowKit Go.Lib in
theorem Tryd.unicode_ToUpper (r : Int) (w : World) (h : r ≤ 127) :
    Calls Tryd.prog 85 #[.int .i32 r] w fun e w' => e = .returned (.int .i32 (Lib.toUpperR r)) ∧ w' = w := Any.unicode_ToUpper Tryd.lays203 r w h
def Tryd.lays197_ren : Go.Shelf.Ren := ⟨fun | 197 => 78 | 260 => 102 | n => n, fun | 9 => 9 | 21 => 21 | 3 => 3 | 4 => 4 | 5 => 5 | 105 => 106 | 119 => 121 | 0 => 0 | 46 => 102 | 139 => 164 | 138 => 163 | n => n, fun | 3 => 9 | 4 => 10 | n => n⟩
theorem Tryd.lays197 : Go.Proofs.Lays.n197 Tryd.prog Tryd.lays197_ren := {
  mixed := by kernel_rfl
  f197 := Tryd.func78.trans (congrArg some (by kernel_rfl))
  f260 := Tryd.func102.trans (congrArg some (by kernel_rfl))
  t0 := Tryd.underlying0
  a0 := Tryd.isAgg0
  z0 := Tryd.sizeOf0
  v0 := Tryd.zeroValue0
  t3 := Tryd.underlying3
  a3 := Tryd.isAgg3
  z3 := Tryd.sizeOf3
  v3 := Tryd.zeroValue3
  t4 := Tryd.underlying4
  a4 := Tryd.isAgg4
  z4 := Tryd.sizeOf4
  v4 := Tryd.zeroValue4
  t5 := Tryd.underlying5
  a5 := Tryd.isAgg5
  z5 := Tryd.sizeOf5
  v5 := Tryd.zeroValue5
  t9 := Tryd.underlying9
  a9 := Tryd.isAgg9
  z9 := Tryd.sizeOf9
  v9 := Tryd.zeroValue9
  t21 := Tryd.underlying21
  a21 := Tryd.isAgg21
  z21 := Tryd.sizeOf21
  v21 := Tryd.zeroValue21
  t46 := Tryd.underlying102
  a46 := Tryd.isAgg102
  z46 := Tryd.sizeOf102
  v46 := Tryd.zeroValue102
  t105 := Tryd.underlying106
  a105 := Tryd.isAgg106
  z105 := Tryd.sizeOf106
  v105 := Tryd.zeroValue106
  t119 := Tryd.underlying121
  a119 := Tryd.isAgg121
  z119 := Tryd.sizeOf121
  t138 := Tryd.underlying163
  a138 := Tryd.isAgg163
  z138 := Tryd.sizeOf163
  v138 := Tryd.zeroValue163
  t139 := Tryd.underlying164
  a139 := Tryd.isAgg164
  z139 := Tryd.sizeOf164
  v139 := Tryd.zeroValue164
  g3 := by kernel_rfl
  g4 := by kernel_rfl }
open Go.RowKit Go.Lib in
/-- unicode/utf8.DecodeRuneInString: "DecodeRuneInString is like DecodeRune but its input is a string.": ("DecodeRune unpacks the first UTF-8 encoding in p and returns the rune and its width in bytes."): WHERE s BEGINS WITH AN ASCII BYTE x: (x, 1). (LAID: no walk: one application.) -/
theorem Tryd.utf8_DecodeRuneInString_ascii (s : ByteArray) (x : UInt8) (w : World) (h0 : s.data.toList[0]? = some x) (hx : x.toNat < 128) :
    Calls Tryd.prog 78 #[.string s] w fun e w' => e = .returned (.tuple #[.int .i32 x.toNat, .int .i64 1]) ∧ w' = w := Any.utf8_DecodeRuneInString_ascii Tryd.lays197 s x w h0 hx
def Tryd.lays260_ren : Go.Shelf.Ren := ⟨fun | 260 => 102 | n => n, fun | 9 => 9 | 21 => 21 | 3 => 3 | 4 => 4 | 5 => 5 | 119 => 121 | 0 => 0 | 46 => 102 | 139 => 164 | 138 => 163 | n => n, fun | 3 => 9 | 4 => 10 | n => n⟩
theorem Tryd.lays260 : Go.Proofs.Lays.n260 Tryd.prog Tryd.lays260_ren := {
  mixed := by kernel_rfl
  f260 := Tryd.func102.trans (congrArg some (by kernel_rfl))
  t0 := Tryd.underlying0
  a0 := Tryd.isAgg0
  z0 := Tryd.sizeOf0
  v0 := Tryd.zeroValue0
  t3 := Tryd.underlying3
  a3 := Tryd.isAgg3
  z3 := Tryd.sizeOf3
  v3 := Tryd.zeroValue3
  t4 := Tryd.underlying4
  a4 := Tryd.isAgg4
  z4 := Tryd.sizeOf4
  v4 := Tryd.zeroValue4
  t5 := Tryd.underlying5
  a5 := Tryd.isAgg5
  z5 := Tryd.sizeOf5
  v5 := Tryd.zeroValue5
  t9 := Tryd.underlying9
  a9 := Tryd.isAgg9
  z9 := Tryd.sizeOf9
  v9 := Tryd.zeroValue9
  t21 := Tryd.underlying21
  a21 := Tryd.isAgg21
  z21 := Tryd.sizeOf21
  v21 := Tryd.zeroValue21
  t46 := Tryd.underlying102
  a46 := Tryd.isAgg102
  z46 := Tryd.sizeOf102
  v46 := Tryd.zeroValue102
  t119 := Tryd.underlying121
  a119 := Tryd.isAgg121
  z119 := Tryd.sizeOf121
  t138 := Tryd.underlying163
  a138 := Tryd.isAgg163
  z138 := Tryd.sizeOf163
  v138 := Tryd.zeroValue163
  t139 := Tryd.underlying164
  a139 := Tryd.isAgg164
  z139 := Tryd.sizeOf164
  v139 := Tryd.zeroValue164
  g3 := by kernel_rfl
  g4 := by kernel_rfl }
open Go.RowKit Go.Lib in
theorem Tryd.utf8_decodeRuneInStringSlow (s : ByteArray) (w : World) (hT : Lib.Utf8Tabs 9 10 w) :
    Calls Tryd.prog 102 #[.string s] w fun e w' => e = .returned (.tuple #[.int .i32 (Lib.decodeGo s).1, .int .i64 (Lib.decodeGo s).2]) ∧ Below w.heap.size w w' := Any.utf8_decodeRuneInStringSlow Tryd.lays260 s w hT
open Go.RowKit Go.Lib in
/-- **unicode/utf8.DecodeRuneInString AT EVERY STRING.** (LAID: no walk: one application.) -/
theorem Tryd.utf8_DecodeRuneInString (s : ByteArray) (w : World) (hT : Lib.Utf8Tabs 9 10 w) :
    Calls Tryd.prog 78 #[.string s] w fun e w' => e = .returned (.tuple #[.int .i32 (Lib.decodeGo s).1, .int .i64 (Lib.decodeGo s).2]) ∧ Below w.heap.size w w' := Any.utf8_DecodeRuneInString Tryd.lays197 s w hT
def Tryd.lays311_ren : Go.Shelf.Ren := ⟨fun | 311 => 127 | n => n, fun | 193 => 176 | 49 => 48 | 4 => 4 | 3 => 3 | 0 => 0 | 226 => 190 | 198 => 181 | 46 => 102 | n => n, fun | n => n⟩
theorem Tryd.lays311 : Go.Proofs.Lays.n311 Tryd.prog Tryd.lays311_ren := {
  mixed := by kernel_rfl
  f311 := Tryd.func127.trans (congrArg some (by kernel_rfl))
  t0 := Tryd.underlying0
  a0 := Tryd.isAgg0
  z0 := Tryd.sizeOf0
  v0 := Tryd.zeroValue0
  t3 := Tryd.underlying3
  a3 := Tryd.isAgg3
  z3 := Tryd.sizeOf3
  v3 := Tryd.zeroValue3
  t4 := Tryd.underlying4
  a4 := Tryd.isAgg4
  z4 := Tryd.sizeOf4
  v4 := Tryd.zeroValue4
  t46 := Tryd.underlying102
  a46 := Tryd.isAgg102
  z46 := Tryd.sizeOf102
  v46 := Tryd.zeroValue102
  t49 := Tryd.underlying48
  a49 := Tryd.isAgg48
  z49 := Tryd.sizeOf48
  v49 := Tryd.zeroValue48
  t193 := Tryd.underlying176
  a193 := Tryd.isAgg176
  z193 := Tryd.sizeOf176
  v193 := Tryd.zeroValue176
  t198 := Tryd.underlying181
  a198 := Tryd.isAgg181
  z198 := Tryd.sizeOf181
  v198 := Tryd.zeroValue181
  t226 := Tryd.underlying190
  a226 := Tryd.isAgg190
  z226 := Tryd.sizeOf190
  v226 := Tryd.zeroValue190 }
open Go.RowKit Go.Lib in
theorem Tryd.unicode_is16_white (R oR : Nat) (z : Nat) (w : World) (hz : z < 65536) (hz0 : 255 < z) (c6 : w.cell? ⟨R, oR + 6, none⟩ = some (.int .u16 160)) (c7 : w.cell? ⟨R, oR + 7, none⟩ = some (.int .u16 5760)) (c8 : w.cell? ⟨R, oR + 8, none⟩ = some (.int .u16 5600)) (c9 : w.cell? ⟨R, oR + 9, none⟩ = some (.int .u16 8192)) (c10 : w.cell? ⟨R, oR + 10, none⟩ = some (.int .u16 8202)) (c11 : w.cell? ⟨R, oR + 11, none⟩ = some (.int .u16 1)) (c12 : w.cell? ⟨R, oR + 12, none⟩ = some (.int .u16 8232)) (c13 : w.cell? ⟨R, oR + 13, none⟩ = some (.int .u16 8233)) (c14 : w.cell? ⟨R, oR + 14, none⟩ = some (.int .u16 1)) (c15 : w.cell? ⟨R, oR + 15, none⟩ = some (.int .u16 8239)) (c16 : w.cell? ⟨R, oR + 16, none⟩ = some (.int .u16 8287)) (c17 : w.cell? ⟨R, oR + 17, none⟩ = some (.int .u16 48)) (c18 : w.cell? ⟨R, oR + 18, none⟩ = some (.int .u16 12288)) (c19 : w.cell? ⟨R, oR + 19, none⟩ = some (.int .u16 12288)) (c20 : w.cell? ⟨R, oR + 20, none⟩ = some (.int .u16 1)) :
    Calls Tryd.prog 127 #[.slice (some ⟨R, oR + 6, none⟩) 5 5, .int .u16 z] w fun e w' => e = .returned (.bool (Lib.isSpaceR z)) ∧ Below w.heap.size w w' := Any.unicode_is16_white Tryd.lays311 R oR z w hz hz0 c6 c7 c8 c9 c10 c11 c12 c13 c14 c15 c16 c17 c18 c19 c20
def Tryd.lays261_ren : Go.Shelf.Ren := ⟨fun | 261 => 113 | 311 => 127 | 312 => 128 | n => n, fun | 141 => 151 | 21 => 21 | 4 => 4 | 0 => 0 | 196 => 179 | 193 => 176 | 3 => 3 | 51 => 149 | 198 => 181 | 49 => 48 | 194 => 177 | 201 => 184 | 226 => 190 | 46 => 102 | 227 => 191 | n => n, fun | n => n⟩
theorem Tryd.lays261 : Go.Proofs.Lays.n261 Tryd.prog Tryd.lays261_ren := {
  mixed := by kernel_rfl
  f261 := Tryd.func113.trans (congrArg some (by kernel_rfl))
  f311 := Tryd.func127.trans (congrArg some (by kernel_rfl))
  f312 := Tryd.func128.trans (congrArg some (by kernel_rfl))
  t0 := Tryd.underlying0
  a0 := Tryd.isAgg0
  z0 := Tryd.sizeOf0
  v0 := Tryd.zeroValue0
  t3 := Tryd.underlying3
  a3 := Tryd.isAgg3
  z3 := Tryd.sizeOf3
  v3 := Tryd.zeroValue3
  t4 := Tryd.underlying4
  a4 := Tryd.isAgg4
  z4 := Tryd.sizeOf4
  v4 := Tryd.zeroValue4
  t21 := Tryd.underlying21
  a21 := Tryd.isAgg21
  z21 := Tryd.sizeOf21
  v21 := Tryd.zeroValue21
  t46 := Tryd.underlying102
  a46 := Tryd.isAgg102
  z46 := Tryd.sizeOf102
  v46 := Tryd.zeroValue102
  t49 := Tryd.underlying48
  a49 := Tryd.isAgg48
  z49 := Tryd.sizeOf48
  v49 := Tryd.zeroValue48
  t51 := Tryd.underlying149
  a51 := Tryd.isAgg149
  z51 := Tryd.sizeOf149
  v51 := Tryd.zeroValue149
  t141 := Tryd.underlying151
  a141 := Tryd.isAgg151
  z141 := Tryd.sizeOf151
  v141 := Tryd.zeroValue151
  t193 := Tryd.underlying176
  a193 := Tryd.isAgg176
  z193 := Tryd.sizeOf176
  v193 := Tryd.zeroValue176
  t194 := Tryd.underlying177
  a194 := Tryd.isAgg177
  z194 := Tryd.sizeOf177
  v194 := Tryd.zeroValue177
  t196 := Tryd.underlying179
  a196 := Tryd.isAgg179
  z196 := Tryd.sizeOf179
  v196 := Tryd.zeroValue179
  t198 := Tryd.underlying181
  a198 := Tryd.isAgg181
  z198 := Tryd.sizeOf181
  v198 := Tryd.zeroValue181
  t201 := Tryd.underlying184
  a201 := Tryd.isAgg184
  z201 := Tryd.sizeOf184
  v201 := Tryd.zeroValue184
  t226 := Tryd.underlying190
  a226 := Tryd.isAgg190
  z226 := Tryd.sizeOf190
  v226 := Tryd.zeroValue190
  t227 := Tryd.underlying191
  a227 := Tryd.isAgg191
  z227 := Tryd.sizeOf191
  v227 := Tryd.zeroValue191 }
open Go.RowKit Go.Lib in
/-- unicode.isExcludingLatin(White_Space, r), r beyond U+00FF or negative. (LAID: no walk: one application.) -/
theorem Tryd.unicode_isExcludingLatin_white (T oT R oR : Nat) (r : Int) (w : World) (hlo : -2147483648 ≤ r) (hhi : r ≤ 2147483647) (hr : r < 0 ∨ 255 < r) (h2 : w.cell? ⟨T, oT, none⟩ = some (.slice (some ⟨R, oR, none⟩) 7 7)) (h3 : w.cell? ⟨T, oT + 1, none⟩ = some (.slice none 0 0)) (h4 : w.cell? ⟨T, oT + 2, none⟩ = some (.int .i64 2)) (h5 : ∀ i, i < 21 → w.cell? ⟨R, oR + i, none⟩ = some (.int .u16 (whiteT.getD i 0))) :
    Calls Tryd.prog 113 #[.pointer (some ⟨T, oT, none⟩), .int .i32 r] w fun e w' => e = .returned (.bool (Lib.isSpaceZ r)) ∧ Below w.heap.size w w' := Any.unicode_isExcludingLatin_white Tryd.lays261 T oT R oR r w hlo hhi hr h2 h3 h4 h5
open Go.RowKit Go.Lib in
/-- **unicode.IsSpace AT EVERY int32.** (LAID: no walk: one application.) -/
theorem Tryd.unicode_IsSpace_any (r : Int) (w : World) (hlo : -2147483648 ≤ r) (hhi : r ≤ 2147483647) (hW : Lib.WhiteTab 5 w) :
    Calls Tryd.prog 88 #[.int .i32 r] w fun e w' => e = .returned (.bool (Lib.isSpaceZ r)) ∧ Below w.heap.size w w' := Any.unicode_IsSpace_any Tryd.lays199 r w hlo hhi hW
def Tryd.lays271_ren : Go.Shelf.Ren := ⟨fun | 271 => 129 | 120 => 133 | 197 => 78 | 260 => 102 | n => n, fun | 9 => 9 | 21 => 21 | 3 => 3 | 4 => 4 | 5 => 5 | 105 => 106 | 119 => 121 | 0 => 0 | 46 => 102 | 139 => 164 | 138 => 163 | n => n, fun | 3 => 9 | 4 => 10 | n => n⟩
theorem Tryd.lays271 : Go.Proofs.Lays.n271 Tryd.prog Tryd.lays271_ren := {
  mixed := by kernel_rfl
  f120 := Tryd.func133.trans (congrArg some (by kernel_rfl))
  f197 := Tryd.func78.trans (congrArg some (by kernel_rfl))
  f260 := Tryd.func102.trans (congrArg some (by kernel_rfl))
  f271 := Tryd.func129.trans (congrArg some (by kernel_rfl))
  t0 := Tryd.underlying0
  a0 := Tryd.isAgg0
  z0 := Tryd.sizeOf0
  v0 := Tryd.zeroValue0
  t3 := Tryd.underlying3
  a3 := Tryd.isAgg3
  z3 := Tryd.sizeOf3
  v3 := Tryd.zeroValue3
  t4 := Tryd.underlying4
  a4 := Tryd.isAgg4
  z4 := Tryd.sizeOf4
  v4 := Tryd.zeroValue4
  t5 := Tryd.underlying5
  a5 := Tryd.isAgg5
  z5 := Tryd.sizeOf5
  v5 := Tryd.zeroValue5
  t9 := Tryd.underlying9
  a9 := Tryd.isAgg9
  z9 := Tryd.sizeOf9
  v9 := Tryd.zeroValue9
  t21 := Tryd.underlying21
  a21 := Tryd.isAgg21
  z21 := Tryd.sizeOf21
  v21 := Tryd.zeroValue21
  t46 := Tryd.underlying102
  a46 := Tryd.isAgg102
  z46 := Tryd.sizeOf102
  v46 := Tryd.zeroValue102
  t105 := Tryd.underlying106
  a105 := Tryd.isAgg106
  z105 := Tryd.sizeOf106
  v105 := Tryd.zeroValue106
  t119 := Tryd.underlying121
  a119 := Tryd.isAgg121
  z119 := Tryd.sizeOf121
  t138 := Tryd.underlying163
  a138 := Tryd.isAgg163
  z138 := Tryd.sizeOf163
  v138 := Tryd.zeroValue163
  t139 := Tryd.underlying164
  a139 := Tryd.isAgg164
  z139 := Tryd.sizeOf164
  v139 := Tryd.zeroValue164
  g3 := by kernel_rfl
  g4 := by kernel_rfl }
open Go.RowKit Go.Lib in
/-- **unicode/utf8.DecodeLastRuneInString AT EVERY STRING.** (LAID: no walk: one application.) -/
theorem Tryd.utf8_DecodeLastRuneInString (s : ByteArray) (w : World) (hs : s.size ≤ 9223372036854775807) (hT : Lib.Utf8Tabs 9 10 w) :
    Calls Tryd.prog 129 #[.string s] w fun e w' => e = .returned (.tuple #[.int .i32 (Lib.decodeLastL s.data.toList).1, .int .i64 (Lib.decodeLastL s.data.toList).2]) ∧ Below w.heap.size w w' := Any.utf8_DecodeLastRuneInString Tryd.lays271 s w hs hT
open Go.RowKit in
theorem Tryd.strings_TrimSpace_any (s : ByteArray) (w : World) (hs : s.size ≤ 9223372036854775807) (htab : Lib.TabIs Tryd.prog w "strings.asciiSpace" .u8 Lib.asciiSpaceTab) (hU8 : Lib.Utf8Tabs 9 10 w) (hWS : Lib.WhiteTab 5 w) :
    Calls Tryd.prog 68 #[.string s] w fun e w' => e = .returned (.string ⟨(Lib.trimSpaceD s.data.toList).toArray⟩) ∧ Below w.heap.size w w' := Any.strings_TrimSpace_any Tryd.lays163 Tryd.Space_Extra_163 s w hs htab hU8 hWS
open Go.RowKit Go.Lib in
theorem Tryd.unicode_is16_white_d (R oR : Nat) (z : Nat) (w : World) (hz : z < 65536) (hz0 : 255 < z) (c6 : w.cell? ⟨R, oR + 6, none⟩ = some (.int .u16 160)) (c7 : w.cell? ⟨R, oR + 7, none⟩ = some (.int .u16 5760)) (c8 : w.cell? ⟨R, oR + 8, none⟩ = some (.int .u16 5600)) (c9 : w.cell? ⟨R, oR + 9, none⟩ = some (.int .u16 8192)) (c10 : w.cell? ⟨R, oR + 10, none⟩ = some (.int .u16 8202)) (c11 : w.cell? ⟨R, oR + 11, none⟩ = some (.int .u16 1)) (c12 : w.cell? ⟨R, oR + 12, none⟩ = some (.int .u16 8232)) (c13 : w.cell? ⟨R, oR + 13, none⟩ = some (.int .u16 8233)) (c14 : w.cell? ⟨R, oR + 14, none⟩ = some (.int .u16 1)) (c15 : w.cell? ⟨R, oR + 15, none⟩ = some (.int .u16 8239)) (c16 : w.cell? ⟨R, oR + 16, none⟩ = some (.int .u16 8287)) (c17 : w.cell? ⟨R, oR + 17, none⟩ = some (.int .u16 48)) (c18 : w.cell? ⟨R, oR + 18, none⟩ = some (.int .u16 12288)) (c19 : w.cell? ⟨R, oR + 19, none⟩ = some (.int .u16 12288)) (c20 : w.cell? ⟨R, oR + 20, none⟩ = some (.int .u16 1)) :
    Calls Tryd.prog 127 #[.slice (some ⟨R, oR + 6, none⟩) 5 5, .int .u16 z] w fun e w' => e = .returned (.bool (Lib.isSpaceR z)) ∧ ∃ q, w' = w.drewN q := Any.unicode_is16_white_d Tryd.lays311 R oR z w hz hz0 c6 c7 c8 c9 c10 c11 c12 c13 c14 c15 c16 c17 c18 c19 c20
open Go.RowKit Go.Lib in
/-- unicode.isExcludingLatin(White_Space, r), r beyond U+00FF or negative. (LAID: no walk: one application.) -/
theorem Tryd.unicode_isExcludingLatin_white_d (T oT R oR : Nat) (r : Int) (w : World) (hlo : -2147483648 ≤ r) (hhi : r ≤ 2147483647) (hr : r < 0 ∨ 255 < r) (h2 : w.cell? ⟨T, oT, none⟩ = some (.slice (some ⟨R, oR, none⟩) 7 7)) (h3 : w.cell? ⟨T, oT + 1, none⟩ = some (.slice none 0 0)) (h4 : w.cell? ⟨T, oT + 2, none⟩ = some (.int .i64 2)) (h5 : ∀ i, i < 21 → w.cell? ⟨R, oR + i, none⟩ = some (.int .u16 (whiteT.getD i 0))) :
    Calls Tryd.prog 113 #[.pointer (some ⟨T, oT, none⟩), .int .i32 r] w fun e w' => e = .returned (.bool (Lib.isSpaceZ r)) ∧ ∃ q, w' = w.drewN q := Any.unicode_isExcludingLatin_white_d Tryd.lays261 T oT R oR r w hlo hhi hr h2 h3 h4 h5
open Go.RowKit Go.Lib in
/-- **unicode.IsSpace AT EVERY int32.** (LAID: no walk: one application.) -/
theorem Tryd.unicode_IsSpace_any_d (r : Int) (w : World) (hlo : -2147483648 ≤ r) (hhi : r ≤ 2147483647) (hW : Lib.WhiteTab 5 w) :
    Calls Tryd.prog 88 #[.int .i32 r] w fun e w' => e = .returned (.bool (Lib.isSpaceZ r)) ∧ ∃ q, w' = w.drewN q := Any.unicode_IsSpace_any_d Tryd.lays199 r w hlo hhi hW
def Tryd.lays274_ren : Go.Shelf.Ren := ⟨fun | 274 => 103 | n => n, fun | 21 => 21 | 162 => 140 | 160 => 138 | 3 => 3 | 4 => 4 | 46 => 102 | 0 => 0 | 208 => 168 | 51 => 149 | 206 => 166 | n => n, fun | n => n⟩
theorem Tryd.lays274 : Go.Proofs.Lays.n274 Tryd.prog Tryd.lays274_ren := {
  mixed := by kernel_rfl
  f274 := Tryd.func103.trans (congrArg some (by kernel_rfl))
  t0 := Tryd.underlying0
  a0 := Tryd.isAgg0
  z0 := Tryd.sizeOf0
  v0 := Tryd.zeroValue0
  t3 := Tryd.underlying3
  a3 := Tryd.isAgg3
  z3 := Tryd.sizeOf3
  v3 := Tryd.zeroValue3
  t4 := Tryd.underlying4
  a4 := Tryd.isAgg4
  z4 := Tryd.sizeOf4
  v4 := Tryd.zeroValue4
  t21 := Tryd.underlying21
  a21 := Tryd.isAgg21
  z21 := Tryd.sizeOf21
  v21 := Tryd.zeroValue21
  t46 := Tryd.underlying102
  a46 := Tryd.isAgg102
  z46 := Tryd.sizeOf102
  v46 := Tryd.zeroValue102
  t51 := Tryd.underlying149
  a51 := Tryd.isAgg149
  z51 := Tryd.sizeOf149
  v51 := Tryd.zeroValue149
  t160 := Tryd.underlying138
  a160 := Tryd.isAgg138
  z160 := Tryd.sizeOf138
  v160 := Tryd.zeroValue138
  t162 := Tryd.underlying140
  a162 := Tryd.isAgg140
  z162 := Tryd.sizeOf140
  v162 := Tryd.zeroValue140
  t208 := Tryd.underlying168
  a208 := Tryd.isAgg168
  z208 := Tryd.sizeOf168
  v208 := Tryd.zeroValue168 }
open Go.RowKit Go.Lib in
theorem Tryd.unicode_lookupCaseRange (T : Array CaseRow) (R oR cap : Nat) (r : Int) (w : World) (hT : CaseTab R oR T w) (hok : CaseOk T) (hn : T.size ≤ 1000000000) :
    Calls Tryd.prog 103 #[.int .i32 r, .slice (some ⟨R, oR, none⟩) T.size cap] w fun e w' =>
      e = .returned (match lookupIdx T r (T.size + 1) 0 T.size with | some i => .pointer (some ⟨R, oR + i * 5, none⟩) | none => .pointer none) ∧ w' = w := Any.unicode_lookupCaseRange Tryd.lays274 T R oR cap r w hT hok hn
def Tryd.lays275_ren : Go.Shelf.Ren := ⟨fun | 275 => 104 | n => n, fun | 3 => 3 | 21 => 21 | 160 => 138 | 0 => 0 | 208 => 168 | 206 => 166 | 4 => 4 | 51 => 149 | n => n, fun | n => n⟩
theorem Tryd.lays275 : Go.Proofs.Lays.n275 Tryd.prog Tryd.lays275_ren := {
  mixed := by kernel_rfl
  f275 := Tryd.func104.trans (congrArg some (by kernel_rfl))
  t0 := Tryd.underlying0
  a0 := Tryd.isAgg0
  z0 := Tryd.sizeOf0
  v0 := Tryd.zeroValue0
  t3 := Tryd.underlying3
  a3 := Tryd.isAgg3
  z3 := Tryd.sizeOf3
  v3 := Tryd.zeroValue3
  t4 := Tryd.underlying4
  a4 := Tryd.isAgg4
  z4 := Tryd.sizeOf4
  v4 := Tryd.zeroValue4
  t21 := Tryd.underlying21
  a21 := Tryd.isAgg21
  z21 := Tryd.sizeOf21
  v21 := Tryd.zeroValue21
  t51 := Tryd.underlying149
  a51 := Tryd.isAgg149
  z51 := Tryd.sizeOf149
  v51 := Tryd.zeroValue149
  t160 := Tryd.underlying138
  a160 := Tryd.isAgg138
  z160 := Tryd.sizeOf138
  v160 := Tryd.zeroValue138
  t206 := Tryd.underlying166
  a206 := Tryd.isAgg166
  z206 := Tryd.sizeOf166
  v206 := Tryd.zeroValue166
  t208 := Tryd.underlying168
  a208 := Tryd.isAgg168
  z208 := Tryd.sizeOf168
  v208 := Tryd.zeroValue168 }
open Go.RowKit Go.Lib in
theorem Tryd.unicode_convertCase (c : Nat) (hc : c < 3) (r : Int) (A o : Nat) (x : CaseRow) (w : World) (hlo : (x.1 : Int) ≤ r) (hhi : r ≤ (x.2.1 : Int)) (hH : x.2.1 < 2147483647) (c0 : w.cell? ⟨A, o, none⟩ = some (.int .u32 x.1)) (cD : w.cell? ⟨A, o + 2 + c, none⟩ = some (.int .i32 (x.delta c))) :
    Calls Tryd.prog 104 #[.int .i64 c, .int .i32 r, .pointer (some ⟨A, o, none⟩)] w fun e w' => e = .returned (.int .i32 (wrap32 (convertR c r x))) ∧ ∃ q, w' = w.drewN q := Any.unicode_convertCase Tryd.lays275 c hc r A o x w hlo hhi hH c0 cD
def Tryd.lays313_ren : Go.Shelf.Ren := ⟨fun | 313 => 125 | 274 => 103 | 275 => 104 | n => n, fun | 3 => 3 | 21 => 21 | 162 => 140 | 4 => 4 | 160 => 138 | 46 => 102 | 0 => 0 | 208 => 168 | 51 => 149 | 206 => 166 | n => n, fun | n => n⟩
theorem Tryd.lays313 : Go.Proofs.Lays.n313 Tryd.prog Tryd.lays313_ren := {
  mixed := by kernel_rfl
  f274 := Tryd.func103.trans (congrArg some (by kernel_rfl))
  f275 := Tryd.func104.trans (congrArg some (by kernel_rfl))
  f313 := Tryd.func125.trans (congrArg some (by kernel_rfl))
  t0 := Tryd.underlying0
  a0 := Tryd.isAgg0
  z0 := Tryd.sizeOf0
  v0 := Tryd.zeroValue0
  t3 := Tryd.underlying3
  a3 := Tryd.isAgg3
  z3 := Tryd.sizeOf3
  v3 := Tryd.zeroValue3
  t4 := Tryd.underlying4
  a4 := Tryd.isAgg4
  z4 := Tryd.sizeOf4
  v4 := Tryd.zeroValue4
  t21 := Tryd.underlying21
  a21 := Tryd.isAgg21
  z21 := Tryd.sizeOf21
  v21 := Tryd.zeroValue21
  t46 := Tryd.underlying102
  a46 := Tryd.isAgg102
  z46 := Tryd.sizeOf102
  v46 := Tryd.zeroValue102
  t51 := Tryd.underlying149
  a51 := Tryd.isAgg149
  z51 := Tryd.sizeOf149
  v51 := Tryd.zeroValue149
  t160 := Tryd.underlying138
  a160 := Tryd.isAgg138
  z160 := Tryd.sizeOf138
  v160 := Tryd.zeroValue138
  t162 := Tryd.underlying140
  a162 := Tryd.isAgg140
  z162 := Tryd.sizeOf140
  v162 := Tryd.zeroValue140
  t206 := Tryd.underlying166
  a206 := Tryd.isAgg166
  z206 := Tryd.sizeOf166
  v206 := Tryd.zeroValue166
  t208 := Tryd.underlying168
  a208 := Tryd.isAgg168
  z208 := Tryd.sizeOf168
  v208 := Tryd.zeroValue168 }
open Go.RowKit Go.Lib in
theorem Tryd.unicode_to (c : Nat) (hc : c < 3) (r : Int) (T : Array CaseRow) (R oR cap : Nat) (w : World) (hT : CaseTab R oR T w) (hok : CaseOk2 T) (hn : T.size ≤ 1000000000) :
    Calls Tryd.prog 125 #[.int .i64 c, .int .i32 r, .slice (some ⟨R, oR, none⟩) T.size cap] w fun e w' => e = .returned (.tuple #[.int .i32 (toW T c r), .bool (lookupIdx T r (T.size + 1) 0 T.size).isSome]) ∧ ∃ q, w' = w.drewN q := Any.unicode_to Tryd.lays313 c hc r T R oR cap w hT hok hn
def Tryd.lays262_ren : Go.Shelf.Ren := ⟨fun | 262 => 110 | 313 => 125 | 274 => 103 | 275 => 104 | n => n, fun | 3 => 3 | 21 => 21 | 162 => 140 | 203 => 173 | 4 => 4 | 160 => 138 | 46 => 102 | 0 => 0 | 208 => 168 | 51 => 149 | 206 => 166 | n => n, fun | 13 => 4 | n => n⟩
theorem Tryd.lays262 : Go.Proofs.Lays.n262 Tryd.prog Tryd.lays262_ren := {
  mixed := by kernel_rfl
  f262 := Tryd.func110.trans (congrArg some (by kernel_rfl))
  f274 := Tryd.func103.trans (congrArg some (by kernel_rfl))
  f275 := Tryd.func104.trans (congrArg some (by kernel_rfl))
  f313 := Tryd.func125.trans (congrArg some (by kernel_rfl))
  t0 := Tryd.underlying0
  a0 := Tryd.isAgg0
  z0 := Tryd.sizeOf0
  v0 := Tryd.zeroValue0
  t3 := Tryd.underlying3
  a3 := Tryd.isAgg3
  z3 := Tryd.sizeOf3
  v3 := Tryd.zeroValue3
  t4 := Tryd.underlying4
  a4 := Tryd.isAgg4
  z4 := Tryd.sizeOf4
  v4 := Tryd.zeroValue4
  t21 := Tryd.underlying21
  a21 := Tryd.isAgg21
  z21 := Tryd.sizeOf21
  v21 := Tryd.zeroValue21
  t46 := Tryd.underlying102
  a46 := Tryd.isAgg102
  z46 := Tryd.sizeOf102
  v46 := Tryd.zeroValue102
  t51 := Tryd.underlying149
  a51 := Tryd.isAgg149
  z51 := Tryd.sizeOf149
  v51 := Tryd.zeroValue149
  t160 := Tryd.underlying138
  a160 := Tryd.isAgg138
  z160 := Tryd.sizeOf138
  v160 := Tryd.zeroValue138
  t162 := Tryd.underlying140
  a162 := Tryd.isAgg140
  z162 := Tryd.sizeOf140
  v162 := Tryd.zeroValue140
  t203 := Tryd.underlying173
  a203 := Tryd.isAgg173
  z203 := Tryd.sizeOf173
  v203 := Tryd.zeroValue173
  t206 := Tryd.underlying166
  a206 := Tryd.isAgg166
  z206 := Tryd.sizeOf166
  v206 := Tryd.zeroValue166
  t208 := Tryd.underlying168
  a208 := Tryd.isAgg168
  z208 := Tryd.sizeOf168
  v208 := Tryd.zeroValue168
  g13 := by kernel_rfl }
open Go.RowKit Go.Lib in
theorem Tryd.unicode_To (c : Nat) (hc : c < 3) (r : Int) (T : Array CaseRow) (w : World) (hV : CaseVar 4 T w) (hok : CaseOk2 T) (hn : T.size ≤ 1000000000) :
    Calls Tryd.prog 110 #[.int .i64 c, .int .i32 r] w fun e w' => e = .returned (.int .i32 (toW T c r)) ∧ ∃ q, w' = w.drewN q := Any.unicode_To Tryd.lays262 c hc r T w hV hok hn
open Go.RowKit Go.Lib in
theorem Tryd.unicode_ToUpper_any (r : Int) (T : Array CaseRow) (w : World) (hV : CaseVar 4 T w) (hok : CaseOk2 T) (hn : T.size ≤ 1000000000) :
    Calls Tryd.prog 85 #[.int .i32 r] w fun e w' => e = .returned (.int .i32 (Lib.toUpperW T r)) ∧ ∃ q, w' = w.drewN q := Any.unicode_ToUpper_any Tryd.lays203 r T w hV hok hn
open Go.RowKit Go.Lib in
theorem Tryd.unicode_ToUpper_laid (r : Int) (w : World) (hV : CaseVar 4 caseA w) :
    Calls Tryd.prog 85 #[.int .i32 r] w fun e w' => e = .returned (.int .i32 (toUpperU r)) ∧ ∃ q, w' = w.drewN q := Any.unicode_ToUpper_laid Tryd.lays203 r w hV
def Tryd.lays270_ren : Go.Shelf.Ren := ⟨fun | 270 => 109 | n => n, fun | 70 => 109 | 3 => 3 | 0 => 0 | 72 => 111 | 37 => 33 | 5 => 5 | n => n, fun | n => n⟩
theorem Tryd.lays270 : Go.Proofs.Lays.n270 Tryd.prog Tryd.lays270_ren := {
  mixed := by kernel_rfl
  f270 := Tryd.func109.trans (congrArg some (by kernel_rfl))
  t0 := Tryd.underlying0
  a0 := Tryd.isAgg0
  z0 := Tryd.sizeOf0
  v0 := Tryd.zeroValue0
  t3 := Tryd.underlying3
  a3 := Tryd.isAgg3
  z3 := Tryd.sizeOf3
  v3 := Tryd.zeroValue3
  t37 := Tryd.underlying33
  a37 := Tryd.isAgg33
  z37 := Tryd.sizeOf33
  v37 := Tryd.zeroValue33
  t70 := Tryd.underlying109
  a70 := Tryd.isAgg109
  z70 := Tryd.sizeOf109
  v70 := Tryd.zeroValue109
  t72 := Tryd.underlying111
  a72 := Tryd.isAgg111
  z72 := Tryd.sizeOf111
  v72 := Tryd.zeroValue111 }
open Go.RowKit Go.Lib in
/-- (*strings.Builder).Cap: "Cap returns the capacity of the builder's underlying byte slice." (LAID: no walk: one application.) -/
theorem Tryd.Builder_Cap_cell (b : Nat) (p : Option Addr) (n cap : Nat) (w : World) (c1 : w.cell? ⟨b, 1, none⟩ = some (.slice p n cap)) :
    Calls Tryd.prog 109 #[.pointer (some ⟨b, 0, none⟩)] w fun e w' => e = .returned (.int .i64 cap) ∧ w' = w := Any.Builder_Cap_cell Tryd.lays270 b p n cap w c1
def Tryd.lays230_ren : Go.Shelf.Ren := ⟨fun | 230 => 84 | 197 => 78 | 118 => 107 | 165 => 80 | 166 => 81 | 168 => 108 | 270 => 109 | 167 => 82 | 169 => 83 | 260 => 102 | 240 => 105 | 241 => 106 | 242 => 124 | 276 => 122 | 277 => 123 | 278 => 132 | n => n, fun | 107 => 108 | 9 => 9 | 72 => 111 | 0 => 0 | 4 => 4 | 3 => 3 | 21 => 21 | 105 => 106 | 76 => 113 | 5 => 5 | 75 => 92 | 70 => 109 | 20 => 20 | 37 => 33 | 127 => 142 | 119 => 121 | 46 => 102 | 139 => 164 | 138 => 163 | 164 => 169 | 51 => 149 | 80 => 82 | n => n, fun | 3 => 9 | 4 => 10 | n => n⟩
theorem Tryd.lays230 : Go.Proofs.Lays.n230 Tryd.prog Tryd.lays230_ren := {
  mixed := by kernel_rfl
  f118 := Tryd.func107.trans (congrArg some (by kernel_rfl))
  f165 := Tryd.func80.trans (congrArg some (by kernel_rfl))
  f166 := Tryd.func81.trans (congrArg some (by kernel_rfl))
  f167 := Tryd.func82.trans (congrArg some (by kernel_rfl))
  f168 := Tryd.func108.trans (congrArg some (by kernel_rfl))
  f169 := Tryd.func83.trans (congrArg some (by kernel_rfl))
  f197 := Tryd.func78.trans (congrArg some (by kernel_rfl))
  f230 := Tryd.func84.trans (congrArg some (by kernel_rfl))
  f240 := Tryd.func105.trans (congrArg some (by kernel_rfl))
  f241 := Tryd.func106.trans (congrArg some (by kernel_rfl))
  f242 := Tryd.func124.trans (congrArg some (by kernel_rfl))
  f260 := Tryd.func102.trans (congrArg some (by kernel_rfl))
  f270 := Tryd.func109.trans (congrArg some (by kernel_rfl))
  f276 := Tryd.func122.trans (congrArg some (by kernel_rfl))
  f277 := Tryd.func123.trans (congrArg some (by kernel_rfl))
  f278 := Tryd.func132.trans (congrArg some (by kernel_rfl))
  t0 := Tryd.underlying0
  a0 := Tryd.isAgg0
  z0 := Tryd.sizeOf0
  v0 := Tryd.zeroValue0
  t3 := Tryd.underlying3
  a3 := Tryd.isAgg3
  z3 := Tryd.sizeOf3
  v3 := Tryd.zeroValue3
  t4 := Tryd.underlying4
  a4 := Tryd.isAgg4
  z4 := Tryd.sizeOf4
  v4 := Tryd.zeroValue4
  t5 := Tryd.underlying5
  a5 := Tryd.isAgg5
  z5 := Tryd.sizeOf5
  v5 := Tryd.zeroValue5
  t9 := Tryd.underlying9
  a9 := Tryd.isAgg9
  z9 := Tryd.sizeOf9
  v9 := Tryd.zeroValue9
  t20 := Tryd.underlying20
  a20 := Tryd.isAgg20
  z20 := Tryd.sizeOf20
  v20 := Tryd.zeroValue20
  t21 := Tryd.underlying21
  a21 := Tryd.isAgg21
  z21 := Tryd.sizeOf21
  v21 := Tryd.zeroValue21
  t37 := Tryd.underlying33
  a37 := Tryd.isAgg33
  z37 := Tryd.sizeOf33
  v37 := Tryd.zeroValue33
  t46 := Tryd.underlying102
  a46 := Tryd.isAgg102
  z46 := Tryd.sizeOf102
  v46 := Tryd.zeroValue102
  t51 := Tryd.underlying149
  a51 := Tryd.isAgg149
  z51 := Tryd.sizeOf149
  v51 := Tryd.zeroValue149
  t70 := Tryd.underlying109
  a70 := Tryd.isAgg109
  z70 := Tryd.sizeOf109
  v70 := Tryd.zeroValue109
  t72 := Tryd.underlying111
  a72 := Tryd.isAgg111
  z72 := Tryd.sizeOf111
  v72 := Tryd.zeroValue111
  t75 := Tryd.underlying92
  a75 := Tryd.isAgg92
  z75 := Tryd.sizeOf92
  v75 := Tryd.zeroValue92
  t76 := Tryd.underlying113
  a76 := Tryd.isAgg113
  z76 := Tryd.sizeOf113
  v76 := Tryd.zeroValue113
  t105 := Tryd.underlying106
  a105 := Tryd.isAgg106
  z105 := Tryd.sizeOf106
  v105 := Tryd.zeroValue106
  t107 := Tryd.underlying108
  a107 := Tryd.isAgg108
  z107 := Tryd.sizeOf108
  v107 := Tryd.zeroValue108
  t119 := Tryd.underlying121
  a119 := Tryd.isAgg121
  z119 := Tryd.sizeOf121
  t127 := Tryd.underlying142
  a127 := Tryd.isAgg142
  z127 := Tryd.sizeOf142
  v127 := Tryd.zeroValue142
  t138 := Tryd.underlying163
  a138 := Tryd.isAgg163
  z138 := Tryd.sizeOf163
  v138 := Tryd.zeroValue163
  t139 := Tryd.underlying164
  a139 := Tryd.isAgg164
  z139 := Tryd.sizeOf164
  v139 := Tryd.zeroValue164
  t164 := Tryd.underlying169
  a164 := Tryd.isAgg169
  z164 := Tryd.sizeOf169
  v164 := Tryd.zeroValue169
  g3 := by kernel_rfl
  g4 := by kernel_rfl }
theorem Tryd.Builder_Extra_230 : Builder.Extra Tryd.prog Tryd.lays230_ren := {
  sizeBuilder := by kernel_rfl
  liesBuilder := by kernel_rfl
  t5 := Tryd.underlying5
  a5 := Tryd.isAgg5
  z5 := Tryd.sizeOf5
  v5 := Tryd.zeroValue5
  infoByte := by kernel_rfl
  cellsByte := by kernel_rfl
  sizeByte := by kernel_rfl
  neB5 := by decide }
open Go.RowKit Go.Lib in
theorem Tryd.strings_Map_runes (g : Nat) (lb : Array Value) (eg : ∀ args w, (callFunc g args).run Tryd.prog w = .ok (.enter g args) w) (f : Int → Int) (s : ByteArray) (w : World) (hs : s.size < 35184372088832) (hf : MapAtRunes Tryd.prog g lb f w) (hnn : ∀ x : Nat, x ≤ 1114111 → 0 ≤ f x ∧ f x ≤ 2147483647) (hT : Lib.Utf8Tabs 9 10 w) :
    Calls Tryd.prog 84 #[.func (.func g) #[] lb, .string s] w fun e w' => e = .returned (.string ⟨(Lib.mapD f s.data.toList).toArray⟩) ∧ Below w.heap.size w w' := Any.strings_Map_runes Tryd.lays230 Tryd.Builder_Extra_230 g lb eg f s w hs hf hnn hT
open Go.RowKit Go.Lib in
theorem Tryd.strings_ToUpper_beyond (s : ByteArray) (w : World) (hs : s.size < 35184372088832) (hhigh : ∃ (j : Nat) (b : UInt8), s.data.toList[j]? = some b ∧ 128 ≤ b.toNat) (hV : CaseVar 4 caseA w) (hT : Lib.Utf8Tabs 9 10 w) :
    Calls Tryd.prog 66 #[.string s] w fun e w' => e = .returned (.string ⟨(Lib.toUpperD s.data.toList).toArray⟩) ∧ Below w.heap.size w w' := Any.strings_ToUpper_beyond Tryd.lays158 Tryd.Builder_Extra_158 s w hs hhigh hV hT
open Go.RowKit Go.Lib in
/-- **strings.ToUpper AT EVERY STRING, VALID UTF-8 OR NOT.** (LAID: no walk: one application.) -/
theorem Tryd.strings_ToUpper_any (s : ByteArray) (w : World) (hs : s.size < 35184372088832) (hV : CaseVar 4 caseA w) (hT : Lib.Utf8Tabs 9 10 w) :
    Calls Tryd.prog 66 #[.string s] w fun e w' => e = .returned (.string ⟨(Lib.toUpperD s.data.toList).toArray⟩) ∧ Below w.heap.size w w' := Any.strings_ToUpper_any Tryd.lays158 Tryd.Builder_Extra_158 s w hs hV hT
open Go.RowKit Go.Lib in
theorem Tryd.unicode_is16_any (T : Array Rg) (R oR cap : Nat) (z : Nat) (w : World) (hz : z < 65536) (hT : RgTab .u16 R oR T w) (hok : RgOk 65536 T) (hn : T.size ≤ 1000000000) :
    Calls Tryd.prog 127 #[.slice (some ⟨R, oR, none⟩) T.size cap, .int .u16 z] w fun e w' => e = .returned (.bool (is16Go T z)) ∧ ∃ q, w' = w.drewN q := Any.unicode_is16_any Tryd.lays311 T R oR cap z w hz hT hok hn
def Tryd.lays312_ren : Go.Shelf.Ren := ⟨fun | 312 => 128 | n => n, fun | 194 => 177 | 51 => 149 | 4 => 4 | 3 => 3 | 0 => 0 | 227 => 191 | 201 => 184 | 46 => 102 | n => n, fun | n => n⟩
theorem Tryd.lays312 : Go.Proofs.Lays.n312 Tryd.prog Tryd.lays312_ren := {
  mixed := by kernel_rfl
  f312 := Tryd.func128.trans (congrArg some (by kernel_rfl))
  t0 := Tryd.underlying0
  a0 := Tryd.isAgg0
  z0 := Tryd.sizeOf0
  v0 := Tryd.zeroValue0
  t3 := Tryd.underlying3
  a3 := Tryd.isAgg3
  z3 := Tryd.sizeOf3
  v3 := Tryd.zeroValue3
  t4 := Tryd.underlying4
  a4 := Tryd.isAgg4
  z4 := Tryd.sizeOf4
  v4 := Tryd.zeroValue4
  t46 := Tryd.underlying102
  a46 := Tryd.isAgg102
  z46 := Tryd.sizeOf102
  v46 := Tryd.zeroValue102
  t51 := Tryd.underlying149
  a51 := Tryd.isAgg149
  z51 := Tryd.sizeOf149
  v51 := Tryd.zeroValue149
  t194 := Tryd.underlying177
  a194 := Tryd.isAgg177
  z194 := Tryd.sizeOf177
  v194 := Tryd.zeroValue177
  t201 := Tryd.underlying184
  a201 := Tryd.isAgg184
  z201 := Tryd.sizeOf184
  v201 := Tryd.zeroValue184
  t227 := Tryd.underlying191
  a227 := Tryd.isAgg191
  z227 := Tryd.sizeOf191
  v227 := Tryd.zeroValue191 }
open Go.RowKit Go.Lib in
theorem Tryd.unicode_is32_any (T : Array Rg) (R oR cap : Nat) (z : Nat) (w : World) (hz : z < 4294967296) (hT : RgTab .u32 R oR T w) (hok : RgOk 4294967296 T) (hn : T.size ≤ 1000000000) :
    Calls Tryd.prog 128 #[.slice (some ⟨R, oR, none⟩) T.size cap, .int .u32 z] w fun e w' => e = .returned (.bool (is32Go T z)) ∧ Below w.heap.size w w' := Any.unicode_is32_any Tryd.lays312 T R oR cap z w hz hT hok hn
open Go.RowKit Go.Lib in
theorem Tryd.unicode_isExcludingLatin_any (Tb oT : Nat) (T : RTab) (r : Int) (w : World) (hlo : -2147483648 ≤ r) (hhi : r ≤ 2147483647) (hA : RTabAt Tb oT T w) (hok : RTabOk T) :
    Calls Tryd.prog 113 #[.pointer (some ⟨Tb, oT, none⟩), .int .i32 r] w fun e w' => e = .returned (.bool (exclGo T r)) ∧ Below w.heap.size w w' := Any.unicode_isExcludingLatin_any Tryd.lays261 Tb oT T r w hlo hhi hA hok
open Go.RowKit Go.Lib in
theorem Tryd.strings_indexFunc_grows (g : Nat) (lb : Array Value) (eg : ∀ args w, (callFunc g args).run Tryd.prog w = .ok (.enter g args) w) (p : Nat → Bool) (truth : Bool) (s : ByteArray) (w : World) (hp : PredGrows Tryd.prog g lb p w) :
    Calls Tryd.prog 126 #[.string s, .func (.func g) #[] lb, .bool truth] w fun e w' => e = .returned (.int .i64 (Lib.idxFunc p truth s)) ∧ Below w.heap.size w w' := Any.strings_indexFunc_grows Tryd.lays315 g lb eg p truth s w hp
open Go.RowKit Go.Lib in
theorem Tryd.strings_lastIndexFunc_grows (g : Nat) (lb : Array Value) (eg : ∀ args w, (callFunc g args).run Tryd.prog w = .ok (.enter g args) w) (p : Nat → Bool) (truth : Bool) (s : ByteArray) (w : World) (hs : s.size ≤ 9223372036854775807) (hT : Lib.Utf8Tabs 9 10 w) (hp : PredGrows Tryd.prog g lb p w) :
    Calls Tryd.prog 114 #[.string s, .func (.func g) #[] lb, .bool truth] w fun e w' => e = .returned (.int .i64 (Lib.lastIdxFunc p truth s)) ∧ Below w.heap.size w w' := Any.strings_lastIndexFunc_grows Tryd.lays273 g lb eg p truth s w hs hT hp
open Go.RowKit Go.Lib in
theorem Tryd.strings_TrimLeftFunc_grows (g : Nat) (lb : Array Value) (eg : ∀ args w, (callFunc g args).run Tryd.prog w = .ok (.enter g args) w) (p : Nat → Bool) (s : ByteArray) (w : World) (hp : PredGrows Tryd.prog g lb p w) :
    Calls Tryd.prog 112 #[.string s, .func (.func g) #[] lb] w fun e w' => e = .returned (.string (Lib.trimLeftF p s)) ∧ Below w.heap.size w w' := Any.strings_TrimLeftFunc_grows Tryd.lays272 g lb eg p s w hp
open Go.RowKit Go.Lib in
theorem Tryd.strings_TrimRightFunc_grows (g : Nat) (lb : Array Value) (eg : ∀ args w, (callFunc g args).run Tryd.prog w = .ok (.enter g args) w) (p : Nat → Bool) (s : ByteArray) (w : World) (hs : s.size ≤ 9223372036854775807) (hT : Lib.Utf8Tabs 9 10 w) (hp : PredGrows Tryd.prog g lb p w) :
    Calls Tryd.prog 89 #[.string s, .func (.func g) #[] lb] w fun e w' => e = .returned (.string (Lib.trimRightF p s)) ∧ Below w.heap.size w w' := Any.strings_TrimRightFunc_grows Tryd.lays238 g lb eg p s w hs hT hp
open Go.RowKit Go.Lib in
/-- **strings.TrimFunc(s, f) AT EVERY STRING, AT WHATEVER FUNCTION VALUE.** (LAID: no walk: one application.) -/
theorem Tryd.strings_TrimFunc_grows (g : Nat) (lb : Array Value) (eg : ∀ args w, (callFunc g args).run Tryd.prog w = .ok (.enter g args) w) (p : Nat → Bool) (s : ByteArray) (w : World) (hs : s.size ≤ 9223372036854775807) (hT : Lib.Utf8Tabs 9 10 w) (hp : PredGrows Tryd.prog g lb p w) :
    Calls Tryd.prog 87 #[.string s, .func (.func g) #[] lb] w fun e w' => e = .returned (.string (Lib.trimF p s)) ∧ Below w.heap.size w w' := Any.strings_TrimFunc_grows Tryd.lays237 g lb eg p s w hs hT hp
open Go.RowKit Go.Lib in
/-- **strings.Map(mapping, s) AT EVERY STRING, AT WHATEVER FUNCTION VALUE: IT MAY DROP RUNES (a negative result); IT MAY GROW THE HEAP.** (LAID: no walk: one application.) -/
theorem Tryd.strings_Map_grows (g : Nat) (lb : Array Value) (eg : ∀ args w, (callFunc g args).run Tryd.prog w = .ok (.enter g args) w) (f : Int → Int) (s : ByteArray) (w : World) (hs : s.size < 35184372088832) (hf : MapGrows Tryd.prog g lb f w) (hnn : ∀ x : Nat, x ≤ 1114111 → -2147483648 ≤ f x ∧ f x ≤ 2147483647) (hT : Lib.Utf8Tabs 9 10 w) :
    Calls Tryd.prog 84 #[.func (.func g) #[] lb, .string s] w fun e w' => e = .returned (.string ⟨(Lib.mapD f s.data.toList).toArray⟩) ∧ Below w.heap.size w w' := Any.strings_Map_grows Tryd.lays230 Tryd.Builder_Extra_230 g lb eg f s w hs hf hnn hT
def Tryd.lays109_ren : Go.Shelf.Ren := ⟨fun | 109 => 72 | n => n, fun | 31 => 53 | 9 => 9 | 3 => 3 | 0 => 0 | 4 => 4 | n => n, fun | n => n⟩
theorem Tryd.lays109 : Go.Proofs.Lays.n109 Tryd.prog Tryd.lays109_ren := {
  mixed := by kernel_rfl
  f109 := Tryd.func72.trans (congrArg some (by kernel_rfl))
  t0 := Tryd.underlying0
  a0 := Tryd.isAgg0
  z0 := Tryd.sizeOf0
  v0 := Tryd.zeroValue0
  t3 := Tryd.underlying3
  a3 := Tryd.isAgg3
  z3 := Tryd.sizeOf3
  v3 := Tryd.zeroValue3
  t4 := Tryd.underlying4
  a4 := Tryd.isAgg4
  z4 := Tryd.sizeOf4
  v4 := Tryd.zeroValue4
  t9 := Tryd.underlying9
  a9 := Tryd.isAgg9
  z9 := Tryd.sizeOf9
  v9 := Tryd.zeroValue9
  t31 := Tryd.underlying53
  a31 := Tryd.isAgg53
  z31 := Tryd.sizeOf53
  v31 := Tryd.zeroValue53 }
open Go.Lib in
/-- slices.Index at []string: "Index returns the index of the first occurrence of v in s, or -1 if not present.": IT RETURNS 'Lib.idxOfS (the elements) v'; the world is as it was. 'zs': what the cells behind the slice's address hold (its spare capacity too, if you have it); 'zs.take n': its elements. (LAID: no walk: one application.) -/
theorem Tryd.slices_Index_string (b off n c : Nat) (zs : List ByteArray) (x : ByteArray) (w : World) (hz : n ≤ zs.length) (hbig : n ≤ 9223372036854775807) (hc : ∀ j, j < zs.length → w.cell? ⟨b, off + j, none⟩ = some (.string (zs.getD j ByteArray.empty))) :
    Calls Tryd.prog 72 #[.slice (some ⟨b, off, none⟩) n c, .string x] w fun e w' => e = .returned (.int .i64 (Lib.idxOfS (zs.take n) x)) ∧ w' = w := Any.slices_Index_string Tryd.lays109 b off n c zs x w hz hbig hc
open Go.Lib in
/-- The same at a slice of length 0, a nil one too: no cell is known, none is asked for. (LAID: no walk: one application.) -/
theorem Tryd.slices_Index_string_empty (a : Option Addr) (c : Nat) (x : ByteArray) (w : World) :
    Calls Tryd.prog 72 #[.slice a 0 c, .string x] w fun e w' => e = .returned (.int .i64 (Lib.idxOfS [] x)) ∧ w' = w := Any.slices_Index_string_empty Tryd.lays109 a c x w
def Tryd.lays110_ren : Go.Shelf.Ren := ⟨fun | 110 => 55 | 109 => 72 | n => n, fun | 31 => 53 | 9 => 9 | 4 => 4 | 3 => 3 | 0 => 0 | n => n, fun | n => n⟩
theorem Tryd.lays110 : Go.Proofs.Lays.n110 Tryd.prog Tryd.lays110_ren := {
  mixed := by kernel_rfl
  f109 := Tryd.func72.trans (congrArg some (by kernel_rfl))
  f110 := Tryd.func55.trans (congrArg some (by kernel_rfl))
  t0 := Tryd.underlying0
  a0 := Tryd.isAgg0
  z0 := Tryd.sizeOf0
  v0 := Tryd.zeroValue0
  t3 := Tryd.underlying3
  a3 := Tryd.isAgg3
  z3 := Tryd.sizeOf3
  v3 := Tryd.zeroValue3
  t4 := Tryd.underlying4
  a4 := Tryd.isAgg4
  z4 := Tryd.sizeOf4
  v4 := Tryd.zeroValue4
  t9 := Tryd.underlying9
  a9 := Tryd.isAgg9
  z9 := Tryd.sizeOf9
  v9 := Tryd.zeroValue9
  t31 := Tryd.underlying53
  a31 := Tryd.isAgg53
  z31 := Tryd.sizeOf53
  v31 := Tryd.zeroValue53 }
open Go.Lib in
/-- slices.Contains at []string: "Contains reports whether v is present in s.": IT RETURNS 'Lib.containsS (the elements) v', which is true just where v is among them ('Lib.containsS_iff'); the world is as it was. ITS CALLEE slices.Index IS MET BY ITS OWN CONTRACT OFF THE SHELF (lay that first): no loop is walked here. (LAID: no walk: one application.) -/
theorem Tryd.slices_Contains_string (b off n c : Nat) (zs : List ByteArray) (x : ByteArray) (w : World) (hz : n ≤ zs.length) (hbig : n ≤ 9223372036854775807) (hc : ∀ j, j < zs.length → w.cell? ⟨b, off + j, none⟩ = some (.string (zs.getD j ByteArray.empty))) :
    Calls Tryd.prog 55 #[.slice (some ⟨b, off, none⟩) n c, .string x] w fun e w' => e = .returned (.bool (Lib.containsS (zs.take n) x)) ∧ w' = w := Any.slices_Contains_string Tryd.lays110 b off n c zs x w hz hbig hc
open Go.Lib in
/-- The same at a slice of length 0, a nil one too. (LAID: no walk: one application.) -/
theorem Tryd.slices_Contains_string_empty (a : Option Addr) (c : Nat) (x : ByteArray) (w : World) :
    Calls Tryd.prog 55 #[.slice a 0 c, .string x] w fun e w' => e = .returned (.bool false) ∧ w' = w := Any.slices_Contains_string_empty Tryd.lays110 a c x w
end Go.Proofs
