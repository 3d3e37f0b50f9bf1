/-
  DERIVED: THE SHELF's CONTRACTS AT THIS DUMP, IN PLAIN WORDS (tools/lay-plain.mjs out of 'TryzShelf.lean', which tools/lay-shelf.mjs wrote): THE SAME DECLARATIONS UNDER THE SAME NAMES: 'import', 'namespace', 'open', 'def', 'theorem' AND NOTHING ELSE: no command of the shelf's: FOR A HAND-IN. Each laying: the table of numbers ('.._ren') and one theorem, a field a fact of the dump's own or the kernel's comparison; each contract: ONE APPLICATION.
-/
import Derived.Shelf.Strings.Builder1
import Derived.Shelf.Strings.Builder2
import Derived.Shelf.Strings.Trim
import Derived.Shelf.Small.Utf8
import Derived.Shelf.Small.Strs
import Derived.Shelf.Strings.BuilderF
import Derived.Shelf.Strconv.Atoi
import Derived.Shelf.Strconv.Itoa0
import Derived.Shelf.Strconv.Itoa1
import Derived.Shelf.LaysM
import Derived.Shelf.Strconv.Itoa2
import Derived.Shelf.Strconv.Itoa3
import Derived.Shelf.Strconv.Clone
import Derived.Shelf.Strconv.RangeError
import Derived.Shelf.LaysC
import Derived.Shelf.Strconv.ToErrorRange
import Derived.Shelf.Strings.Search1
import Derived.Shelf.Strings.Search2
import Derived.Shelf.Strings.Cut
import Derived.Shelf.Strings.Shaped
import Derived.Shelf.Strconv.AppendUint10
import Derived.Shelf.Strconv.AppendInt10
import Derived.Shelf.Strconv.AppendIntPublic10
import Derived.Shelf.Strings.Prefix
import Derived.Shelf.Unicode.Decode
import Derived.Shelf.Strings.Runes
import Derived.Shelf.Strings.AsciiSet
import Derived.Shelf.Bits.Mul64
import Derived.Shelf.Strings.Repeat
import Derived.Shelf.Unicode.DecodeSlow
import Derived.Shelf.Unicode.DecodeAny
import Derived.Shelf.Unicode.DecodeLast
import Derived.Test.Qxb6606417aGreatDoorProg
namespace Go.Proofs
open Go.Shelf
def Tryz.lays170_ren : Go.Shelf.Ren := ⟨fun | 170 => 63 | n => n, fun | 70 => 58 | 3 => 3 | 0 => 0 | 72 => 60 | 37 => 39 | 5 => 5 | n => n, fun | n => n⟩
theorem Tryz.lays170 : Go.Proofs.Lays.n170 Tryz.prog Tryz.lays170_ren := {
  mixed := by kernel_rfl
  f170 := Tryz.func63.trans (congrArg some (by kernel_rfl))
  t0 := Tryz.underlying0
  a0 := Tryz.isAgg0
  z0 := Tryz.sizeOf0
  v0 := Tryz.zeroValue0
  t3 := Tryz.underlying3
  a3 := Tryz.isAgg3
  z3 := Tryz.sizeOf3
  v3 := Tryz.zeroValue3
  t37 := Tryz.underlying39
  a37 := Tryz.isAgg39
  z37 := Tryz.sizeOf39
  v37 := Tryz.zeroValue39
  t70 := Tryz.underlying58
  a70 := Tryz.isAgg58
  z70 := Tryz.sizeOf58
  v70 := Tryz.zeroValue58
  t72 := Tryz.underlying60
  a72 := Tryz.isAgg60
  z72 := Tryz.sizeOf60
  v72 := Tryz.zeroValue60 }
open Go.RowKit in
/-- (*strings.Builder).Len: "Len returns the number of accumulated bytes; b.Len() == len(b.String()).": the world is as it was. (LAID: no walk: one application.) -/
theorem Tryz.Builder_Len (B b : Nat) (bs : List Value) (w : World) (h : Lib.IsBuilder 60 5 B b bs w) :
    Calls Tryz.prog 63 #[.pointer (some ⟨b, 0, none⟩)] w fun e w' => e = .returned (.int .i64 bs.length) ∧ w' = w := Any.Builder_Len Tryz.lays170 B b bs w h
def Tryz.lays169_ren : Go.Shelf.Ren := ⟨fun | 169 => 36 | n => n, fun | 70 => 58 | 9 => 9 | 0 => 0 | 72 => 60 | 37 => 39 | 127 => 90 | 3 => 3 | 5 => 5 | n => n, fun | n => n⟩
theorem Tryz.lays169 : Go.Proofs.Lays.n169 Tryz.prog Tryz.lays169_ren := {
  mixed := by kernel_rfl
  f169 := Tryz.func36.trans (congrArg some (by kernel_rfl))
  t0 := Tryz.underlying0
  a0 := Tryz.isAgg0
  z0 := Tryz.sizeOf0
  v0 := Tryz.zeroValue0
  t3 := Tryz.underlying3
  a3 := Tryz.isAgg3
  z3 := Tryz.sizeOf3
  v3 := Tryz.zeroValue3
  t9 := Tryz.underlying9
  a9 := Tryz.isAgg9
  z9 := Tryz.sizeOf9
  v9 := Tryz.zeroValue9
  t37 := Tryz.underlying39
  a37 := Tryz.isAgg39
  z37 := Tryz.sizeOf39
  v37 := Tryz.zeroValue39
  t70 := Tryz.underlying58
  a70 := Tryz.isAgg58
  z70 := Tryz.sizeOf58
  v70 := Tryz.zeroValue58
  t72 := Tryz.underlying60
  a72 := Tryz.isAgg60
  z72 := Tryz.sizeOf60
  v72 := Tryz.zeroValue60
  t127 := Tryz.underlying90
  a127 := Tryz.isAgg90
  z127 := Tryz.sizeOf90
  v127 := Tryz.zeroValue90 }
theorem Tryz.Builder_Extra_169 : Builder.Extra Tryz.prog Tryz.lays169_ren := {
  sizeBuilder := by kernel_rfl
  liesBuilder := by kernel_rfl
  t5 := Tryz.underlying5
  a5 := Tryz.isAgg5
  z5 := Tryz.sizeOf5
  v5 := Tryz.zeroValue5
  infoByte := by kernel_rfl
  cellsByte := by kernel_rfl
  sizeByte := by kernel_rfl
  neB5 := by decide }
open Go.RowKit in
/-- (*strings.Builder).String: "String returns the accumulated string.": OF A BUILDER THAT HOLDS AT LEAST ONE BYTE. ✋ THE MODEL FREEZES THOSE BYTES IN THE BUFFER (u-n-s-a-f-e.String): a later write INTO them ends the model's run without an answer; a later append BEHIND them goes on. The statement's order of evaluation is drawn: one draw. (LAID: no walk: one application.) -/
theorem Tryz.Builder_String (B b : Nat) (l : List UInt8) (w : World) (h : Lib.IsBuilder 60 5 B b (Lib.byteCells l) w) (h0 : l ≠ []) :
    Calls Tryz.prog 36 #[.pointer (some ⟨b, 0, none⟩)] w fun e w' => e = .returned (.string ⟨l.toArray⟩) ∧ Below B w w' := Any.Builder_String Tryz.lays169 Tryz.Builder_Extra_169 B b l w h h0
open Go.RowKit in
/-- (*strings.Builder).String OF A BUILDER THAT HOLDS NO BYTE: the empty string. (Its buffer is nil, or a row of which it has taken nothing yet; where that row has NO capacity the model lays one new block for u-n-s-a-f-e.SliceData's 'some address'.) One draw. (LAID: no walk: one application.) -/
theorem Tryz.Builder_String_empty (B b : Nat) (w : World) (h : Lib.IsBuilder 60 5 B b [] w) (hBw : B ≤ w.heap.size) :
    Calls Tryz.prog 36 #[.pointer (some ⟨b, 0, none⟩)] w fun e w' => e = .returned (.string ⟨#[]⟩) ∧ Below B w w' := Any.Builder_String_empty Tryz.lays169 Tryz.Builder_Extra_169 B b w h hBw
open Go.RowKit in
/-- (*strings.Builder).String: "String returns the accumulated string.": WHATEVER THE BUILDER HOLDS. (LAID: no walk: one application.) -/
theorem Tryz.Builder_String_any (B b : Nat) (l : List UInt8) (w : World) (h : Lib.IsBuilder 60 5 B b (Lib.byteCells l) w) (hBw : B ≤ w.heap.size) :
    Calls Tryz.prog 36 #[.pointer (some ⟨b, 0, none⟩)] w fun e w' => e = .returned (.string ⟨l.toArray⟩) ∧ Below B w w' := Any.Builder_String_any Tryz.lays169 Tryz.Builder_Extra_169 B b l w h hBw
def Tryz.lays241_ren : Go.Shelf.Ren := ⟨fun | 241 => 100 | 277 => 131 | n => n, fun | 70 => 58 | 3 => 3 | 0 => 0 | 72 => 60 | 37 => 39 | 5 => 5 | n => n, fun | n => n⟩
theorem Tryz.lays241 : Go.Proofs.Lays.n241 Tryz.prog Tryz.lays241_ren := {
  mixed := by kernel_rfl
  f241 := Tryz.func100.trans (congrArg some (by kernel_rfl))
  f277 := Tryz.func131.trans (congrArg some (by kernel_rfl))
  t0 := Tryz.underlying0
  a0 := Tryz.isAgg0
  z0 := Tryz.sizeOf0
  v0 := Tryz.zeroValue0
  t3 := Tryz.underlying3
  a3 := Tryz.isAgg3
  z3 := Tryz.sizeOf3
  v3 := Tryz.zeroValue3
  t37 := Tryz.underlying39
  a37 := Tryz.isAgg39
  z37 := Tryz.sizeOf39
  v37 := Tryz.zeroValue39
  t70 := Tryz.underlying58
  a70 := Tryz.isAgg58
  z70 := Tryz.sizeOf58
  v70 := Tryz.zeroValue58
  t72 := Tryz.underlying60
  a72 := Tryz.isAgg60
  z72 := Tryz.sizeOf60
  v72 := Tryz.zeroValue60 }
theorem Tryz.Builder_Extra_241 : Builder.Extra Tryz.prog Tryz.lays241_ren := {
  sizeBuilder := by kernel_rfl
  liesBuilder := by kernel_rfl
  t5 := Tryz.underlying5
  a5 := Tryz.isAgg5
  z5 := Tryz.sizeOf5
  v5 := Tryz.zeroValue5
  infoByte := by kernel_rfl
  cellsByte := by kernel_rfl
  sizeByte := by kernel_rfl
  neB5 := by decide }
open Go.RowKit in
/-- (*strings.Builder).grow (no doc but "grow copies the buffer to a new, larger buffer so that there are at least n bytes of capacity beyond len(b.buf)."): AT A BUILDER WITHOUT A BUFFER: a new row of whatever bytes for its buffer, none of them its own yet. Three draws. (LAID: no walk: one application.) -/
theorem Tryz.Builder_grow_fresh (B b n : Nat) (w : World) (hB : B ≤ b) (hbk : w.heap[b]? = some (.cells #[.pointer (some ⟨b, 0, none⟩), .slice none 0 0] 60 (0, 0))) (hBw : B ≤ w.heap.size) (hn : n ≤ 281474976710656) :
    Calls Tryz.prog 100 #[.pointer (some ⟨b, 0, none⟩), .int .i64 n] w fun e w' => e = .returned (.tuple #[]) ∧ (Lib.BuilderAt 60 5 B b (.pointer (some ⟨b, 0, none⟩)) [] w' ∧ Below B w w') := Any.Builder_grow_fresh Tryz.lays241 Tryz.Builder_Extra_241 B b n w hB hbk hBw hn
def Tryz.lays165_ren : Go.Shelf.Ren := ⟨fun | 165 => 62 | 240 => 59 | 241 => 100 | 276 => 96 | 277 => 131 | n => n, fun | 70 => 58 | 3 => 3 | 0 => 0 | 4 => 4 | 9 => 9 | 20 => 20 | 72 => 60 | 37 => 39 | 164 => 123 | 5 => 5 | n => n, fun | n => n⟩
theorem Tryz.lays165 : Go.Proofs.Lays.n165 Tryz.prog Tryz.lays165_ren := {
  mixed := by kernel_rfl
  f165 := Tryz.func62.trans (congrArg some (by kernel_rfl))
  f240 := Tryz.func59.trans (congrArg some (by kernel_rfl))
  f241 := Tryz.func100.trans (congrArg some (by kernel_rfl))
  f276 := Tryz.func96.trans (congrArg some (by kernel_rfl))
  f277 := Tryz.func131.trans (congrArg some (by kernel_rfl))
  t0 := Tryz.underlying0
  a0 := Tryz.isAgg0
  z0 := Tryz.sizeOf0
  v0 := Tryz.zeroValue0
  t3 := Tryz.underlying3
  a3 := Tryz.isAgg3
  z3 := Tryz.sizeOf3
  v3 := Tryz.zeroValue3
  t4 := Tryz.underlying4
  a4 := Tryz.isAgg4
  z4 := Tryz.sizeOf4
  v4 := Tryz.zeroValue4
  t9 := Tryz.underlying9
  a9 := Tryz.isAgg9
  z9 := Tryz.sizeOf9
  v9 := Tryz.zeroValue9
  t20 := Tryz.underlying20
  a20 := Tryz.isAgg20
  z20 := Tryz.sizeOf20
  v20 := Tryz.zeroValue20
  t37 := Tryz.underlying39
  a37 := Tryz.isAgg39
  z37 := Tryz.sizeOf39
  v37 := Tryz.zeroValue39
  t70 := Tryz.underlying58
  a70 := Tryz.isAgg58
  z70 := Tryz.sizeOf58
  v70 := Tryz.zeroValue58
  t72 := Tryz.underlying60
  a72 := Tryz.isAgg60
  z72 := Tryz.sizeOf60
  v72 := Tryz.zeroValue60
  t164 := Tryz.underlying123
  a164 := Tryz.isAgg123
  z164 := Tryz.sizeOf123
  v164 := Tryz.zeroValue123 }
theorem Tryz.Builder_Extra_165 : Builder.Extra Tryz.prog Tryz.lays165_ren := {
  sizeBuilder := by kernel_rfl
  liesBuilder := by kernel_rfl
  t5 := Tryz.underlying5
  a5 := Tryz.isAgg5
  z5 := Tryz.sizeOf5
  v5 := Tryz.zeroValue5
  infoByte := by kernel_rfl
  cellsByte := by kernel_rfl
  sizeByte := by kernel_rfl
  neB5 := by decide }
open Go.RowKit in
/-- (*strings.Builder).Grow AT A BUILDER THAT HAS NOT BEEN WRITTEN ('var b strings.Builder; b.Grow(n)'): "Grow grows b's capacity, if necessary, to guarantee space for another n bytes.": it holds no byte behind it as before it. (LAID: no walk: one application.) -/
theorem Tryz.Builder_Grow_fresh (B b n : Nat) (w : World) (hB : B ≤ b) (hbk : w.heap[b]? = some (.cells #[.pointer none, .slice none 0 0] 60 (0, 0))) (hBw : B ≤ w.heap.size) (hn : n ≤ 281474976710656) :
    Calls Tryz.prog 62 #[.pointer (some ⟨b, 0, none⟩), .int .i64 n] w fun e w' => e = .returned (.tuple #[]) ∧ (Lib.BuilderAt 60 5 B b (.pointer (some ⟨b, 0, none⟩)) [] w' ∧ Below B w w') := Any.Builder_Grow_fresh Tryz.lays165 Tryz.Builder_Extra_165 B b n w hB hbk hBw hn
def Tryz.lays231_ren : Go.Shelf.Ren := ⟨fun | 231 => 52 | n => n, fun | 9 => 9 | 5 => 5 | 3 => 3 | 4 => 4 | n => n, fun | n => n⟩
theorem Tryz.lays231 : Go.Proofs.Lays.n231 Tryz.prog Tryz.lays231_ren := {
  mixed := by kernel_rfl
  f231 := Tryz.func52.trans (congrArg some (by kernel_rfl))
  t3 := Tryz.underlying3
  a3 := Tryz.isAgg3
  z3 := Tryz.sizeOf3
  v3 := Tryz.zeroValue3
  t4 := Tryz.underlying4
  a4 := Tryz.isAgg4
  z4 := Tryz.sizeOf4
  v4 := Tryz.zeroValue4
  t5 := Tryz.underlying5
  a5 := Tryz.isAgg5
  z5 := Tryz.sizeOf5
  v5 := Tryz.zeroValue5
  t9 := Tryz.underlying9
  a9 := Tryz.isAgg9
  z9 := Tryz.sizeOf9
  v9 := Tryz.zeroValue9 }
open Go.RowKit in
/-- strings.trimLeftByte (no doc; what TrimLeft and Trim call at a cutset of one ASCII byte): the leading bytes that are c are cut off. The world is as it was. (LAID: no walk: one application.) -/
theorem Tryz.strings_trimLeftByte (s : ByteArray) (c : UInt8) (w : World) :
    Calls Tryz.prog 52 #[.string s, .int .u8 c.toNat] w fun e w' => e = .returned (.string ⟨(Lib.trimLeftB s.data.toList c).toArray⟩) ∧ w' = w := Any.strings_trimLeftByte Tryz.lays231 s c w
def Tryz.lays232_ren : Go.Shelf.Ren := ⟨fun | 232 => 56 | n => n, fun | 9 => 9 | 5 => 5 | 3 => 3 | 4 => 4 | n => n, fun | n => n⟩
theorem Tryz.lays232 : Go.Proofs.Lays.n232 Tryz.prog Tryz.lays232_ren := {
  mixed := by kernel_rfl
  f232 := Tryz.func56.trans (congrArg some (by kernel_rfl))
  t3 := Tryz.underlying3
  a3 := Tryz.isAgg3
  z3 := Tryz.sizeOf3
  v3 := Tryz.zeroValue3
  t4 := Tryz.underlying4
  a4 := Tryz.isAgg4
  z4 := Tryz.sizeOf4
  v4 := Tryz.zeroValue4
  t5 := Tryz.underlying5
  a5 := Tryz.isAgg5
  z5 := Tryz.sizeOf5
  v5 := Tryz.zeroValue5
  t9 := Tryz.underlying9
  a9 := Tryz.isAgg9
  z9 := Tryz.sizeOf9
  v9 := Tryz.zeroValue9 }
open Go.RowKit in
/-- strings.trimRightByte (no doc; what TrimRight and Trim call at a cutset of one ASCII byte): the trailing bytes that are c are cut off. The world is as it was. ('hs': a string's length is a number that an int holds.) (LAID: no walk: one application.) -/
theorem Tryz.strings_trimRightByte (s : ByteArray) (c : UInt8) (w : World) (hs : s.size ≤ 9223372036854775807) :
    Calls Tryz.prog 56 #[.string s, .int .u8 c.toNat] w fun e w' => e = .returned (.string ⟨(Lib.trimRightB s.data.toList c).toArray⟩) ∧ w' = w := Any.strings_trimRightByte Tryz.lays232 s c w hs
def Tryz.lays161_ren : Go.Shelf.Ren := ⟨fun | 161 => 31 | 231 => 52 | 227 => 53 | 233 => 54 | 235 => 55 | 228 => 92 | 197 => 93 | 151 => 94 | 260 => 128 | 152 => 129 | 137 => 141 | 119 => 142 | 224 => 105 | 225 => 104 | 217 => 103 | 266 => 135 | n => n, fun | 9 => 9 | 4 => 4 | 3 => 3 | 5 => 5 | 117 => 81 | 116 => 80 | 0 => 0 | 124 => 84 | 105 => 120 | 21 => 21 | 119 => 173 | 46 => 85 | 139 => 176 | 138 => 175 | n => n, fun | 3 => 10 | 4 => 11 | n => n⟩
theorem Tryz.lays161 : Go.Proofs.Lays.n161 Tryz.prog Tryz.lays161_ren := {
  mixed := by kernel_rfl
  f119 := Tryz.func142.trans (congrArg some (by kernel_rfl))
  f137 := Tryz.func141.trans (congrArg some (by kernel_rfl))
  f151 := Tryz.func94.trans (congrArg some (by kernel_rfl))
  f152 := Tryz.func129.trans (congrArg some (by kernel_rfl))
  f161 := Tryz.func31.trans (congrArg some (by kernel_rfl))
  f197 := Tryz.func93.trans (congrArg some (by kernel_rfl))
  f217 := Tryz.func103.trans (congrArg some (by kernel_rfl))
  f224 := Tryz.func105.trans (congrArg some (by kernel_rfl))
  f225 := Tryz.func104.trans (congrArg some (by kernel_rfl))
  f227 := Tryz.func53.trans (congrArg some (by kernel_rfl))
  f228 := Tryz.func92.trans (congrArg some (by kernel_rfl))
  f231 := Tryz.func52.trans (congrArg some (by kernel_rfl))
  f233 := Tryz.func54.trans (congrArg some (by kernel_rfl))
  f235 := Tryz.func55.trans (congrArg some (by kernel_rfl))
  f260 := Tryz.func128.trans (congrArg some (by kernel_rfl))
  f266 := Tryz.func135.trans (congrArg some (by kernel_rfl))
  t0 := Tryz.underlying0
  a0 := Tryz.isAgg0
  z0 := Tryz.sizeOf0
  v0 := Tryz.zeroValue0
  t3 := Tryz.underlying3
  a3 := Tryz.isAgg3
  z3 := Tryz.sizeOf3
  v3 := Tryz.zeroValue3
  t4 := Tryz.underlying4
  a4 := Tryz.isAgg4
  z4 := Tryz.sizeOf4
  v4 := Tryz.zeroValue4
  t5 := Tryz.underlying5
  a5 := Tryz.isAgg5
  z5 := Tryz.sizeOf5
  v5 := Tryz.zeroValue5
  t9 := Tryz.underlying9
  a9 := Tryz.isAgg9
  z9 := Tryz.sizeOf9
  v9 := Tryz.zeroValue9
  t21 := Tryz.underlying21
  a21 := Tryz.isAgg21
  z21 := Tryz.sizeOf21
  v21 := Tryz.zeroValue21
  t46 := Tryz.underlying85
  a46 := Tryz.isAgg85
  z46 := Tryz.sizeOf85
  v46 := Tryz.zeroValue85
  t105 := Tryz.underlying120
  a105 := Tryz.isAgg120
  z105 := Tryz.sizeOf120
  v105 := Tryz.zeroValue120
  t116 := Tryz.underlying80
  a116 := Tryz.isAgg80
  z116 := Tryz.sizeOf80
  t117 := Tryz.underlying81
  a117 := Tryz.isAgg81
  z117 := Tryz.sizeOf81
  v117 := Tryz.zeroValue81
  t119 := Tryz.underlying173
  a119 := Tryz.isAgg173
  z119 := Tryz.sizeOf173
  t124 := Tryz.underlying84
  a124 := Tryz.isAgg84
  z124 := Tryz.sizeOf84
  v124 := Tryz.zeroValue84
  t138 := Tryz.underlying175
  a138 := Tryz.isAgg175
  z138 := Tryz.sizeOf175
  v138 := Tryz.zeroValue175
  t139 := Tryz.underlying176
  a139 := Tryz.isAgg176
  z139 := Tryz.sizeOf176
  v139 := Tryz.zeroValue176
  g3 := by kernel_rfl
  g4 := by kernel_rfl }
open Go.RowKit in
/-- strings.TrimLeft: "TrimLeft returns a slice of the string s with all leading Unicode code points contained in cutset removed.": AT A cutset OF ONE ASCII BYTE. The world is as it was. (LAID: no walk: one application.) -/
theorem Tryz.strings_TrimLeft_one (s : ByteArray) (c : UInt8) (hc : c.toNat < 128) (w : World) :
    Calls Tryz.prog 31 #[.string s, .string ⟨#[c]⟩] w fun e w' => e = .returned (.string ⟨(Lib.trimLeftB s.data.toList c).toArray⟩) ∧ w' = w := Any.strings_TrimLeft_one Tryz.lays161 s c hc w
def Tryz.lays162_ren : Go.Shelf.Ren := ⟨fun | 162 => 32 | 232 => 56 | 227 => 53 | 234 => 57 | 236 => 58 | 228 => 92 | 271 => 95 | 151 => 94 | 120 => 130 | 197 => 93 | 152 => 129 | 260 => 128 | 137 => 141 | 119 => 142 | 224 => 105 | 225 => 104 | 217 => 103 | 266 => 135 | n => n, fun | 9 => 9 | 4 => 4 | 3 => 3 | 5 => 5 | 117 => 81 | 116 => 80 | 0 => 0 | 124 => 84 | 21 => 21 | 105 => 120 | 46 => 85 | 119 => 173 | 139 => 176 | 138 => 175 | n => n, fun | 3 => 10 | 4 => 11 | n => n⟩
theorem Tryz.lays162 : Go.Proofs.Lays.n162 Tryz.prog Tryz.lays162_ren := {
  mixed := by kernel_rfl
  f119 := Tryz.func142.trans (congrArg some (by kernel_rfl))
  f120 := Tryz.func130.trans (congrArg some (by kernel_rfl))
  f137 := Tryz.func141.trans (congrArg some (by kernel_rfl))
  f151 := Tryz.func94.trans (congrArg some (by kernel_rfl))
  f152 := Tryz.func129.trans (congrArg some (by kernel_rfl))
  f162 := Tryz.func32.trans (congrArg some (by kernel_rfl))
  f197 := Tryz.func93.trans (congrArg some (by kernel_rfl))
  f217 := Tryz.func103.trans (congrArg some (by kernel_rfl))
  f224 := Tryz.func105.trans (congrArg some (by kernel_rfl))
  f225 := Tryz.func104.trans (congrArg some (by kernel_rfl))
  f227 := Tryz.func53.trans (congrArg some (by kernel_rfl))
  f228 := Tryz.func92.trans (congrArg some (by kernel_rfl))
  f232 := Tryz.func56.trans (congrArg some (by kernel_rfl))
  f234 := Tryz.func57.trans (congrArg some (by kernel_rfl))
  f236 := Tryz.func58.trans (congrArg some (by kernel_rfl))
  f260 := Tryz.func128.trans (congrArg some (by kernel_rfl))
  f266 := Tryz.func135.trans (congrArg some (by kernel_rfl))
  f271 := Tryz.func95.trans (congrArg some (by kernel_rfl))
  t0 := Tryz.underlying0
  a0 := Tryz.isAgg0
  z0 := Tryz.sizeOf0
  v0 := Tryz.zeroValue0
  t3 := Tryz.underlying3
  a3 := Tryz.isAgg3
  z3 := Tryz.sizeOf3
  v3 := Tryz.zeroValue3
  t4 := Tryz.underlying4
  a4 := Tryz.isAgg4
  z4 := Tryz.sizeOf4
  v4 := Tryz.zeroValue4
  t5 := Tryz.underlying5
  a5 := Tryz.isAgg5
  z5 := Tryz.sizeOf5
  v5 := Tryz.zeroValue5
  t9 := Tryz.underlying9
  a9 := Tryz.isAgg9
  z9 := Tryz.sizeOf9
  v9 := Tryz.zeroValue9
  t21 := Tryz.underlying21
  a21 := Tryz.isAgg21
  z21 := Tryz.sizeOf21
  v21 := Tryz.zeroValue21
  t46 := Tryz.underlying85
  a46 := Tryz.isAgg85
  z46 := Tryz.sizeOf85
  v46 := Tryz.zeroValue85
  t105 := Tryz.underlying120
  a105 := Tryz.isAgg120
  z105 := Tryz.sizeOf120
  v105 := Tryz.zeroValue120
  t116 := Tryz.underlying80
  a116 := Tryz.isAgg80
  z116 := Tryz.sizeOf80
  t117 := Tryz.underlying81
  a117 := Tryz.isAgg81
  z117 := Tryz.sizeOf81
  v117 := Tryz.zeroValue81
  t119 := Tryz.underlying173
  a119 := Tryz.isAgg173
  z119 := Tryz.sizeOf173
  t124 := Tryz.underlying84
  a124 := Tryz.isAgg84
  z124 := Tryz.sizeOf84
  v124 := Tryz.zeroValue84
  t138 := Tryz.underlying175
  a138 := Tryz.isAgg175
  z138 := Tryz.sizeOf175
  v138 := Tryz.zeroValue175
  t139 := Tryz.underlying176
  a139 := Tryz.isAgg176
  z139 := Tryz.sizeOf176
  v139 := Tryz.zeroValue176
  g3 := by kernel_rfl
  g4 := by kernel_rfl }
open Go.RowKit in
/-- strings.TrimRight: "TrimRight returns a slice of the string s, with all trailing Unicode code points contained in cutset removed.": AT A cutset OF ONE ASCII BYTE. The world is as it was. (LAID: no walk: one application.) -/
theorem Tryz.strings_TrimRight_one (s : ByteArray) (c : UInt8) (hc : c.toNat < 128) (w : World) (hs : s.size ≤ 9223372036854775807) :
    Calls Tryz.prog 32 #[.string s, .string ⟨#[c]⟩] w fun e w' => e = .returned (.string ⟨(Lib.trimRightB s.data.toList c).toArray⟩) ∧ w' = w := Any.strings_TrimRight_one Tryz.lays162 s c hc w hs
def Tryz.lays119_ren : Go.Shelf.Ren := ⟨fun | 119 => 142 | n => n, fun | 21 => 21 | 4 => 4 | n => n, fun | n => n⟩
theorem Tryz.lays119 : Go.Proofs.Lays.n119 Tryz.prog Tryz.lays119_ren := {
  mixed := by kernel_rfl
  f119 := Tryz.func142.trans (congrArg some (by kernel_rfl))
  t4 := Tryz.underlying4
  a4 := Tryz.isAgg4
  z4 := Tryz.sizeOf4
  v4 := Tryz.zeroValue4
  t21 := Tryz.underlying21
  a21 := Tryz.isAgg21
  z21 := Tryz.sizeOf21
  v21 := Tryz.zeroValue21 }
/-- utf8.ValidRune: "ValidRune reports whether r can be legally encoded as UTF-8. Code points that are out of range or a surrogate half are illegal.": IT RETURNS 'Lib.validRune r'; the world is as it was. (LAID: no walk: one application.) -/
theorem Tryz.utf8_ValidRune (r : Int) (w : World) :
    Calls Tryz.prog 142 #[.int .i32 r] w fun e w' => e = .returned (.bool (Lib.validRune r)) ∧ w' = w := Any.utf8_ValidRune Tryz.lays119 r w
def Tryz.lays120_ren : Go.Shelf.Ren := ⟨fun | 120 => 130 | n => n, fun | 5 => 5 | 4 => 4 | n => n, fun | n => n⟩
theorem Tryz.lays120 : Go.Proofs.Lays.n120 Tryz.prog Tryz.lays120_ren := {
  mixed := by kernel_rfl
  f120 := Tryz.func130.trans (congrArg some (by kernel_rfl))
  t4 := Tryz.underlying4
  a4 := Tryz.isAgg4
  z4 := Tryz.sizeOf4
  v4 := Tryz.zeroValue4
  t5 := Tryz.underlying5
  a5 := Tryz.isAgg5
  z5 := Tryz.sizeOf5
  v5 := Tryz.zeroValue5 }
/-- utf8.RuneStart: "RuneStart reports whether the byte could be the first byte of an encoded, possibly invalid rune. Second and subsequent bytes always have the top two bits set to 10.": IT RETURNS 'Lib.runeStart b'; the world is as it was. ('h0', 'h1': b is a byte: a caller has it of every byte that it was handed.) (LAID: no walk: one application.) -/
theorem Tryz.utf8_RuneStart (b : Int) (w : World) (h0 : 0 ≤ b) (h1 : b < 256) :
    Calls Tryz.prog 130 #[.int .u8 b] w fun e w' => e = .returned (.bool (Lib.runeStart b)) ∧ w' = w := Any.utf8_RuneStart Tryz.lays120 b w h0 h1
def Tryz.lays137_ren : Go.Shelf.Ren := ⟨fun | 137 => 141 | 217 => 103 | 266 => 135 | n => n, fun | 9 => 9 | 5 => 5 | 3 => 3 | n => n, fun | n => n⟩
theorem Tryz.lays137 : Go.Proofs.Lays.n137 Tryz.prog Tryz.lays137_ren := {
  mixed := by kernel_rfl
  f137 := Tryz.func141.trans (congrArg some (by kernel_rfl))
  f217 := Tryz.func103.trans (congrArg some (by kernel_rfl))
  f266 := Tryz.func135.trans (congrArg some (by kernel_rfl))
  t3 := Tryz.underlying3
  a3 := Tryz.isAgg3
  z3 := Tryz.sizeOf3
  v3 := Tryz.zeroValue3
  t5 := Tryz.underlying5
  a5 := Tryz.isAgg5
  z5 := Tryz.sizeOf5
  v5 := Tryz.zeroValue5
  t9 := Tryz.underlying9
  a9 := Tryz.isAgg9
  z9 := Tryz.sizeOf9
  v9 := Tryz.zeroValue9 }
open Go.RowKit in
/-- strings.IndexByte: "IndexByte returns the index of the first instance of c in s, or -1 if c is not present in s.": IT RETURNS 'Lib.indexByte s c'; the world is as it was. (LAID: no walk: one application.) -/
theorem Tryz.strings_IndexByte (s : ByteArray) (c : Int) (w : World) :
    Calls Tryz.prog 141 #[.string s, .int .u8 c] w fun e w' => e = .returned (.int .i64 (Lib.indexByte s.data.toList c.toNat.toUInt8)) ∧ w' = w := Any.strings_IndexByte Tryz.lays137 s c w
open Go.RowKit in
/-- (*strings.Builder).Len: "Len returns the number of accumulated bytes; b.Len() == len(b.String()).": the world is as it was. (THE FORM '_f': 'Lib.IsBuilderF'.) (LAID: no walk: one application.) -/
theorem Tryz.Builder_Len_f (B b : Nat) (bs : List Value) (w : World) (h : Lib.IsBuilderF 60 5 B b bs w) :
    Calls Tryz.prog 63 #[.pointer (some ⟨b, 0, none⟩)] w fun e w' => e = .returned (.int .i64 bs.length) ∧ w' = w := Any.Builder_Len_f Tryz.lays170 B b bs w h
open Go.RowKit in
/-- (*strings.Builder).String: "String returns the accumulated string.": OF A BUILDER THAT HOLDS AT LEAST ONE BYTE. ✋ THE MODEL FREEZES THOSE BYTES IN THE BUFFER (u-n-s-a-f-e.String): a later write INTO them ends the model's run without an answer; a later append BEHIND them goes on. The statement's order of evaluation is drawn: one draw. THE FORM '_f': IT SAYS BESIDES THAT THE BUILDER IS A BUILDER STILL ('Lib.IsBuilderF', the same bytes): SO IT CAN BE WRITTEN ON: 'b.WriteString(b.String()[:k])'. (LAID: no walk: one application.) -/
theorem Tryz.Builder_String_f (B b : Nat) (l : List UInt8) (w : World) (h : Lib.IsBuilderF 60 5 B b (Lib.byteCells l) w) (h0 : l ≠ []) :
    Calls Tryz.prog 36 #[.pointer (some ⟨b, 0, none⟩)] w fun e w' => e = .returned (.string ⟨l.toArray⟩) ∧ (Lib.IsBuilderF 60 5 B b (Lib.byteCells l) w' ∧ Below B w w') := Any.Builder_String_f Tryz.lays169 Tryz.Builder_Extra_169 B b l w h h0
open Go.RowKit in
/-- (*strings.Builder).String OF A BUILDER THAT HOLDS NO BYTE: the empty string; THE FORM '_f': a builder still. (LAID: no walk: one application.) -/
theorem Tryz.Builder_String_empty_f (B b : Nat) (w : World) (h : Lib.IsBuilderF 60 5 B b [] w) (hBw : B ≤ w.heap.size) :
    Calls Tryz.prog 36 #[.pointer (some ⟨b, 0, none⟩)] w fun e w' => e = .returned (.string ⟨#[]⟩) ∧ (Lib.IsBuilderF 60 5 B b [] w' ∧ Below B w w') := Any.Builder_String_empty_f Tryz.lays169 Tryz.Builder_Extra_169 B b w h hBw
open Go.RowKit in
/-- (*strings.Builder).String: "String returns the accumulated string.": WHATEVER THE BUILDER HOLDS; THE FORM '_f': OF A BUILDER THAT MAY HAVE BEEN READ BEFORE; AND IT IS A BUILDER STILL, holding the same bytes: it can be written on. (LAID: no walk: one application.) -/
theorem Tryz.Builder_String_any_f (B b : Nat) (l : List UInt8) (w : World) (h : Lib.IsBuilderF 60 5 B b (Lib.byteCells l) w) (hBw : B ≤ w.heap.size) :
    Calls Tryz.prog 36 #[.pointer (some ⟨b, 0, none⟩)] w fun e w' => e = .returned (.string ⟨l.toArray⟩) ∧ (Lib.IsBuilderF 60 5 B b (Lib.byteCells l) w' ∧ Below B w w') := Any.Builder_String_any_f Tryz.lays169 Tryz.Builder_Extra_169 B b l w h hBw
def Tryz.lays244_ren : Go.Shelf.Ren := ⟨fun | 244 => 44 | 247 => 70 | 287 => 107 | 321 => 110 | 322 => 137 | n => n, fun | 9 => 9 | 3 => 3 | 75 => 53 | 4 => 4 | 5 => 5 | 167 => 94 | 37 => 39 | 0 => 0 | 85 => 95 | 2 => 2 | 53 => 29 | 175 => 133 | 46 => 85 | 21 => 21 | 80 => 44 | n => n, fun | n => n⟩
theorem Tryz.lays244 : Go.Proofs.Lays.n244 Tryz.prog Tryz.lays244_ren := {
  mixed := by kernel_rfl
  f244 := Tryz.func44.trans (congrArg some (by kernel_rfl))
  f247 := Tryz.func70.trans (congrArg some (by kernel_rfl))
  f287 := Tryz.func107.trans (congrArg some (by kernel_rfl))
  f321 := Tryz.func110.trans (congrArg some (by kernel_rfl))
  f322 := Tryz.func137.trans (congrArg some (by kernel_rfl))
  t0 := Tryz.underlying0
  a0 := Tryz.isAgg0
  z0 := Tryz.sizeOf0
  v0 := Tryz.zeroValue0
  t2 := Tryz.underlying2
  a2 := Tryz.isAgg2
  z2 := Tryz.sizeOf2
  v2 := Tryz.zeroValue2
  t3 := Tryz.underlying3
  a3 := Tryz.isAgg3
  z3 := Tryz.sizeOf3
  v3 := Tryz.zeroValue3
  t4 := Tryz.underlying4
  a4 := Tryz.isAgg4
  z4 := Tryz.sizeOf4
  v4 := Tryz.zeroValue4
  t5 := Tryz.underlying5
  a5 := Tryz.isAgg5
  z5 := Tryz.sizeOf5
  v5 := Tryz.zeroValue5
  t9 := Tryz.underlying9
  a9 := Tryz.isAgg9
  z9 := Tryz.sizeOf9
  v9 := Tryz.zeroValue9
  t21 := Tryz.underlying21
  a21 := Tryz.isAgg21
  z21 := Tryz.sizeOf21
  v21 := Tryz.zeroValue21
  t37 := Tryz.underlying39
  a37 := Tryz.isAgg39
  z37 := Tryz.sizeOf39
  v37 := Tryz.zeroValue39
  t46 := Tryz.underlying85
  a46 := Tryz.isAgg85
  z46 := Tryz.sizeOf85
  v46 := Tryz.zeroValue85
  t53 := Tryz.underlying29
  a53 := Tryz.isAgg29
  z53 := Tryz.sizeOf29
  v53 := Tryz.zeroValue29
  t75 := Tryz.underlying53
  a75 := Tryz.isAgg53
  z75 := Tryz.sizeOf53
  v75 := Tryz.zeroValue53
  t85 := Tryz.underlying95
  a85 := Tryz.isAgg95
  z85 := Tryz.sizeOf95
  v85 := Tryz.zeroValue95
  t167 := Tryz.underlying94
  a167 := Tryz.isAgg94
  z167 := Tryz.sizeOf94
  v167 := Tryz.zeroValue94
  t175 := Tryz.underlying133
  a175 := Tryz.isAgg133
  z175 := Tryz.sizeOf133
  v175 := Tryz.zeroValue133 }
open Go.RowKit in
/-- internal/strconv.Atoi, at a decimal numeral of at most 18 bytes: ITS VALUE, AND NO ERROR. The world behind the call: the one new row that '[]byte(s)' lays. (LAID: no walk: one application.) -/
theorem Tryz.internal_strconv_Atoi (s : ByteArray) (n : Int) (hl : s.size ≤ 18) (h : Lib.atoi s.data.toList = some n) (w : World) :
    Calls Tryz.prog 44 #[.string s] w fun e w' => e = .returned (.tuple #[.int .i64 n, .nilIface]) ∧ ∃ t, w' = Lib.bytesWorld w 5 t := Any.internal_strconv_Atoi Tryz.lays244 s n hl h w
def Tryz.lays172_ren : Go.Shelf.Ren := ⟨fun | 172 => 27 | 244 => 44 | 245 => 45 | 247 => 70 | 279 => 71 | 280 => 72 | 281 => 73 | 282 => 74 | 287 => 107 | 316 => 108 | 171 => 68 | 205 => 109 | 321 => 110 | 322 => 137 | 243 => 102 | 246 => 134 | 283 => 48 | 284 => 49 | 285 => 50 | 286 => 51 | 129 => 80 | 317 => 83 | 318 => 89 | 319 => 90 | 320 => 91 | 337 => 127 | 338 => 65 | n => n, fun | 9 => 9 | 3 => 3 | 75 => 53 | 76 => 54 | 4 => 4 | 5 => 5 | 167 => 94 | 37 => 39 | 0 => 0 | 85 => 95 | 2 => 2 | 168 => 97 | 53 => 29 | 175 => 133 | 46 => 85 | 210 => 137 | 127 => 90 | 145 => 163 | 143 => 161 | 21 => 21 | 171 => 73 | 173 => 76 | 212 => 115 | 51 => 91 | 20 => 20 | 213 => 116 | 232 => 103 | 233 => 129 | 80 => 44 | n => n, fun | 15 => 5 | 16 => 6 | 17 => 2 | 18 => 9 | 19 => 3 | n => n⟩
theorem Tryz.lays172 : Go.Proofs.Lays.n172 Tryz.prog Tryz.lays172_ren := {
  mixed := by kernel_rfl
  f129 := Tryz.func80.trans (congrArg some (by kernel_rfl))
  f171 := Tryz.func68.trans (congrArg some (by kernel_rfl))
  f172 := Tryz.func27.trans (congrArg some (by kernel_rfl))
  f205 := Tryz.func109.trans (congrArg some (by kernel_rfl))
  f243 := Tryz.func102.trans (congrArg some (by kernel_rfl))
  f244 := Tryz.func44.trans (congrArg some (by kernel_rfl))
  f245 := Tryz.func45.trans (congrArg some (by kernel_rfl))
  f246 := Tryz.func134.trans (congrArg some (by kernel_rfl))
  f247 := Tryz.func70.trans (congrArg some (by kernel_rfl))
  f279 := Tryz.func71.trans (congrArg some (by kernel_rfl))
  f280 := Tryz.func72.trans (congrArg some (by kernel_rfl))
  f281 := Tryz.func73.trans (congrArg some (by kernel_rfl))
  f282 := Tryz.func74.trans (congrArg some (by kernel_rfl))
  f283 := Tryz.func48.trans (congrArg some (by kernel_rfl))
  f284 := Tryz.func49.trans (congrArg some (by kernel_rfl))
  f285 := Tryz.func50.trans (congrArg some (by kernel_rfl))
  f286 := Tryz.func51.trans (congrArg some (by kernel_rfl))
  f287 := Tryz.func107.trans (congrArg some (by kernel_rfl))
  f316 := Tryz.func108.trans (congrArg some (by kernel_rfl))
  f317 := Tryz.func83.trans (congrArg some (by kernel_rfl))
  f318 := Tryz.func89.trans (congrArg some (by kernel_rfl))
  f319 := Tryz.func90.trans (congrArg some (by kernel_rfl))
  f320 := Tryz.func91.trans (congrArg some (by kernel_rfl))
  f321 := Tryz.func110.trans (congrArg some (by kernel_rfl))
  f322 := Tryz.func137.trans (congrArg some (by kernel_rfl))
  f337 := Tryz.func127.trans (congrArg some (by kernel_rfl))
  f338 := Tryz.func65.trans (congrArg some (by kernel_rfl))
  t0 := Tryz.underlying0
  a0 := Tryz.isAgg0
  z0 := Tryz.sizeOf0
  v0 := Tryz.zeroValue0
  t2 := Tryz.underlying2
  a2 := Tryz.isAgg2
  z2 := Tryz.sizeOf2
  v2 := Tryz.zeroValue2
  t3 := Tryz.underlying3
  a3 := Tryz.isAgg3
  z3 := Tryz.sizeOf3
  v3 := Tryz.zeroValue3
  t4 := Tryz.underlying4
  a4 := Tryz.isAgg4
  z4 := Tryz.sizeOf4
  v4 := Tryz.zeroValue4
  t5 := Tryz.underlying5
  a5 := Tryz.isAgg5
  z5 := Tryz.sizeOf5
  v5 := Tryz.zeroValue5
  t9 := Tryz.underlying9
  a9 := Tryz.isAgg9
  z9 := Tryz.sizeOf9
  v9 := Tryz.zeroValue9
  t20 := Tryz.underlying20
  a20 := Tryz.isAgg20
  z20 := Tryz.sizeOf20
  v20 := Tryz.zeroValue20
  t21 := Tryz.underlying21
  a21 := Tryz.isAgg21
  z21 := Tryz.sizeOf21
  v21 := Tryz.zeroValue21
  t37 := Tryz.underlying39
  a37 := Tryz.isAgg39
  z37 := Tryz.sizeOf39
  v37 := Tryz.zeroValue39
  t46 := Tryz.underlying85
  a46 := Tryz.isAgg85
  z46 := Tryz.sizeOf85
  v46 := Tryz.zeroValue85
  t51 := Tryz.underlying91
  a51 := Tryz.isAgg91
  z51 := Tryz.sizeOf91
  v51 := Tryz.zeroValue91
  t53 := Tryz.underlying29
  a53 := Tryz.isAgg29
  z53 := Tryz.sizeOf29
  v53 := Tryz.zeroValue29
  t75 := Tryz.underlying53
  a75 := Tryz.isAgg53
  z75 := Tryz.sizeOf53
  v75 := Tryz.zeroValue53
  t76 := Tryz.underlying54
  a76 := Tryz.isAgg54
  z76 := Tryz.sizeOf54
  v76 := Tryz.zeroValue54
  t85 := Tryz.underlying95
  a85 := Tryz.isAgg95
  z85 := Tryz.sizeOf95
  v85 := Tryz.zeroValue95
  t127 := Tryz.underlying90
  a127 := Tryz.isAgg90
  z127 := Tryz.sizeOf90
  v127 := Tryz.zeroValue90
  t143 := Tryz.underlying161
  a143 := Tryz.isAgg161
  z143 := Tryz.sizeOf161
  v143 := Tryz.zeroValue161
  t145 := Tryz.underlying163
  a145 := Tryz.isAgg163
  z145 := Tryz.sizeOf163
  v145 := Tryz.zeroValue163
  t167 := Tryz.underlying94
  a167 := Tryz.isAgg94
  z167 := Tryz.sizeOf94
  v167 := Tryz.zeroValue94
  t168 := Tryz.underlying97
  a168 := Tryz.isAgg97
  z168 := Tryz.sizeOf97
  v168 := Tryz.zeroValue97
  t171 := Tryz.underlying73
  a171 := Tryz.isAgg73
  z171 := Tryz.sizeOf73
  v171 := Tryz.zeroValue73
  t173 := Tryz.underlying76
  a173 := Tryz.isAgg76
  z173 := Tryz.sizeOf76
  v173 := Tryz.zeroValue76
  t175 := Tryz.underlying133
  a175 := Tryz.isAgg133
  z175 := Tryz.sizeOf133
  v175 := Tryz.zeroValue133
  t210 := Tryz.underlying137
  a210 := Tryz.isAgg137
  z210 := Tryz.sizeOf137
  v210 := Tryz.zeroValue137
  t212 := Tryz.underlying115
  a212 := Tryz.isAgg115
  z212 := Tryz.sizeOf115
  v212 := Tryz.zeroValue115
  t213 := Tryz.underlying116
  a213 := Tryz.isAgg116
  z213 := Tryz.sizeOf116
  t232 := Tryz.underlying103
  a232 := Tryz.isAgg103
  z232 := Tryz.sizeOf103
  v232 := Tryz.zeroValue103
  t233 := Tryz.underlying129
  a233 := Tryz.isAgg129
  z233 := Tryz.sizeOf129
  v233 := Tryz.zeroValue129
  g15 := by kernel_rfl
  g16 := by kernel_rfl
  g17 := by kernel_rfl
  g18 := by kernel_rfl
  g19 := by kernel_rfl }
open Go.RowKit in
/-- strconv.Atoi: "Atoi is equivalent to ParseInt(s, 10, 0), converted to type int.": AT A DECIMAL NUMERAL OF AT MOST 18 BYTES: its value, and a nil error. The world behind the call: the one new row that the library's '[]byte(s)' lays. (LAID: no walk: one application.) -/
theorem Tryz.strconv_Atoi (s : ByteArray) (n : Int) (hl : s.size ≤ 18) (h : Lib.atoi s.data.toList = some n) (w : World) :
    Calls Tryz.prog 27 #[.string s] w fun e w' => e = .returned (.tuple #[.int .i64 n, .nilIface]) ∧ ∃ t, w' = Lib.bytesWorld w 5 t := Any.strconv_Atoi Tryz.lays172 s n hl h w
def Tryz.lays129_ren : Go.Shelf.Ren := ⟨fun | 129 => 80 | n => n, fun | 53 => 29 | 3 => 3 | 4 => 4 | 46 => 85 | 5 => 5 | 9 => 9 | n => n, fun | n => n⟩
theorem Tryz.lays129 : Go.Proofs.Lays.n129 Tryz.prog Tryz.lays129_ren := {
  mixed := by kernel_rfl
  f129 := Tryz.func80.trans (congrArg some (by kernel_rfl))
  t3 := Tryz.underlying3
  a3 := Tryz.isAgg3
  z3 := Tryz.sizeOf3
  v3 := Tryz.zeroValue3
  t4 := Tryz.underlying4
  a4 := Tryz.isAgg4
  z4 := Tryz.sizeOf4
  v4 := Tryz.zeroValue4
  t5 := Tryz.underlying5
  a5 := Tryz.isAgg5
  z5 := Tryz.sizeOf5
  v5 := Tryz.zeroValue5
  t9 := Tryz.underlying9
  a9 := Tryz.isAgg9
  z9 := Tryz.sizeOf9
  v9 := Tryz.zeroValue9
  t46 := Tryz.underlying85
  a46 := Tryz.isAgg85
  z46 := Tryz.sizeOf85
  v46 := Tryz.zeroValue85
  t53 := Tryz.underlying29
  a53 := Tryz.isAgg29
  z53 := Tryz.sizeOf29
  v53 := Tryz.zeroValue29 }
/-- bits.Len64: "Len64 returns the minimum number of bits required to represent x; the result is 0 for x == 0.": IT RETURNS 'Lib.bitLen x'; the world is as it was. ('h0', 'h1': x is a uint64.) (LAID: no walk: one application.) -/
theorem Tryz.bits_Len64 (x : Int) (w : World) (h0 : 0 ≤ x) (h1 : x ≤ 18446744073709551615) :
    Calls Tryz.prog 80 #[.int .u64 x] w fun e w' => e = .returned (.int .i64 (Lib.bitLen x.toNat)) ∧ w' = w := Any.bits_Len64 Tryz.lays129 x w h0 h1
def Tryz.lays317_ren : Go.Shelf.Ren := ⟨fun | 317 => 83 | n => n, fun | 3 => 3 | 46 => 85 | n => n, fun | n => n⟩
theorem Tryz.lays317 : Go.Proofs.Lays.n317 Tryz.prog Tryz.lays317_ren := {
  mixed := by kernel_rfl
  f317 := Tryz.func83.trans (congrArg some (by kernel_rfl))
  t3 := Tryz.underlying3
  a3 := Tryz.isAgg3
  z3 := Tryz.sizeOf3
  v3 := Tryz.zeroValue3
  t46 := Tryz.underlying85
  a46 := Tryz.isAgg85
  z46 := Tryz.sizeOf85
  v46 := Tryz.zeroValue85 }
open Go.Lib in
/-- internal/strconv.log10Pow2: "log10Pow2(x) returns ⌊log₁₀ 2**x⌋ = ⌊x * log₁₀ 2⌋.": '(x * 78913) >> 18', at an x up to 64 (a length in bits). The world is as it was. (LAID: no walk: one application.) -/
theorem Tryz.internal_strconv_log10Pow2 (x : Nat) (h : x ≤ 64) (w : World) :
    Calls Tryz.prog 83 #[.int .i64 x] w fun e w' => e = .returned (.int .i64 (Lib.l10 x)) ∧ w' = w := Any.internal_strconv_log10Pow2 Tryz.lays317 x h w
def Tryz.lays318_ren : Go.Shelf.Ren := ⟨fun | 318 => 89 | n => n, fun | 3 => 3 | 4 => 4 | n => n, fun | n => n⟩
theorem Tryz.lays318 : Go.Proofs.Lays.n318 Tryz.prog Tryz.lays318_ren := {
  mixed := by kernel_rfl
  f318 := Tryz.func89.trans (congrArg some (by kernel_rfl))
  t3 := Tryz.underlying3
  a3 := Tryz.isAgg3
  z3 := Tryz.sizeOf3
  v3 := Tryz.zeroValue3
  t4 := Tryz.underlying4
  a4 := Tryz.isAgg4
  z4 := Tryz.sizeOf4
  v4 := Tryz.zeroValue4 }
open Go.Lib in
/-- internal/strconv.bool2: "bool2 converts b to an integer: 1 for true, 0 for false." The world is as it was. (LAID: no walk: one application.) -/
theorem Tryz.internal_strconv_bool2_int (b : Bool) (w : World) :
    Calls Tryz.prog 89 #[.bool b] w fun e w' => e = .returned (.int .i64 (if b then 1 else 0)) ∧ w' = w := Any.internal_strconv_bool2_int Tryz.lays318 b w
def Tryz.lays283_ren : Go.Shelf.Ren := ⟨fun | 283 => 48 | n => n, fun | 3 => 3 | 9 => 9 | 4 => 4 | n => n, fun | n => n⟩
theorem Tryz.lays283 : Go.Proofs.Lays.n283 Tryz.prog Tryz.lays283_ren := {
  mixed := by kernel_rfl
  f283 := Tryz.func48.trans (congrArg some (by kernel_rfl))
  t3 := Tryz.underlying3
  a3 := Tryz.isAgg3
  z3 := Tryz.sizeOf3
  v3 := Tryz.zeroValue3
  t4 := Tryz.underlying4
  a4 := Tryz.isAgg4
  z4 := Tryz.sizeOf4
  v4 := Tryz.zeroValue4
  t9 := Tryz.underlying9
  a9 := Tryz.isAgg9
  z9 := Tryz.sizeOf9
  v9 := Tryz.zeroValue9 }
open Go.Lib in
/-- internal/strconv.small: "small returns the string for an i with 0 <= i < nSmalls.": i's decimal numeral. The world is as it was. (LAID: no walk: one application.) -/
theorem Tryz.internal_strconv_small (i : Nat) (h : i < 100) (w : World) :
    Calls Tryz.prog 48 #[.int .i64 i] w fun e w' => e = .returned (.string ⟨(Lib.decDigits i).toArray⟩) ∧ w' = w := Any.internal_strconv_small Tryz.lays283 i h w
def Tryz.laysM284_ren : Go.Shelf.Ren := ⟨fun | 284 => 49 | 129 => 80 | 317 => 83 | 318 => 89 | n => n, fun | 53 => 29 | 3 => 3 | 212 => 115 | 0 => 0 | 4 => 4 | 46 => 85 | 5 => 5 | 9 => 9 | n => n, fun | 17 => 2 | n => n⟩
theorem Tryz.laysM284 : Go.Proofs.LaysM.n284 Tryz.prog Tryz.laysM284_ren := {
  mixed := by kernel_rfl
  f129 := Tryz.func80.trans (congrArg some (by kernel_rfl))
  f284 := Tryz.func49.trans (congrArg some (by kernel_rfl))
  f317 := Tryz.func83.trans (congrArg some (by kernel_rfl))
  f318 := Tryz.func89.trans (congrArg some (by kernel_rfl))
  t0 := Tryz.underlying0
  a0 := Tryz.isAgg0
  z0 := Tryz.sizeOf0
  v0 := Tryz.zeroValue0
  t3 := Tryz.underlying3
  a3 := Tryz.isAgg3
  z3 := Tryz.sizeOf3
  v3 := Tryz.zeroValue3
  t4 := Tryz.underlying4
  a4 := Tryz.isAgg4
  z4 := Tryz.sizeOf4
  v4 := Tryz.zeroValue4
  t5 := Tryz.underlying5
  a5 := Tryz.isAgg5
  z5 := Tryz.sizeOf5
  v5 := Tryz.zeroValue5
  t9 := Tryz.underlying9
  a9 := Tryz.isAgg9
  z9 := Tryz.sizeOf9
  v9 := Tryz.zeroValue9
  t46 := Tryz.underlying85
  a46 := Tryz.isAgg85
  z46 := Tryz.sizeOf85
  v46 := Tryz.zeroValue85
  t53 := Tryz.underlying29
  a53 := Tryz.isAgg29
  z53 := Tryz.sizeOf29
  v53 := Tryz.zeroValue29
  t212 := Tryz.underlying115
  a212 := Tryz.isAgg115
  z212 := Tryz.sizeOf115
  v212 := Tryz.zeroValue115
  g17 := by kernel_rfl
  i0 := by kernel_rfl
  i3 := by kernel_rfl
  i4 := by kernel_rfl
  i5 := by kernel_rfl
  i9 := by kernel_rfl
  i46 := by kernel_rfl
  i53 := by kernel_rfl
  i212 := by kernel_rfl
  m17 := by kernel_rfl }
open Go.Lib in
/-- internal/strconv.numDigits, at a d that is not 0: THE NUMBER OF d's DECIMAL DIGITS. The world is as it was. (LAID: no walk: one application.) -/
theorem Tryz.internal_strconv_numDigits (u : Nat) (h1 : 1 ≤ u) (h2 : u < 18446744073709551616) (w : World) (htab : Lib.TabIs Tryz.prog w "internal/strconv.uint64pow10" .u64 Lib.pow10Tab) :
    Calls Tryz.prog 49 #[.int .u64 u] w fun e w' => e = .returned (.int .i64 (Lib.nDigits u)) ∧ w' = w := Any.internal_strconv_numDigits Tryz.laysM284 u h1 h2 w htab
def Tryz.lays285_ren : Go.Shelf.Ren := ⟨fun | 285 => 50 | n => n, fun | 37 => 39 | 53 => 29 | 3 => 3 | 4 => 4 | 51 => 91 | 9 => 9 | 5 => 5 | 0 => 0 | n => n, fun | n => n⟩
theorem Tryz.lays285 : Go.Proofs.Lays.n285 Tryz.prog Tryz.lays285_ren := {
  mixed := by kernel_rfl
  f285 := Tryz.func50.trans (congrArg some (by kernel_rfl))
  t0 := Tryz.underlying0
  a0 := Tryz.isAgg0
  z0 := Tryz.sizeOf0
  v0 := Tryz.zeroValue0
  t3 := Tryz.underlying3
  a3 := Tryz.isAgg3
  z3 := Tryz.sizeOf3
  v3 := Tryz.zeroValue3
  t4 := Tryz.underlying4
  a4 := Tryz.isAgg4
  z4 := Tryz.sizeOf4
  v4 := Tryz.zeroValue4
  t5 := Tryz.underlying5
  a5 := Tryz.isAgg5
  z5 := Tryz.sizeOf5
  v5 := Tryz.zeroValue5
  t9 := Tryz.underlying9
  a9 := Tryz.isAgg9
  z9 := Tryz.sizeOf9
  v9 := Tryz.zeroValue9
  t37 := Tryz.underlying39
  a37 := Tryz.isAgg39
  z37 := Tryz.sizeOf39
  v37 := Tryz.zeroValue39
  t51 := Tryz.underlying91
  a51 := Tryz.isAgg91
  z51 := Tryz.sizeOf91
  v51 := Tryz.zeroValue91
  t53 := Tryz.underlying29
  a53 := Tryz.isAgg29
  z53 := Tryz.sizeOf29
  v53 := Tryz.zeroValue29 }
open Go.RowKit Go.Sort Go.Lib in
/-- internal/strconv.formatBase10: "formatBase10 formats the decimal representation of u into a. The caller is responsible for ensuring that a is big enough to hold u. If a is too big, leading zeros will be filled in as needed.": THE ROW HOLDS u's DIGITS ('FmtInv .. 0 ..': every place t holds 'dg u (len - 1 - t)'); all else is as it was but for the count of draws. (LAID: no walk: one application.) -/
theorem Tryz.internal_strconv_formatBase10 (blk off cap : Nat) (u : Nat) (d : Array UInt8) (w : World) (hH : Holds (fun (b : UInt8) => Value.int .u8 (b.toNat : Int)) w blk off d) (hu : u < 10 ^ d.size) (hu64 : u < 18446744073709551616) (hsz : d.size < 4611686018427387904) :
    Calls Tryz.prog 50 #[.slice (some ⟨blk, off, none⟩) d.size cap, .int .u64 u] w fun e w' =>
      e = .returned (.tuple #[]) ∧ ∃ (n v' : Nat) (dk : Array UInt8), w' = (putRow (fun (b : UInt8) => Value.int .u8 (b.toNat : Int)) w blk off dk).drewN n ∧ FmtInv d.size u 0 v' dk := Any.internal_strconv_formatBase10 Tryz.lays285 blk off cap u d w hH hu hu64 hsz
def Tryz.laysM246_ren : Go.Shelf.Ren := ⟨fun | 246 => 134 | 283 => 48 | 284 => 49 | 285 => 50 | 286 => 51 | 129 => 80 | 317 => 83 | 318 => 89 | 319 => 90 | 320 => 91 | 337 => 127 | 338 => 65 | n => n, fun | 2 => 2 | 3 => 3 | 9 => 9 | 4 => 4 | 171 => 73 | 0 => 0 | 53 => 29 | 37 => 39 | 5 => 5 | 173 => 76 | 212 => 115 | 51 => 91 | 20 => 20 | 213 => 116 | 46 => 85 | 232 => 103 | 233 => 129 | n => n, fun | 17 => 2 | 18 => 9 | 19 => 3 | n => n⟩
theorem Tryz.laysM246 : Go.Proofs.LaysM.n246 Tryz.prog Tryz.laysM246_ren := {
  mixed := by kernel_rfl
  f129 := Tryz.func80.trans (congrArg some (by kernel_rfl))
  f246 := Tryz.func134.trans (congrArg some (by kernel_rfl))
  f283 := Tryz.func48.trans (congrArg some (by kernel_rfl))
  f284 := Tryz.func49.trans (congrArg some (by kernel_rfl))
  f285 := Tryz.func50.trans (congrArg some (by kernel_rfl))
  f286 := Tryz.func51.trans (congrArg some (by kernel_rfl))
  f317 := Tryz.func83.trans (congrArg some (by kernel_rfl))
  f318 := Tryz.func89.trans (congrArg some (by kernel_rfl))
  f319 := Tryz.func90.trans (congrArg some (by kernel_rfl))
  f320 := Tryz.func91.trans (congrArg some (by kernel_rfl))
  f337 := Tryz.func127.trans (congrArg some (by kernel_rfl))
  f338 := Tryz.func65.trans (congrArg some (by kernel_rfl))
  t0 := Tryz.underlying0
  a0 := Tryz.isAgg0
  z0 := Tryz.sizeOf0
  v0 := Tryz.zeroValue0
  t2 := Tryz.underlying2
  a2 := Tryz.isAgg2
  z2 := Tryz.sizeOf2
  v2 := Tryz.zeroValue2
  t3 := Tryz.underlying3
  a3 := Tryz.isAgg3
  z3 := Tryz.sizeOf3
  v3 := Tryz.zeroValue3
  t4 := Tryz.underlying4
  a4 := Tryz.isAgg4
  z4 := Tryz.sizeOf4
  v4 := Tryz.zeroValue4
  t5 := Tryz.underlying5
  a5 := Tryz.isAgg5
  z5 := Tryz.sizeOf5
  v5 := Tryz.zeroValue5
  t9 := Tryz.underlying9
  a9 := Tryz.isAgg9
  z9 := Tryz.sizeOf9
  v9 := Tryz.zeroValue9
  t20 := Tryz.underlying20
  a20 := Tryz.isAgg20
  z20 := Tryz.sizeOf20
  v20 := Tryz.zeroValue20
  t37 := Tryz.underlying39
  a37 := Tryz.isAgg39
  z37 := Tryz.sizeOf39
  v37 := Tryz.zeroValue39
  t46 := Tryz.underlying85
  a46 := Tryz.isAgg85
  z46 := Tryz.sizeOf85
  v46 := Tryz.zeroValue85
  t51 := Tryz.underlying91
  a51 := Tryz.isAgg91
  z51 := Tryz.sizeOf91
  v51 := Tryz.zeroValue91
  t53 := Tryz.underlying29
  a53 := Tryz.isAgg29
  z53 := Tryz.sizeOf29
  v53 := Tryz.zeroValue29
  t171 := Tryz.underlying73
  a171 := Tryz.isAgg73
  z171 := Tryz.sizeOf73
  v171 := Tryz.zeroValue73
  t173 := Tryz.underlying76
  a173 := Tryz.isAgg76
  z173 := Tryz.sizeOf76
  v173 := Tryz.zeroValue76
  t212 := Tryz.underlying115
  a212 := Tryz.isAgg115
  z212 := Tryz.sizeOf115
  v212 := Tryz.zeroValue115
  t213 := Tryz.underlying116
  a213 := Tryz.isAgg116
  z213 := Tryz.sizeOf116
  t232 := Tryz.underlying103
  a232 := Tryz.isAgg103
  z232 := Tryz.sizeOf103
  v232 := Tryz.zeroValue103
  t233 := Tryz.underlying129
  a233 := Tryz.isAgg129
  z233 := Tryz.sizeOf129
  v233 := Tryz.zeroValue129
  g17 := by kernel_rfl
  g18 := by kernel_rfl
  g19 := by kernel_rfl
  i0 := by kernel_rfl
  i2 := by kernel_rfl
  i3 := by kernel_rfl
  i4 := by kernel_rfl
  i5 := by kernel_rfl
  i9 := by kernel_rfl
  i20 := by kernel_rfl
  i37 := by kernel_rfl
  i46 := by kernel_rfl
  i51 := by kernel_rfl
  i53 := by kernel_rfl
  i171 := by kernel_rfl
  i173 := by kernel_rfl
  i212 := by kernel_rfl
  i232 := by kernel_rfl
  i233 := by kernel_rfl
  m17 := by kernel_rfl
  m18 := by kernel_rfl
  m19 := by kernel_rfl }
open Go.RowKit Go.Sort Go.Lib in
/-- internal/strconv.FormatInt: "FormatInt returns the string representation of i in the given base": AT BASE 10: i's decimal numeral, for every int64. The world behind the call: the world before it, new blocks behind the heap, draws. (LAID: no walk: one application.) -/
theorem Tryz.internal_strconv_FormatInt_10 (n : Int) (h0 : -9223372036854775808 ≤ n) (h1 : n ≤ 9223372036854775807) (w : World) (htab : Lib.TabIs Tryz.prog w "internal/strconv.uint64pow10" .u64 Lib.pow10Tab) :
    Calls Tryz.prog 134 #[.int .i64 n, .int .i64 10] w fun e w' => e = .returned (.string ⟨(Lib.itoa n).toArray⟩) ∧ ∃ k os, w' = grow (w.drewN k) os := Any.internal_strconv_FormatInt_10 Tryz.laysM246 n h0 h1 w htab
def Tryz.lays246_ren : Go.Shelf.Ren := ⟨fun | 246 => 134 | 283 => 48 | 284 => 49 | 285 => 50 | 286 => 51 | 129 => 80 | 317 => 83 | 318 => 89 | 319 => 90 | 320 => 91 | 337 => 127 | 338 => 65 | n => n, fun | 2 => 2 | 3 => 3 | 9 => 9 | 4 => 4 | 171 => 73 | 0 => 0 | 53 => 29 | 37 => 39 | 5 => 5 | 173 => 76 | 212 => 115 | 51 => 91 | 20 => 20 | 213 => 116 | 46 => 85 | 232 => 103 | 233 => 129 | n => n, fun | 17 => 2 | 18 => 9 | 19 => 3 | n => n⟩
theorem Tryz.lays246 : Go.Proofs.Lays.n246 Tryz.prog Tryz.lays246_ren := {
  mixed := by kernel_rfl
  f129 := Tryz.func80.trans (congrArg some (by kernel_rfl))
  f246 := Tryz.func134.trans (congrArg some (by kernel_rfl))
  f283 := Tryz.func48.trans (congrArg some (by kernel_rfl))
  f284 := Tryz.func49.trans (congrArg some (by kernel_rfl))
  f285 := Tryz.func50.trans (congrArg some (by kernel_rfl))
  f286 := Tryz.func51.trans (congrArg some (by kernel_rfl))
  f317 := Tryz.func83.trans (congrArg some (by kernel_rfl))
  f318 := Tryz.func89.trans (congrArg some (by kernel_rfl))
  f319 := Tryz.func90.trans (congrArg some (by kernel_rfl))
  f320 := Tryz.func91.trans (congrArg some (by kernel_rfl))
  f337 := Tryz.func127.trans (congrArg some (by kernel_rfl))
  f338 := Tryz.func65.trans (congrArg some (by kernel_rfl))
  t0 := Tryz.underlying0
  a0 := Tryz.isAgg0
  z0 := Tryz.sizeOf0
  v0 := Tryz.zeroValue0
  t2 := Tryz.underlying2
  a2 := Tryz.isAgg2
  z2 := Tryz.sizeOf2
  v2 := Tryz.zeroValue2
  t3 := Tryz.underlying3
  a3 := Tryz.isAgg3
  z3 := Tryz.sizeOf3
  v3 := Tryz.zeroValue3
  t4 := Tryz.underlying4
  a4 := Tryz.isAgg4
  z4 := Tryz.sizeOf4
  v4 := Tryz.zeroValue4
  t5 := Tryz.underlying5
  a5 := Tryz.isAgg5
  z5 := Tryz.sizeOf5
  v5 := Tryz.zeroValue5
  t9 := Tryz.underlying9
  a9 := Tryz.isAgg9
  z9 := Tryz.sizeOf9
  v9 := Tryz.zeroValue9
  t20 := Tryz.underlying20
  a20 := Tryz.isAgg20
  z20 := Tryz.sizeOf20
  v20 := Tryz.zeroValue20
  t37 := Tryz.underlying39
  a37 := Tryz.isAgg39
  z37 := Tryz.sizeOf39
  v37 := Tryz.zeroValue39
  t46 := Tryz.underlying85
  a46 := Tryz.isAgg85
  z46 := Tryz.sizeOf85
  v46 := Tryz.zeroValue85
  t51 := Tryz.underlying91
  a51 := Tryz.isAgg91
  z51 := Tryz.sizeOf91
  v51 := Tryz.zeroValue91
  t53 := Tryz.underlying29
  a53 := Tryz.isAgg29
  z53 := Tryz.sizeOf29
  v53 := Tryz.zeroValue29
  t171 := Tryz.underlying73
  a171 := Tryz.isAgg73
  z171 := Tryz.sizeOf73
  v171 := Tryz.zeroValue73
  t173 := Tryz.underlying76
  a173 := Tryz.isAgg76
  z173 := Tryz.sizeOf76
  v173 := Tryz.zeroValue76
  t212 := Tryz.underlying115
  a212 := Tryz.isAgg115
  z212 := Tryz.sizeOf115
  v212 := Tryz.zeroValue115
  t213 := Tryz.underlying116
  a213 := Tryz.isAgg116
  z213 := Tryz.sizeOf116
  t232 := Tryz.underlying103
  a232 := Tryz.isAgg103
  z232 := Tryz.sizeOf103
  v232 := Tryz.zeroValue103
  t233 := Tryz.underlying129
  a233 := Tryz.isAgg129
  z233 := Tryz.sizeOf129
  v233 := Tryz.zeroValue129
  g17 := by kernel_rfl
  g18 := by kernel_rfl
  g19 := by kernel_rfl }
open Go.RowKit Go.Sort Go.Lib in
/-- THE ROAD WITHOUT THE TABLE: 0 <= i < 100: two constants are read, nothing is laid: no premise on the world, and the world is as it was. (LAID: no walk: one application.) -/
theorem Tryz.internal_strconv_FormatInt_10_small (i : Nat) (hi : i < 100) (w : World) :
    Calls Tryz.prog 134 #[.int .i64 i, .int .i64 10] w fun e w' => e = .returned (.string ⟨(Lib.decDigits i).toArray⟩) ∧ w' = w := Any.internal_strconv_FormatInt_10_small Tryz.lays246 i hi w
def Tryz.laysM243_ren : Go.Shelf.Ren := ⟨fun | 243 => 102 | 246 => 134 | 283 => 48 | 284 => 49 | 285 => 50 | 286 => 51 | 129 => 80 | 317 => 83 | 318 => 89 | 319 => 90 | 320 => 91 | 337 => 127 | 338 => 65 | n => n, fun | 3 => 3 | 9 => 9 | 2 => 2 | 4 => 4 | 171 => 73 | 0 => 0 | 53 => 29 | 37 => 39 | 5 => 5 | 173 => 76 | 212 => 115 | 51 => 91 | 20 => 20 | 213 => 116 | 46 => 85 | 232 => 103 | 233 => 129 | n => n, fun | 17 => 2 | 18 => 9 | 19 => 3 | n => n⟩
theorem Tryz.laysM243 : Go.Proofs.LaysM.n243 Tryz.prog Tryz.laysM243_ren := {
  mixed := by kernel_rfl
  f129 := Tryz.func80.trans (congrArg some (by kernel_rfl))
  f243 := Tryz.func102.trans (congrArg some (by kernel_rfl))
  f246 := Tryz.func134.trans (congrArg some (by kernel_rfl))
  f283 := Tryz.func48.trans (congrArg some (by kernel_rfl))
  f284 := Tryz.func49.trans (congrArg some (by kernel_rfl))
  f285 := Tryz.func50.trans (congrArg some (by kernel_rfl))
  f286 := Tryz.func51.trans (congrArg some (by kernel_rfl))
  f317 := Tryz.func83.trans (congrArg some (by kernel_rfl))
  f318 := Tryz.func89.trans (congrArg some (by kernel_rfl))
  f319 := Tryz.func90.trans (congrArg some (by kernel_rfl))
  f320 := Tryz.func91.trans (congrArg some (by kernel_rfl))
  f337 := Tryz.func127.trans (congrArg some (by kernel_rfl))
  f338 := Tryz.func65.trans (congrArg some (by kernel_rfl))
  t0 := Tryz.underlying0
  a0 := Tryz.isAgg0
  z0 := Tryz.sizeOf0
  v0 := Tryz.zeroValue0
  t2 := Tryz.underlying2
  a2 := Tryz.isAgg2
  z2 := Tryz.sizeOf2
  v2 := Tryz.zeroValue2
  t3 := Tryz.underlying3
  a3 := Tryz.isAgg3
  z3 := Tryz.sizeOf3
  v3 := Tryz.zeroValue3
  t4 := Tryz.underlying4
  a4 := Tryz.isAgg4
  z4 := Tryz.sizeOf4
  v4 := Tryz.zeroValue4
  t5 := Tryz.underlying5
  a5 := Tryz.isAgg5
  z5 := Tryz.sizeOf5
  v5 := Tryz.zeroValue5
  t9 := Tryz.underlying9
  a9 := Tryz.isAgg9
  z9 := Tryz.sizeOf9
  v9 := Tryz.zeroValue9
  t20 := Tryz.underlying20
  a20 := Tryz.isAgg20
  z20 := Tryz.sizeOf20
  v20 := Tryz.zeroValue20
  t37 := Tryz.underlying39
  a37 := Tryz.isAgg39
  z37 := Tryz.sizeOf39
  v37 := Tryz.zeroValue39
  t46 := Tryz.underlying85
  a46 := Tryz.isAgg85
  z46 := Tryz.sizeOf85
  v46 := Tryz.zeroValue85
  t51 := Tryz.underlying91
  a51 := Tryz.isAgg91
  z51 := Tryz.sizeOf91
  v51 := Tryz.zeroValue91
  t53 := Tryz.underlying29
  a53 := Tryz.isAgg29
  z53 := Tryz.sizeOf29
  v53 := Tryz.zeroValue29
  t171 := Tryz.underlying73
  a171 := Tryz.isAgg73
  z171 := Tryz.sizeOf73
  v171 := Tryz.zeroValue73
  t173 := Tryz.underlying76
  a173 := Tryz.isAgg76
  z173 := Tryz.sizeOf76
  v173 := Tryz.zeroValue76
  t212 := Tryz.underlying115
  a212 := Tryz.isAgg115
  z212 := Tryz.sizeOf115
  v212 := Tryz.zeroValue115
  t213 := Tryz.underlying116
  a213 := Tryz.isAgg116
  z213 := Tryz.sizeOf116
  t232 := Tryz.underlying103
  a232 := Tryz.isAgg103
  z232 := Tryz.sizeOf103
  v232 := Tryz.zeroValue103
  t233 := Tryz.underlying129
  a233 := Tryz.isAgg129
  z233 := Tryz.sizeOf129
  v233 := Tryz.zeroValue129
  g17 := by kernel_rfl
  g18 := by kernel_rfl
  g19 := by kernel_rfl
  i0 := by kernel_rfl
  i2 := by kernel_rfl
  i3 := by kernel_rfl
  i4 := by kernel_rfl
  i5 := by kernel_rfl
  i9 := by kernel_rfl
  i20 := by kernel_rfl
  i37 := by kernel_rfl
  i46 := by kernel_rfl
  i51 := by kernel_rfl
  i53 := by kernel_rfl
  i171 := by kernel_rfl
  i173 := by kernel_rfl
  i212 := by kernel_rfl
  i232 := by kernel_rfl
  i233 := by kernel_rfl
  m17 := by kernel_rfl
  m18 := by kernel_rfl
  m19 := by kernel_rfl }
open Go.RowKit Go.Sort Go.Lib in
/-- internal/strconv.Itoa: "Itoa is equivalent to FormatInt(int64(i), 10).": i's decimal numeral, for every int. (LAID: no walk: one application.) -/
theorem Tryz.internal_strconv_Itoa (n : Int) (h0 : -9223372036854775808 ≤ n) (h1 : n ≤ 9223372036854775807) (w : World) (htab : Lib.TabIs Tryz.prog w "internal/strconv.uint64pow10" .u64 Lib.pow10Tab) :
    Calls Tryz.prog 102 #[.int .i64 n] w fun e w' => e = .returned (.string ⟨(Lib.itoa n).toArray⟩) ∧ ∃ k os, w' = grow (w.drewN k) os := Any.internal_strconv_Itoa Tryz.laysM243 n h0 h1 w htab
def Tryz.lays243_ren : Go.Shelf.Ren := ⟨fun | 243 => 102 | 246 => 134 | 283 => 48 | 284 => 49 | 285 => 50 | 286 => 51 | 129 => 80 | 317 => 83 | 318 => 89 | 319 => 90 | 320 => 91 | 337 => 127 | 338 => 65 | n => n, fun | 3 => 3 | 9 => 9 | 2 => 2 | 4 => 4 | 171 => 73 | 0 => 0 | 53 => 29 | 37 => 39 | 5 => 5 | 173 => 76 | 212 => 115 | 51 => 91 | 20 => 20 | 213 => 116 | 46 => 85 | 232 => 103 | 233 => 129 | n => n, fun | 17 => 2 | 18 => 9 | 19 => 3 | n => n⟩
theorem Tryz.lays243 : Go.Proofs.Lays.n243 Tryz.prog Tryz.lays243_ren := {
  mixed := by kernel_rfl
  f129 := Tryz.func80.trans (congrArg some (by kernel_rfl))
  f243 := Tryz.func102.trans (congrArg some (by kernel_rfl))
  f246 := Tryz.func134.trans (congrArg some (by kernel_rfl))
  f283 := Tryz.func48.trans (congrArg some (by kernel_rfl))
  f284 := Tryz.func49.trans (congrArg some (by kernel_rfl))
  f285 := Tryz.func50.trans (congrArg some (by kernel_rfl))
  f286 := Tryz.func51.trans (congrArg some (by kernel_rfl))
  f317 := Tryz.func83.trans (congrArg some (by kernel_rfl))
  f318 := Tryz.func89.trans (congrArg some (by kernel_rfl))
  f319 := Tryz.func90.trans (congrArg some (by kernel_rfl))
  f320 := Tryz.func91.trans (congrArg some (by kernel_rfl))
  f337 := Tryz.func127.trans (congrArg some (by kernel_rfl))
  f338 := Tryz.func65.trans (congrArg some (by kernel_rfl))
  t0 := Tryz.underlying0
  a0 := Tryz.isAgg0
  z0 := Tryz.sizeOf0
  v0 := Tryz.zeroValue0
  t2 := Tryz.underlying2
  a2 := Tryz.isAgg2
  z2 := Tryz.sizeOf2
  v2 := Tryz.zeroValue2
  t3 := Tryz.underlying3
  a3 := Tryz.isAgg3
  z3 := Tryz.sizeOf3
  v3 := Tryz.zeroValue3
  t4 := Tryz.underlying4
  a4 := Tryz.isAgg4
  z4 := Tryz.sizeOf4
  v4 := Tryz.zeroValue4
  t5 := Tryz.underlying5
  a5 := Tryz.isAgg5
  z5 := Tryz.sizeOf5
  v5 := Tryz.zeroValue5
  t9 := Tryz.underlying9
  a9 := Tryz.isAgg9
  z9 := Tryz.sizeOf9
  v9 := Tryz.zeroValue9
  t20 := Tryz.underlying20
  a20 := Tryz.isAgg20
  z20 := Tryz.sizeOf20
  v20 := Tryz.zeroValue20
  t37 := Tryz.underlying39
  a37 := Tryz.isAgg39
  z37 := Tryz.sizeOf39
  v37 := Tryz.zeroValue39
  t46 := Tryz.underlying85
  a46 := Tryz.isAgg85
  z46 := Tryz.sizeOf85
  v46 := Tryz.zeroValue85
  t51 := Tryz.underlying91
  a51 := Tryz.isAgg91
  z51 := Tryz.sizeOf91
  v51 := Tryz.zeroValue91
  t53 := Tryz.underlying29
  a53 := Tryz.isAgg29
  z53 := Tryz.sizeOf29
  v53 := Tryz.zeroValue29
  t171 := Tryz.underlying73
  a171 := Tryz.isAgg73
  z171 := Tryz.sizeOf73
  v171 := Tryz.zeroValue73
  t173 := Tryz.underlying76
  a173 := Tryz.isAgg76
  z173 := Tryz.sizeOf76
  v173 := Tryz.zeroValue76
  t212 := Tryz.underlying115
  a212 := Tryz.isAgg115
  z212 := Tryz.sizeOf115
  v212 := Tryz.zeroValue115
  t213 := Tryz.underlying116
  a213 := Tryz.isAgg116
  z213 := Tryz.sizeOf116
  t232 := Tryz.underlying103
  a232 := Tryz.isAgg103
  z232 := Tryz.sizeOf103
  v232 := Tryz.zeroValue103
  t233 := Tryz.underlying129
  a233 := Tryz.isAgg129
  z233 := Tryz.sizeOf129
  v233 := Tryz.zeroValue129
  g17 := by kernel_rfl
  g18 := by kernel_rfl
  g19 := by kernel_rfl }
open Go.RowKit Go.Sort Go.Lib in
/-- THE ROAD WITHOUT THE TABLE: 0 <= i < 100. (LAID: no walk: one application.) -/
theorem Tryz.internal_strconv_Itoa_small (i : Nat) (hi : i < 100) (w : World) :
    Calls Tryz.prog 102 #[.int .i64 i] w fun e w' => e = .returned (.string ⟨(Lib.decDigits i).toArray⟩) ∧ w' = w := Any.internal_strconv_Itoa_small Tryz.lays243 i hi w
def Tryz.laysM171_ren : Go.Shelf.Ren := ⟨fun | 171 => 68 | 243 => 102 | 246 => 134 | 283 => 48 | 284 => 49 | 285 => 50 | 286 => 51 | 129 => 80 | 317 => 83 | 318 => 89 | 319 => 90 | 320 => 91 | 337 => 127 | 338 => 65 | n => n, fun | 3 => 3 | 9 => 9 | 2 => 2 | 4 => 4 | 171 => 73 | 0 => 0 | 53 => 29 | 37 => 39 | 5 => 5 | 173 => 76 | 212 => 115 | 51 => 91 | 20 => 20 | 213 => 116 | 46 => 85 | 232 => 103 | 233 => 129 | n => n, fun | 17 => 2 | 18 => 9 | 19 => 3 | n => n⟩
theorem Tryz.laysM171 : Go.Proofs.LaysM.n171 Tryz.prog Tryz.laysM171_ren := {
  mixed := by kernel_rfl
  f129 := Tryz.func80.trans (congrArg some (by kernel_rfl))
  f171 := Tryz.func68.trans (congrArg some (by kernel_rfl))
  f243 := Tryz.func102.trans (congrArg some (by kernel_rfl))
  f246 := Tryz.func134.trans (congrArg some (by kernel_rfl))
  f283 := Tryz.func48.trans (congrArg some (by kernel_rfl))
  f284 := Tryz.func49.trans (congrArg some (by kernel_rfl))
  f285 := Tryz.func50.trans (congrArg some (by kernel_rfl))
  f286 := Tryz.func51.trans (congrArg some (by kernel_rfl))
  f317 := Tryz.func83.trans (congrArg some (by kernel_rfl))
  f318 := Tryz.func89.trans (congrArg some (by kernel_rfl))
  f319 := Tryz.func90.trans (congrArg some (by kernel_rfl))
  f320 := Tryz.func91.trans (congrArg some (by kernel_rfl))
  f337 := Tryz.func127.trans (congrArg some (by kernel_rfl))
  f338 := Tryz.func65.trans (congrArg some (by kernel_rfl))
  t0 := Tryz.underlying0
  a0 := Tryz.isAgg0
  z0 := Tryz.sizeOf0
  v0 := Tryz.zeroValue0
  t2 := Tryz.underlying2
  a2 := Tryz.isAgg2
  z2 := Tryz.sizeOf2
  v2 := Tryz.zeroValue2
  t3 := Tryz.underlying3
  a3 := Tryz.isAgg3
  z3 := Tryz.sizeOf3
  v3 := Tryz.zeroValue3
  t4 := Tryz.underlying4
  a4 := Tryz.isAgg4
  z4 := Tryz.sizeOf4
  v4 := Tryz.zeroValue4
  t5 := Tryz.underlying5
  a5 := Tryz.isAgg5
  z5 := Tryz.sizeOf5
  v5 := Tryz.zeroValue5
  t9 := Tryz.underlying9
  a9 := Tryz.isAgg9
  z9 := Tryz.sizeOf9
  v9 := Tryz.zeroValue9
  t20 := Tryz.underlying20
  a20 := Tryz.isAgg20
  z20 := Tryz.sizeOf20
  v20 := Tryz.zeroValue20
  t37 := Tryz.underlying39
  a37 := Tryz.isAgg39
  z37 := Tryz.sizeOf39
  v37 := Tryz.zeroValue39
  t46 := Tryz.underlying85
  a46 := Tryz.isAgg85
  z46 := Tryz.sizeOf85
  v46 := Tryz.zeroValue85
  t51 := Tryz.underlying91
  a51 := Tryz.isAgg91
  z51 := Tryz.sizeOf91
  v51 := Tryz.zeroValue91
  t53 := Tryz.underlying29
  a53 := Tryz.isAgg29
  z53 := Tryz.sizeOf29
  v53 := Tryz.zeroValue29
  t171 := Tryz.underlying73
  a171 := Tryz.isAgg73
  z171 := Tryz.sizeOf73
  v171 := Tryz.zeroValue73
  t173 := Tryz.underlying76
  a173 := Tryz.isAgg76
  z173 := Tryz.sizeOf76
  v173 := Tryz.zeroValue76
  t212 := Tryz.underlying115
  a212 := Tryz.isAgg115
  z212 := Tryz.sizeOf115
  v212 := Tryz.zeroValue115
  t213 := Tryz.underlying116
  a213 := Tryz.isAgg116
  z213 := Tryz.sizeOf116
  t232 := Tryz.underlying103
  a232 := Tryz.isAgg103
  z232 := Tryz.sizeOf103
  v232 := Tryz.zeroValue103
  t233 := Tryz.underlying129
  a233 := Tryz.isAgg129
  z233 := Tryz.sizeOf129
  v233 := Tryz.zeroValue129
  g17 := by kernel_rfl
  g18 := by kernel_rfl
  g19 := by kernel_rfl
  i0 := by kernel_rfl
  i2 := by kernel_rfl
  i3 := by kernel_rfl
  i4 := by kernel_rfl
  i5 := by kernel_rfl
  i9 := by kernel_rfl
  i20 := by kernel_rfl
  i37 := by kernel_rfl
  i46 := by kernel_rfl
  i51 := by kernel_rfl
  i53 := by kernel_rfl
  i171 := by kernel_rfl
  i173 := by kernel_rfl
  i212 := by kernel_rfl
  i232 := by kernel_rfl
  i233 := by kernel_rfl
  m17 := by kernel_rfl
  m18 := by kernel_rfl
  m19 := by kernel_rfl }
open Go.RowKit Go.Sort Go.Lib in
/-- strconv.Itoa: "Itoa is equivalent to FormatInt(int64(i), 10).": i's DECIMAL NUMERAL ('Lib.itoa': a '-' where i is negative, then the digits), FOR EVERY int. The world behind the call: the world before it, new blocks behind the heap (the library's 'var a [24]byte'), draws. (LAID: no walk: one application.) -/
theorem Tryz.strconv_Itoa (n : Int) (h0 : -9223372036854775808 ≤ n) (h1 : n ≤ 9223372036854775807) (w : World) (htab : Lib.TabIs Tryz.prog w "internal/strconv.uint64pow10" .u64 Lib.pow10Tab) :
    Calls Tryz.prog 68 #[.int .i64 n] w fun e w' => e = .returned (.string ⟨(Lib.itoa n).toArray⟩) ∧ ∃ k os, w' = grow (w.drewN k) os := Any.strconv_Itoa Tryz.laysM171 n h0 h1 w htab
def Tryz.lays171_ren : Go.Shelf.Ren := ⟨fun | 171 => 68 | 243 => 102 | 246 => 134 | 283 => 48 | 284 => 49 | 285 => 50 | 286 => 51 | 129 => 80 | 317 => 83 | 318 => 89 | 319 => 90 | 320 => 91 | 337 => 127 | 338 => 65 | n => n, fun | 3 => 3 | 9 => 9 | 2 => 2 | 4 => 4 | 171 => 73 | 0 => 0 | 53 => 29 | 37 => 39 | 5 => 5 | 173 => 76 | 212 => 115 | 51 => 91 | 20 => 20 | 213 => 116 | 46 => 85 | 232 => 103 | 233 => 129 | n => n, fun | 17 => 2 | 18 => 9 | 19 => 3 | n => n⟩
theorem Tryz.lays171 : Go.Proofs.Lays.n171 Tryz.prog Tryz.lays171_ren := {
  mixed := by kernel_rfl
  f129 := Tryz.func80.trans (congrArg some (by kernel_rfl))
  f171 := Tryz.func68.trans (congrArg some (by kernel_rfl))
  f243 := Tryz.func102.trans (congrArg some (by kernel_rfl))
  f246 := Tryz.func134.trans (congrArg some (by kernel_rfl))
  f283 := Tryz.func48.trans (congrArg some (by kernel_rfl))
  f284 := Tryz.func49.trans (congrArg some (by kernel_rfl))
  f285 := Tryz.func50.trans (congrArg some (by kernel_rfl))
  f286 := Tryz.func51.trans (congrArg some (by kernel_rfl))
  f317 := Tryz.func83.trans (congrArg some (by kernel_rfl))
  f318 := Tryz.func89.trans (congrArg some (by kernel_rfl))
  f319 := Tryz.func90.trans (congrArg some (by kernel_rfl))
  f320 := Tryz.func91.trans (congrArg some (by kernel_rfl))
  f337 := Tryz.func127.trans (congrArg some (by kernel_rfl))
  f338 := Tryz.func65.trans (congrArg some (by kernel_rfl))
  t0 := Tryz.underlying0
  a0 := Tryz.isAgg0
  z0 := Tryz.sizeOf0
  v0 := Tryz.zeroValue0
  t2 := Tryz.underlying2
  a2 := Tryz.isAgg2
  z2 := Tryz.sizeOf2
  v2 := Tryz.zeroValue2
  t3 := Tryz.underlying3
  a3 := Tryz.isAgg3
  z3 := Tryz.sizeOf3
  v3 := Tryz.zeroValue3
  t4 := Tryz.underlying4
  a4 := Tryz.isAgg4
  z4 := Tryz.sizeOf4
  v4 := Tryz.zeroValue4
  t5 := Tryz.underlying5
  a5 := Tryz.isAgg5
  z5 := Tryz.sizeOf5
  v5 := Tryz.zeroValue5
  t9 := Tryz.underlying9
  a9 := Tryz.isAgg9
  z9 := Tryz.sizeOf9
  v9 := Tryz.zeroValue9
  t20 := Tryz.underlying20
  a20 := Tryz.isAgg20
  z20 := Tryz.sizeOf20
  v20 := Tryz.zeroValue20
  t37 := Tryz.underlying39
  a37 := Tryz.isAgg39
  z37 := Tryz.sizeOf39
  v37 := Tryz.zeroValue39
  t46 := Tryz.underlying85
  a46 := Tryz.isAgg85
  z46 := Tryz.sizeOf85
  v46 := Tryz.zeroValue85
  t51 := Tryz.underlying91
  a51 := Tryz.isAgg91
  z51 := Tryz.sizeOf91
  v51 := Tryz.zeroValue91
  t53 := Tryz.underlying29
  a53 := Tryz.isAgg29
  z53 := Tryz.sizeOf29
  v53 := Tryz.zeroValue29
  t171 := Tryz.underlying73
  a171 := Tryz.isAgg73
  z171 := Tryz.sizeOf73
  v171 := Tryz.zeroValue73
  t173 := Tryz.underlying76
  a173 := Tryz.isAgg76
  z173 := Tryz.sizeOf76
  v173 := Tryz.zeroValue76
  t212 := Tryz.underlying115
  a212 := Tryz.isAgg115
  z212 := Tryz.sizeOf115
  v212 := Tryz.zeroValue115
  t213 := Tryz.underlying116
  a213 := Tryz.isAgg116
  z213 := Tryz.sizeOf116
  t232 := Tryz.underlying103
  a232 := Tryz.isAgg103
  z232 := Tryz.sizeOf103
  v232 := Tryz.zeroValue103
  t233 := Tryz.underlying129
  a233 := Tryz.isAgg129
  z233 := Tryz.sizeOf129
  v233 := Tryz.zeroValue129
  g17 := by kernel_rfl
  g18 := by kernel_rfl
  g19 := by kernel_rfl }
open Go.RowKit Go.Sort Go.Lib in
/-- THE ROAD WITHOUT THE TABLE: 0 <= i < 100: NO PREMISE ON THE WORLD, AND THE WORLD IS AS IT WAS: a row that keeps its argument in that range need list no table ('laid = []'). (LAID: no walk: one application.) -/
theorem Tryz.strconv_Itoa_small (i : Nat) (hi : i < 100) (w : World) :
    Calls Tryz.prog 68 #[.int .i64 i] w fun e w' => e = .returned (.string ⟨(Lib.decDigits i).toArray⟩) ∧ w' = w := Any.strconv_Itoa_small Tryz.lays171 i hi w
def Tryz.laysM316_ren : Go.Shelf.Ren := ⟨fun | 316 => 108 | n => n, fun | 9 => 9 | 3 => 3 | 4 => 4 | 37 => 39 | 0 => 0 | 127 => 90 | 5 => 5 | n => n, fun | n => n⟩
theorem Tryz.laysM316 : Go.Proofs.LaysM.n316 Tryz.prog Tryz.laysM316_ren := {
  mixed := by kernel_rfl
  f316 := Tryz.func108.trans (congrArg some (by kernel_rfl))
  t0 := Tryz.underlying0
  a0 := Tryz.isAgg0
  z0 := Tryz.sizeOf0
  v0 := Tryz.zeroValue0
  t3 := Tryz.underlying3
  a3 := Tryz.isAgg3
  z3 := Tryz.sizeOf3
  v3 := Tryz.zeroValue3
  t4 := Tryz.underlying4
  a4 := Tryz.isAgg4
  z4 := Tryz.sizeOf4
  v4 := Tryz.zeroValue4
  t9 := Tryz.underlying9
  a9 := Tryz.isAgg9
  z9 := Tryz.sizeOf9
  v9 := Tryz.zeroValue9
  t37 := Tryz.underlying39
  a37 := Tryz.isAgg39
  z37 := Tryz.sizeOf39
  v37 := Tryz.zeroValue39
  t127 := Tryz.underlying90
  a127 := Tryz.isAgg90
  z127 := Tryz.sizeOf90
  v127 := Tryz.zeroValue90
  t5 := Tryz.underlying5
  a5 := Tryz.isAgg5
  z5 := Tryz.sizeOf5
  v5 := Tryz.zeroValue5
  i0 := by kernel_rfl
  i3 := by kernel_rfl
  i4 := by kernel_rfl
  i5 := by kernel_rfl
  i9 := by kernel_rfl
  i37 := by kernel_rfl
  i127 := by kernel_rfl }
open Go.RowKit in
/-- internal/stringslite.Clone (what strings.Clone calls): "Clone returns a fresh copy of s.": THE SAME BYTES. Of what was there nothing has turned (a new row is laid, and frozen, where s is not empty). (LAID: no walk: one application.) -/
theorem Tryz.stringslite_Clone (s : ByteArray) (w : World) (hlim : s.size ≤ 281474976710656) :
    Calls Tryz.prog 108 #[.string s] w fun e w' => e = .returned (.string s) ∧ Below w.heap.size w w' := Any.stringslite_Clone Tryz.laysM316 s w hlim
def Tryz.laysM280_ren : Go.Shelf.Ren := ⟨fun | 280 => 72 | 316 => 108 | n => n, fun | 9 => 9 | 168 => 97 | 75 => 53 | 210 => 137 | 3 => 3 | 4 => 4 | 37 => 39 | 0 => 0 | 127 => 90 | 80 => 44 | 5 => 5 | n => n, fun | 16 => 6 | n => n⟩
theorem Tryz.laysM280 : Go.Proofs.LaysM.n280 Tryz.prog Tryz.laysM280_ren := {
  mixed := by kernel_rfl
  f280 := Tryz.func72.trans (congrArg some (by kernel_rfl))
  f316 := Tryz.func108.trans (congrArg some (by kernel_rfl))
  t0 := Tryz.underlying0
  a0 := Tryz.isAgg0
  z0 := Tryz.sizeOf0
  v0 := Tryz.zeroValue0
  t3 := Tryz.underlying3
  a3 := Tryz.isAgg3
  z3 := Tryz.sizeOf3
  v3 := Tryz.zeroValue3
  t4 := Tryz.underlying4
  a4 := Tryz.isAgg4
  z4 := Tryz.sizeOf4
  v4 := Tryz.zeroValue4
  t9 := Tryz.underlying9
  a9 := Tryz.isAgg9
  z9 := Tryz.sizeOf9
  v9 := Tryz.zeroValue9
  t37 := Tryz.underlying39
  a37 := Tryz.isAgg39
  z37 := Tryz.sizeOf39
  v37 := Tryz.zeroValue39
  t75 := Tryz.underlying53
  a75 := Tryz.isAgg53
  z75 := Tryz.sizeOf53
  v75 := Tryz.zeroValue53
  t127 := Tryz.underlying90
  a127 := Tryz.isAgg90
  z127 := Tryz.sizeOf90
  v127 := Tryz.zeroValue90
  t168 := Tryz.underlying97
  a168 := Tryz.isAgg97
  z168 := Tryz.sizeOf97
  v168 := Tryz.zeroValue97
  t210 := Tryz.underlying137
  a210 := Tryz.isAgg137
  z210 := Tryz.sizeOf137
  v210 := Tryz.zeroValue137
  g16 := by kernel_rfl
  t5 := Tryz.underlying5
  a5 := Tryz.isAgg5
  z5 := Tryz.sizeOf5
  v5 := Tryz.zeroValue5
  t80 := Tryz.underlying44
  a80 := Tryz.isAgg44
  z80 := Tryz.sizeOf44
  v80 := Tryz.zeroValue44
  i0 := by kernel_rfl
  i3 := by kernel_rfl
  i4 := by kernel_rfl
  i5 := by kernel_rfl
  i9 := by kernel_rfl
  i37 := by kernel_rfl
  i75 := by kernel_rfl
  i80 := by kernel_rfl
  i127 := by kernel_rfl
  i168 := by kernel_rfl
  i210 := by kernel_rfl
  m16 := by kernel_rfl }
open Go.RowKit in
/-- strconv.rangeError: '&NumError{fn, stringslite.Clone(str), ErrRange}': A POINTER TO A NEW BLOCK that holds fn, str's bytes, and what the variable ErrRange holds. Of what was there nothing has turned. (LAID: no walk: one application.) -/
theorem Tryz.strconv_rangeError (fn s : ByteArray) (ev : Value) (w : World) (hlim : s.size ≤ 281474976710656) (hv : w.cell? ⟨6, 0, none⟩ = some ev) (hev : ev = .nilIface ∨ ∃ te pe, ev = .iface te pe) :
    Calls Tryz.prog 72 #[.string fn, .string s] w fun e w' => ∃ N, e = .returned (.pointer (some ⟨N, 0, none⟩)) ∧ w.heap.size ≤ N ∧ w'.heap[N]? = some (.cells #[.string fn, .string s, ev] 137 (0, 0)) ∧ Below w.heap.size w w' := Any.strconv_rangeError Tryz.laysM280 fn s ev w hlim hv hev
def Tryz.laysC245_ren : Go.Shelf.Ren := ⟨fun | 245 => 45 | 279 => 71 | 280 => 72 | 281 => 73 | 282 => 74 | 316 => 108 | 171 => 68 | 205 => 109 | 243 => 102 | 246 => 134 | 283 => 48 | 284 => 49 | 285 => 50 | 286 => 51 | 129 => 80 | 317 => 83 | 318 => 89 | 319 => 90 | 320 => 91 | 337 => 127 | 338 => 65 | n => n, fun | 9 => 9 | 3 => 3 | 75 => 53 | 167 => 94 | 4 => 4 | 168 => 97 | 210 => 137 | 37 => 39 | 0 => 0 | 127 => 90 | 145 => 163 | 143 => 161 | 2 => 2 | 171 => 73 | 53 => 29 | 5 => 5 | 173 => 76 | 212 => 115 | 51 => 91 | 20 => 20 | 213 => 116 | 46 => 85 | 232 => 103 | 233 => 129 | 80 => 44 | n => n, fun | 15 => 5 | 16 => 6 | 17 => 2 | 18 => 9 | 19 => 3 | n => n⟩
theorem Tryz.laysC245 : Go.Proofs.LaysC.n245 Tryz.prog Tryz.laysC245_ren := {
  mixed := by kernel_rfl
  f129 := Tryz.func80.trans (congrArg some (by kernel_rfl))
  f171 := Tryz.func68.trans (congrArg some (by kernel_rfl))
  f205 := Tryz.func109.trans (congrArg some (by kernel_rfl))
  f243 := Tryz.func102.trans (congrArg some (by kernel_rfl))
  f245 := Tryz.func45.trans (congrArg some (by kernel_rfl))
  f246 := Tryz.func134.trans (congrArg some (by kernel_rfl))
  f279 := Tryz.func71.trans (congrArg some (by kernel_rfl))
  f280 := Tryz.func72.trans (congrArg some (by kernel_rfl))
  f281 := Tryz.func73.trans (congrArg some (by kernel_rfl))
  f282 := Tryz.func74.trans (congrArg some (by kernel_rfl))
  f283 := Tryz.func48.trans (congrArg some (by kernel_rfl))
  f284 := Tryz.func49.trans (congrArg some (by kernel_rfl))
  f285 := Tryz.func50.trans (congrArg some (by kernel_rfl))
  f286 := Tryz.func51.trans (congrArg some (by kernel_rfl))
  f316 := Tryz.func108.trans (congrArg some (by kernel_rfl))
  f317 := Tryz.func83.trans (congrArg some (by kernel_rfl))
  f318 := Tryz.func89.trans (congrArg some (by kernel_rfl))
  f319 := Tryz.func90.trans (congrArg some (by kernel_rfl))
  f320 := Tryz.func91.trans (congrArg some (by kernel_rfl))
  f337 := Tryz.func127.trans (congrArg some (by kernel_rfl))
  f338 := Tryz.func65.trans (congrArg some (by kernel_rfl))
  t0 := Tryz.underlying0
  a0 := Tryz.isAgg0
  z0 := Tryz.sizeOf0
  v0 := Tryz.zeroValue0
  t2 := Tryz.underlying2
  a2 := Tryz.isAgg2
  z2 := Tryz.sizeOf2
  v2 := Tryz.zeroValue2
  t3 := Tryz.underlying3
  a3 := Tryz.isAgg3
  z3 := Tryz.sizeOf3
  v3 := Tryz.zeroValue3
  t4 := Tryz.underlying4
  a4 := Tryz.isAgg4
  z4 := Tryz.sizeOf4
  v4 := Tryz.zeroValue4
  t5 := Tryz.underlying5
  a5 := Tryz.isAgg5
  z5 := Tryz.sizeOf5
  v5 := Tryz.zeroValue5
  t9 := Tryz.underlying9
  a9 := Tryz.isAgg9
  z9 := Tryz.sizeOf9
  v9 := Tryz.zeroValue9
  t20 := Tryz.underlying20
  a20 := Tryz.isAgg20
  z20 := Tryz.sizeOf20
  v20 := Tryz.zeroValue20
  t37 := Tryz.underlying39
  a37 := Tryz.isAgg39
  z37 := Tryz.sizeOf39
  v37 := Tryz.zeroValue39
  t46 := Tryz.underlying85
  a46 := Tryz.isAgg85
  z46 := Tryz.sizeOf85
  v46 := Tryz.zeroValue85
  t51 := Tryz.underlying91
  a51 := Tryz.isAgg91
  z51 := Tryz.sizeOf91
  v51 := Tryz.zeroValue91
  t53 := Tryz.underlying29
  a53 := Tryz.isAgg29
  z53 := Tryz.sizeOf29
  v53 := Tryz.zeroValue29
  t75 := Tryz.underlying53
  a75 := Tryz.isAgg53
  z75 := Tryz.sizeOf53
  v75 := Tryz.zeroValue53
  t127 := Tryz.underlying90
  a127 := Tryz.isAgg90
  z127 := Tryz.sizeOf90
  v127 := Tryz.zeroValue90
  t143 := Tryz.underlying161
  a143 := Tryz.isAgg161
  z143 := Tryz.sizeOf161
  v143 := Tryz.zeroValue161
  t145 := Tryz.underlying163
  a145 := Tryz.isAgg163
  z145 := Tryz.sizeOf163
  v145 := Tryz.zeroValue163
  t167 := Tryz.underlying94
  a167 := Tryz.isAgg94
  z167 := Tryz.sizeOf94
  v167 := Tryz.zeroValue94
  t168 := Tryz.underlying97
  a168 := Tryz.isAgg97
  z168 := Tryz.sizeOf97
  v168 := Tryz.zeroValue97
  t171 := Tryz.underlying73
  a171 := Tryz.isAgg73
  z171 := Tryz.sizeOf73
  v171 := Tryz.zeroValue73
  t173 := Tryz.underlying76
  a173 := Tryz.isAgg76
  z173 := Tryz.sizeOf76
  v173 := Tryz.zeroValue76
  t210 := Tryz.underlying137
  a210 := Tryz.isAgg137
  z210 := Tryz.sizeOf137
  v210 := Tryz.zeroValue137
  t212 := Tryz.underlying115
  a212 := Tryz.isAgg115
  z212 := Tryz.sizeOf115
  v212 := Tryz.zeroValue115
  t213 := Tryz.underlying116
  a213 := Tryz.isAgg116
  z213 := Tryz.sizeOf116
  t232 := Tryz.underlying103
  a232 := Tryz.isAgg103
  z232 := Tryz.sizeOf103
  v232 := Tryz.zeroValue103
  t233 := Tryz.underlying129
  a233 := Tryz.isAgg129
  z233 := Tryz.sizeOf129
  v233 := Tryz.zeroValue129
  g15 := by kernel_rfl
  g16 := by kernel_rfl
  g17 := by kernel_rfl
  g18 := by kernel_rfl
  g19 := by kernel_rfl
  t80 := Tryz.underlying44
  a80 := Tryz.isAgg44
  z80 := Tryz.sizeOf44
  v80 := Tryz.zeroValue44
  i0 := by kernel_rfl
  i2 := by kernel_rfl
  i3 := by kernel_rfl
  i4 := by kernel_rfl
  i5 := by kernel_rfl
  i9 := by kernel_rfl
  i20 := by kernel_rfl
  i37 := by kernel_rfl
  i46 := by kernel_rfl
  i51 := by kernel_rfl
  i53 := by kernel_rfl
  i75 := by kernel_rfl
  i80 := by kernel_rfl
  i127 := by kernel_rfl
  i143 := by kernel_rfl
  i145 := by kernel_rfl
  i167 := by kernel_rfl
  i168 := by kernel_rfl
  i171 := by kernel_rfl
  i173 := by kernel_rfl
  i210 := by kernel_rfl
  i212 := by kernel_rfl
  i232 := by kernel_rfl
  i233 := by kernel_rfl
  m15 := by kernel_rfl
  m16 := by kernel_rfl
  m17 := by kernel_rfl
  m18 := by kernel_rfl
  m19 := by kernel_rfl
  c0 := by kernel_rfl
  c2 := by kernel_rfl
  c3 := by kernel_rfl
  c4 := by kernel_rfl
  c5 := by kernel_rfl
  c9 := by kernel_rfl
  c20 := by kernel_rfl
  c37 := by kernel_rfl
  c46 := by kernel_rfl
  c51 := by kernel_rfl
  c53 := by kernel_rfl
  c75 := by kernel_rfl
  c80 := by kernel_rfl
  c127 := by kernel_rfl
  c143 := by kernel_rfl
  c145 := by kernel_rfl
  c167 := by kernel_rfl
  c168 := by kernel_rfl
  c171 := by kernel_rfl
  c173 := by kernel_rfl
  c210 := by kernel_rfl
  c212 := by kernel_rfl
  c213 := by kernel_rfl
  c232 := by kernel_rfl
  c233 := by kernel_rfl }
open Go.RowKit in
/-- strconv.toError, at the inner package's ErrRange: 'rangeError(fn, s)' as an error: A *NumError IN A NEW BLOCK. (LAID: no walk: one application.) -/
theorem Tryz.strconv_toError_range (fn s : ByteArray) (base bits : Int) (ev : Value) (w : World) (hlim : s.size ≤ 281474976710656) (hv : w.cell? ⟨6, 0, none⟩ = some ev) (hev : ev = .nilIface ∨ ∃ te pe, ev = .iface te pe) :
    Calls Tryz.prog 45 #[.string fn, .string s, .int .i64 base, .int .i64 bits, .iface 94 (.int .i64 1)] w fun e w' => ∃ N, e = .returned (.iface 97 (.pointer (some ⟨N, 0, none⟩))) ∧ w.heap.size ≤ N ∧ w'.heap[N]? = some (.cells #[.string fn, .string s, ev] 137 (0, 0)) ∧ Below w.heap.size w w' := Any.strconv_toError_range Tryz.laysC245 fn s base bits ev w hlim hv hev
def Tryz.lays217_ren : Go.Shelf.Ren := ⟨fun | 217 => 103 | 266 => 135 | n => n, fun | 9 => 9 | 5 => 5 | 3 => 3 | n => n, fun | n => n⟩
theorem Tryz.lays217 : Go.Proofs.Lays.n217 Tryz.prog Tryz.lays217_ren := {
  mixed := by kernel_rfl
  f217 := Tryz.func103.trans (congrArg some (by kernel_rfl))
  f266 := Tryz.func135.trans (congrArg some (by kernel_rfl))
  t3 := Tryz.underlying3
  a3 := Tryz.isAgg3
  z3 := Tryz.sizeOf3
  v3 := Tryz.zeroValue3
  t5 := Tryz.underlying5
  a5 := Tryz.isAgg5
  z5 := Tryz.sizeOf5
  v5 := Tryz.zeroValue5
  t9 := Tryz.underlying9
  a9 := Tryz.isAgg9
  z9 := Tryz.sizeOf9
  v9 := Tryz.zeroValue9 }
open Go.RowKit Go.Lib in
/-- internal/stringslite.IndexByte (what strings.IndexByte calls): IT RETURNS 'Lib.indexByte s c'; the world is as it was. (LAID: no walk: one application.) -/
theorem Tryz.stringslite_IndexByte (s : ByteArray) (c : Int) (w : World) :
    Calls Tryz.prog 103 #[.string s, .int .u8 c] w fun e w' => e = .returned (.int .i64 (Lib.indexByte s.data.toList c.toNat.toUInt8)) ∧ w' = w := Any.stringslite_IndexByte Tryz.lays217 s c w
def Tryz.lays224_ren : Go.Shelf.Ren := ⟨fun | 224 => 105 | n => n, fun | 3 => 3 | n => n, fun | n => n⟩
theorem Tryz.lays224 : Go.Proofs.Lays.n224 Tryz.prog Tryz.lays224_ren := {
  mixed := by kernel_rfl
  f224 := Tryz.func105.trans (congrArg some (by kernel_rfl))
  t3 := Tryz.underlying3
  a3 := Tryz.isAgg3
  z3 := Tryz.sizeOf3
  v3 := Tryz.zeroValue3 }
open Go.RowKit Go.Lib in
/-- internal/bytealg.Cutover: "Cutover reports the number of failures of IndexByte we should tolerate before switching over to Index. n is the number of bytes processed so far.": on amd64: (n + 16) / 8. (LAID: no walk: one application.) -/
theorem Tryz.bytealg_Cutover (n : Int) (h0 : 0 ≤ n) (h1 : n < 4611686018427387904) (w : World) :
    Calls Tryz.prog 105 #[.int .i64 n] w fun e w' => e = .returned (.int .i64 ((n + 16) / 8)) ∧ w' = w := Any.bytealg_Cutover Tryz.lays224 n h0 h1 w
def Tryz.lays314_ren : Go.Shelf.Ren := ⟨fun | 314 => 136 | n => n, fun | 9 => 9 | 51 => 91 | 3 => 3 | 4 => 4 | 5 => 5 | 46 => 85 | n => n, fun | n => n⟩
theorem Tryz.lays314 : Go.Proofs.Lays.n314 Tryz.prog Tryz.lays314_ren := {
  mixed := by kernel_rfl
  f314 := Tryz.func136.trans (congrArg some (by kernel_rfl))
  t3 := Tryz.underlying3
  a3 := Tryz.isAgg3
  z3 := Tryz.sizeOf3
  v3 := Tryz.zeroValue3
  t4 := Tryz.underlying4
  a4 := Tryz.isAgg4
  z4 := Tryz.sizeOf4
  v4 := Tryz.zeroValue4
  t5 := Tryz.underlying5
  a5 := Tryz.isAgg5
  z5 := Tryz.sizeOf5
  v5 := Tryz.zeroValue5
  t9 := Tryz.underlying9
  a9 := Tryz.isAgg9
  z9 := Tryz.sizeOf9
  v9 := Tryz.zeroValue9
  t46 := Tryz.underlying85
  a46 := Tryz.isAgg85
  z46 := Tryz.sizeOf85
  v46 := Tryz.zeroValue85
  t51 := Tryz.underlying91
  a51 := Tryz.isAgg91
  z51 := Tryz.sizeOf91
  v51 := Tryz.zeroValue91 }
open Go.RowKit Go.Lib in
/-- hashStr: "returns the hash and the appropriate multiplicative factor for use in Rabin-Karp algorithm": THE HASH OF ALL OF sep, AND 16777619 ^ len(sep), both in uint32. (LAID: no walk: one application.) -/
theorem Tryz.bytealg_hashStr (sep : ByteArray) (hs : sep.size < 4294967281) (w : World) :
    Calls Tryz.prog 136 #[.string sep] w fun e w' => e = .returned (.tuple #[.int .u32 (RK.H sep.data.toList % 4294967296), .int .u32 (16777619 ^ sep.size % 4294967296)]) ∧ w' = w := Any.bytealg_hashStr Tryz.lays314 sep hs w
def Tryz.lays267_ren : Go.Shelf.Ren := ⟨fun | 267 => 106 | 314 => 136 | n => n, fun | 9 => 9 | 3 => 3 | 146 => 125 | 51 => 91 | 4 => 4 | 5 => 5 | 46 => 85 | n => n, fun | n => n⟩
theorem Tryz.lays267 : Go.Proofs.Lays.n267 Tryz.prog Tryz.lays267_ren := {
  mixed := by kernel_rfl
  f267 := Tryz.func106.trans (congrArg some (by kernel_rfl))
  f314 := Tryz.func136.trans (congrArg some (by kernel_rfl))
  t3 := Tryz.underlying3
  a3 := Tryz.isAgg3
  z3 := Tryz.sizeOf3
  v3 := Tryz.zeroValue3
  t4 := Tryz.underlying4
  a4 := Tryz.isAgg4
  z4 := Tryz.sizeOf4
  v4 := Tryz.zeroValue4
  t5 := Tryz.underlying5
  a5 := Tryz.isAgg5
  z5 := Tryz.sizeOf5
  v5 := Tryz.zeroValue5
  t9 := Tryz.underlying9
  a9 := Tryz.isAgg9
  z9 := Tryz.sizeOf9
  v9 := Tryz.zeroValue9
  t46 := Tryz.underlying85
  a46 := Tryz.isAgg85
  z46 := Tryz.sizeOf85
  v46 := Tryz.zeroValue85
  t51 := Tryz.underlying91
  a51 := Tryz.isAgg91
  z51 := Tryz.sizeOf91
  v51 := Tryz.zeroValue91
  t146 := Tryz.underlying125
  a146 := Tryz.isAgg125
  z146 := Tryz.sizeOf125
  v146 := Tryz.zeroValue125 }
open Go.RowKit Go.Lib in
theorem Tryz.bytealg_IndexRabinKarp (s sep : ByteArray) (h1 : 1 ≤ sep.size) (h2 : sep.size ≤ s.size) (hs : s.size < 4294967281) (w : World) :
    Calls Tryz.prog 106 #[.string s, .string sep] w fun e w' => e = .returned (.int .i64 (Lib.index s.data.toList sep.data.toList)) ∧ w' = w := Any.bytealg_IndexRabinKarp Tryz.lays267 s sep h1 h2 hs w
def Tryz.lays219_ren : Go.Shelf.Ren := ⟨fun | 219 => 69 | 217 => 103 | 225 => 104 | 224 => 105 | 267 => 106 | 266 => 135 | 314 => 136 | n => n, fun | 9 => 9 | 3 => 3 | 4 => 4 | 5 => 5 | 46 => 85 | 146 => 125 | 51 => 91 | n => n, fun | 1 => 4 | n => n⟩
theorem Tryz.lays219 : Go.Proofs.Lays.n219 Tryz.prog Tryz.lays219_ren := {
  mixed := by kernel_rfl
  f217 := Tryz.func103.trans (congrArg some (by kernel_rfl))
  f219 := Tryz.func69.trans (congrArg some (by kernel_rfl))
  f224 := Tryz.func105.trans (congrArg some (by kernel_rfl))
  f225 := Tryz.func104.trans (congrArg some (by kernel_rfl))
  f266 := Tryz.func135.trans (congrArg some (by kernel_rfl))
  f267 := Tryz.func106.trans (congrArg some (by kernel_rfl))
  f314 := Tryz.func136.trans (congrArg some (by kernel_rfl))
  t3 := Tryz.underlying3
  a3 := Tryz.isAgg3
  z3 := Tryz.sizeOf3
  v3 := Tryz.zeroValue3
  t4 := Tryz.underlying4
  a4 := Tryz.isAgg4
  z4 := Tryz.sizeOf4
  v4 := Tryz.zeroValue4
  t5 := Tryz.underlying5
  a5 := Tryz.isAgg5
  z5 := Tryz.sizeOf5
  v5 := Tryz.zeroValue5
  t9 := Tryz.underlying9
  a9 := Tryz.isAgg9
  z9 := Tryz.sizeOf9
  v9 := Tryz.zeroValue9
  t46 := Tryz.underlying85
  a46 := Tryz.isAgg85
  z46 := Tryz.sizeOf85
  v46 := Tryz.zeroValue85
  t51 := Tryz.underlying91
  a51 := Tryz.isAgg91
  z51 := Tryz.sizeOf91
  v51 := Tryz.zeroValue91
  t146 := Tryz.underlying125
  a146 := Tryz.isAgg125
  z146 := Tryz.sizeOf125
  v146 := Tryz.zeroValue125
  g1 := by kernel_rfl }
open Go.RowKit Go.Lib in
/-- internal/stringslite.Index (what strings.Index calls) AT A substr OF ONE BYTE c: IT RETURNS 'Lib.indexByte s c'; the world is as it was. (LAID: no walk: one application.) -/
theorem Tryz.stringslite_Index_one (s : ByteArray) (c : UInt8) (w : World) :
    Calls Tryz.prog 69 #[.string s, .string ⟨#[c]⟩] w fun e w' => e = .returned (.int .i64 (Lib.indexByte s.data.toList c)) ∧ w' = w := Any.stringslite_Index_one Tryz.lays219 s c w
open Go.RowKit Go.Lib in
/-- internal/stringslite.Index (what strings.Index calls) AT A substr OF WHATEVER LENGTH: IT RETURNS 'Lib.index s substr'; the world is as it was. 'm': what internal/bytealg.MaxLen holds: whatever. (LAID: no walk: one application.) -/
theorem Tryz.stringslite_Index (s sub : ByteArray) (m : Int) (w : World) (hs : s.size < 4294967281) (hm : w.cell? ⟨4, 0, none⟩ = some (.int .i64 m)) :
    Calls Tryz.prog 69 #[.string s, .string sub] w fun e w' => e = .returned (.int .i64 (Lib.index s.data.toList sub.data.toList)) ∧ w' = w := Any.stringslite_Index Tryz.lays219 s sub m w hs hm
def Tryz.lays220_ren : Go.Shelf.Ren := ⟨fun | 220 => 43 | 219 => 69 | 217 => 103 | 225 => 104 | 224 => 105 | 267 => 106 | 266 => 135 | 314 => 136 | n => n, fun | 9 => 9 | 4 => 4 | 3 => 3 | 5 => 5 | 46 => 85 | 146 => 125 | 51 => 91 | n => n, fun | 1 => 4 | n => n⟩
theorem Tryz.lays220 : Go.Proofs.Lays.n220 Tryz.prog Tryz.lays220_ren := {
  mixed := by kernel_rfl
  f217 := Tryz.func103.trans (congrArg some (by kernel_rfl))
  f219 := Tryz.func69.trans (congrArg some (by kernel_rfl))
  f220 := Tryz.func43.trans (congrArg some (by kernel_rfl))
  f224 := Tryz.func105.trans (congrArg some (by kernel_rfl))
  f225 := Tryz.func104.trans (congrArg some (by kernel_rfl))
  f266 := Tryz.func135.trans (congrArg some (by kernel_rfl))
  f267 := Tryz.func106.trans (congrArg some (by kernel_rfl))
  f314 := Tryz.func136.trans (congrArg some (by kernel_rfl))
  t3 := Tryz.underlying3
  a3 := Tryz.isAgg3
  z3 := Tryz.sizeOf3
  v3 := Tryz.zeroValue3
  t4 := Tryz.underlying4
  a4 := Tryz.isAgg4
  z4 := Tryz.sizeOf4
  v4 := Tryz.zeroValue4
  t5 := Tryz.underlying5
  a5 := Tryz.isAgg5
  z5 := Tryz.sizeOf5
  v5 := Tryz.zeroValue5
  t9 := Tryz.underlying9
  a9 := Tryz.isAgg9
  z9 := Tryz.sizeOf9
  v9 := Tryz.zeroValue9
  t46 := Tryz.underlying85
  a46 := Tryz.isAgg85
  z46 := Tryz.sizeOf85
  v46 := Tryz.zeroValue85
  t51 := Tryz.underlying91
  a51 := Tryz.isAgg91
  z51 := Tryz.sizeOf91
  v51 := Tryz.zeroValue91
  t146 := Tryz.underlying125
  a146 := Tryz.isAgg125
  z146 := Tryz.sizeOf125
  v146 := Tryz.zeroValue125
  g1 := by kernel_rfl }
open Go.RowKit Go.Lib in
/-- internal/stringslite.Cut (what strings.Cut calls): IT RETURNS 'Lib.cut s sep'; the world is as it was but for the count of draws. (LAID: no walk: one application.) -/
theorem Tryz.stringslite_Cut (s sep : ByteArray) (m : Int) (w : World) (hs : s.size < 4294967281) (hm : w.cell? ⟨4, 0, none⟩ = some (.int .i64 m)) :
    Calls Tryz.prog 43 #[.string s, .string sep] w fun e w' => e = .returned (.tuple #[.string ⟨(Lib.cut s.data.toList sep.data.toList).1.toArray⟩, .string ⟨(Lib.cut s.data.toList sep.data.toList).2.1.toArray⟩, .bool (Lib.cut s.data.toList sep.data.toList).2.2]) ∧ ∃ n, w' = w.drewN n := Any.stringslite_Cut Tryz.lays220 s sep m w hs hm
def Tryz.lays145_ren : Go.Shelf.Ren := ⟨fun | 145 => 26 | 220 => 43 | 219 => 69 | 217 => 103 | 225 => 104 | 224 => 105 | 267 => 106 | 266 => 135 | 314 => 136 | n => n, fun | 9 => 9 | 4 => 4 | 59 => 50 | 3 => 3 | 5 => 5 | 46 => 85 | 146 => 125 | 51 => 91 | n => n, fun | 1 => 4 | n => n⟩
theorem Tryz.lays145 : Go.Proofs.Lays.n145 Tryz.prog Tryz.lays145_ren := {
  mixed := by kernel_rfl
  f145 := Tryz.func26.trans (congrArg some (by kernel_rfl))
  f217 := Tryz.func103.trans (congrArg some (by kernel_rfl))
  f219 := Tryz.func69.trans (congrArg some (by kernel_rfl))
  f220 := Tryz.func43.trans (congrArg some (by kernel_rfl))
  f224 := Tryz.func105.trans (congrArg some (by kernel_rfl))
  f225 := Tryz.func104.trans (congrArg some (by kernel_rfl))
  f266 := Tryz.func135.trans (congrArg some (by kernel_rfl))
  f267 := Tryz.func106.trans (congrArg some (by kernel_rfl))
  f314 := Tryz.func136.trans (congrArg some (by kernel_rfl))
  t3 := Tryz.underlying3
  a3 := Tryz.isAgg3
  z3 := Tryz.sizeOf3
  v3 := Tryz.zeroValue3
  t4 := Tryz.underlying4
  a4 := Tryz.isAgg4
  z4 := Tryz.sizeOf4
  v4 := Tryz.zeroValue4
  t5 := Tryz.underlying5
  a5 := Tryz.isAgg5
  z5 := Tryz.sizeOf5
  v5 := Tryz.zeroValue5
  t9 := Tryz.underlying9
  a9 := Tryz.isAgg9
  z9 := Tryz.sizeOf9
  v9 := Tryz.zeroValue9
  t46 := Tryz.underlying85
  a46 := Tryz.isAgg85
  z46 := Tryz.sizeOf85
  v46 := Tryz.zeroValue85
  t51 := Tryz.underlying91
  a51 := Tryz.isAgg91
  z51 := Tryz.sizeOf91
  v51 := Tryz.zeroValue91
  t59 := Tryz.underlying50
  a59 := Tryz.isAgg50
  z59 := Tryz.sizeOf50
  v59 := Tryz.zeroValue50
  t146 := Tryz.underlying125
  a146 := Tryz.isAgg125
  z146 := Tryz.sizeOf125
  v146 := Tryz.zeroValue125
  g1 := by kernel_rfl }
open Go.RowKit Go.Lib in
/-- strings.Cut: "Cut slices s around the first instance of sep, returning the text before and after sep. The found result reports whether sep appears in s. If sep does not appear in s, cut returns s, "", false.": IT RETURNS 'Lib.cut s sep'; the world is as it was but for the count of draws. (LAID: no walk: one application.) -/
theorem Tryz.strings_Cut (s sep : ByteArray) (m : Int) (w : World) (hs : s.size < 4294967281) (hm : w.cell? ⟨4, 0, none⟩ = some (.int .i64 m)) :
    Calls Tryz.prog 26 #[.string s, .string sep] w fun e w' => e = .returned (.tuple #[.string ⟨(Lib.cut s.data.toList sep.data.toList).1.toArray⟩, .string ⟨(Lib.cut s.data.toList sep.data.toList).2.1.toArray⟩, .bool (Lib.cut s.data.toList sep.data.toList).2.2]) ∧ ∃ n, w' = w.drewN n := Any.strings_Cut Tryz.lays145 s sep m w hs hm
def Tryz.laysM219_ren : Go.Shelf.Ren := ⟨fun | 219 => 69 | 217 => 103 | 225 => 104 | 224 => 105 | 267 => 106 | 266 => 135 | 314 => 136 | n => n, fun | 9 => 9 | 3 => 3 | 4 => 4 | 5 => 5 | 46 => 85 | 146 => 125 | 51 => 91 | n => n, fun | 1 => 4 | n => n⟩
theorem Tryz.laysM219 : Go.Proofs.LaysM.n219 Tryz.prog Tryz.laysM219_ren := {
  mixed := by kernel_rfl
  f217 := Tryz.func103.trans (congrArg some (by kernel_rfl))
  f219 := Tryz.func69.trans (congrArg some (by kernel_rfl))
  f224 := Tryz.func105.trans (congrArg some (by kernel_rfl))
  f225 := Tryz.func104.trans (congrArg some (by kernel_rfl))
  f266 := Tryz.func135.trans (congrArg some (by kernel_rfl))
  f267 := Tryz.func106.trans (congrArg some (by kernel_rfl))
  f314 := Tryz.func136.trans (congrArg some (by kernel_rfl))
  t3 := Tryz.underlying3
  a3 := Tryz.isAgg3
  z3 := Tryz.sizeOf3
  v3 := Tryz.zeroValue3
  t4 := Tryz.underlying4
  a4 := Tryz.isAgg4
  z4 := Tryz.sizeOf4
  v4 := Tryz.zeroValue4
  t5 := Tryz.underlying5
  a5 := Tryz.isAgg5
  z5 := Tryz.sizeOf5
  v5 := Tryz.zeroValue5
  t9 := Tryz.underlying9
  a9 := Tryz.isAgg9
  z9 := Tryz.sizeOf9
  v9 := Tryz.zeroValue9
  t46 := Tryz.underlying85
  a46 := Tryz.isAgg85
  z46 := Tryz.sizeOf85
  v46 := Tryz.zeroValue85
  t51 := Tryz.underlying91
  a51 := Tryz.isAgg91
  z51 := Tryz.sizeOf91
  v51 := Tryz.zeroValue91
  t146 := Tryz.underlying125
  a146 := Tryz.isAgg125
  z146 := Tryz.sizeOf125
  v146 := Tryz.zeroValue125
  g1 := by kernel_rfl
  i3 := by kernel_rfl
  i4 := by kernel_rfl
  i5 := by kernel_rfl
  i9 := by kernel_rfl
  i46 := by kernel_rfl
  i51 := by kernel_rfl
  i146 := by kernel_rfl
  m1 := by kernel_rfl
  s1_3 := fun w h => Go.Proofs.cell_of_shapedOpen_int (zero := #[.int .i64 0]) (t := 3) h (of_decide_eq_true (by kernel_rfl)) (by kernel_rfl) rfl (by kernel_rfl) (by kernel_rfl) Tryz.underlying3 }
open Go.RowKit Go.Lib in
theorem Tryz.stringslite_Index_shaped (s sub : ByteArray) (w : World) (h : w.ShapedOpen Tryz.prog) (hs : s.size < 4294967281) :
    Calls Tryz.prog 69 #[.string s, .string sub] w fun e w' => e = .returned (.int .i64 (Lib.index s.data.toList sub.data.toList)) ∧ w' = w := Any.stringslite_Index_shaped Tryz.laysM219 s sub w h hs
def Tryz.laysM220_ren : Go.Shelf.Ren := ⟨fun | 220 => 43 | 219 => 69 | 217 => 103 | 225 => 104 | 224 => 105 | 267 => 106 | 266 => 135 | 314 => 136 | n => n, fun | 9 => 9 | 4 => 4 | 3 => 3 | 5 => 5 | 46 => 85 | 146 => 125 | 51 => 91 | n => n, fun | 1 => 4 | n => n⟩
theorem Tryz.laysM220 : Go.Proofs.LaysM.n220 Tryz.prog Tryz.laysM220_ren := {
  mixed := by kernel_rfl
  f217 := Tryz.func103.trans (congrArg some (by kernel_rfl))
  f219 := Tryz.func69.trans (congrArg some (by kernel_rfl))
  f220 := Tryz.func43.trans (congrArg some (by kernel_rfl))
  f224 := Tryz.func105.trans (congrArg some (by kernel_rfl))
  f225 := Tryz.func104.trans (congrArg some (by kernel_rfl))
  f266 := Tryz.func135.trans (congrArg some (by kernel_rfl))
  f267 := Tryz.func106.trans (congrArg some (by kernel_rfl))
  f314 := Tryz.func136.trans (congrArg some (by kernel_rfl))
  t3 := Tryz.underlying3
  a3 := Tryz.isAgg3
  z3 := Tryz.sizeOf3
  v3 := Tryz.zeroValue3
  t4 := Tryz.underlying4
  a4 := Tryz.isAgg4
  z4 := Tryz.sizeOf4
  v4 := Tryz.zeroValue4
  t5 := Tryz.underlying5
  a5 := Tryz.isAgg5
  z5 := Tryz.sizeOf5
  v5 := Tryz.zeroValue5
  t9 := Tryz.underlying9
  a9 := Tryz.isAgg9
  z9 := Tryz.sizeOf9
  v9 := Tryz.zeroValue9
  t46 := Tryz.underlying85
  a46 := Tryz.isAgg85
  z46 := Tryz.sizeOf85
  v46 := Tryz.zeroValue85
  t51 := Tryz.underlying91
  a51 := Tryz.isAgg91
  z51 := Tryz.sizeOf91
  v51 := Tryz.zeroValue91
  t146 := Tryz.underlying125
  a146 := Tryz.isAgg125
  z146 := Tryz.sizeOf125
  v146 := Tryz.zeroValue125
  g1 := by kernel_rfl
  i3 := by kernel_rfl
  i4 := by kernel_rfl
  i5 := by kernel_rfl
  i9 := by kernel_rfl
  i46 := by kernel_rfl
  i51 := by kernel_rfl
  i146 := by kernel_rfl
  m1 := by kernel_rfl
  s1_3 := fun w h => Go.Proofs.cell_of_shapedOpen_int (zero := #[.int .i64 0]) (t := 3) h (of_decide_eq_true (by kernel_rfl)) (by kernel_rfl) rfl (by kernel_rfl) (by kernel_rfl) Tryz.underlying3 }
open Go.RowKit Go.Lib in
theorem Tryz.stringslite_Cut_shaped (s sep : ByteArray) (w : World) (h : w.ShapedOpen Tryz.prog) (hs : s.size < 4294967281) :
    Calls Tryz.prog 43 #[.string s, .string sep] w fun e w' => e = .returned (.tuple #[.string ⟨(Lib.cut s.data.toList sep.data.toList).1.toArray⟩, .string ⟨(Lib.cut s.data.toList sep.data.toList).2.1.toArray⟩, .bool (Lib.cut s.data.toList sep.data.toList).2.2]) ∧ ∃ n, w' = w.drewN n := Any.stringslite_Cut_shaped Tryz.laysM220 s sep w h hs
def Tryz.laysM145_ren : Go.Shelf.Ren := ⟨fun | 145 => 26 | 220 => 43 | 219 => 69 | 217 => 103 | 225 => 104 | 224 => 105 | 267 => 106 | 266 => 135 | 314 => 136 | n => n, fun | 9 => 9 | 4 => 4 | 59 => 50 | 3 => 3 | 5 => 5 | 46 => 85 | 146 => 125 | 51 => 91 | n => n, fun | 1 => 4 | n => n⟩
theorem Tryz.laysM145 : Go.Proofs.LaysM.n145 Tryz.prog Tryz.laysM145_ren := {
  mixed := by kernel_rfl
  f145 := Tryz.func26.trans (congrArg some (by kernel_rfl))
  f217 := Tryz.func103.trans (congrArg some (by kernel_rfl))
  f219 := Tryz.func69.trans (congrArg some (by kernel_rfl))
  f220 := Tryz.func43.trans (congrArg some (by kernel_rfl))
  f224 := Tryz.func105.trans (congrArg some (by kernel_rfl))
  f225 := Tryz.func104.trans (congrArg some (by kernel_rfl))
  f266 := Tryz.func135.trans (congrArg some (by kernel_rfl))
  f267 := Tryz.func106.trans (congrArg some (by kernel_rfl))
  f314 := Tryz.func136.trans (congrArg some (by kernel_rfl))
  t3 := Tryz.underlying3
  a3 := Tryz.isAgg3
  z3 := Tryz.sizeOf3
  v3 := Tryz.zeroValue3
  t4 := Tryz.underlying4
  a4 := Tryz.isAgg4
  z4 := Tryz.sizeOf4
  v4 := Tryz.zeroValue4
  t5 := Tryz.underlying5
  a5 := Tryz.isAgg5
  z5 := Tryz.sizeOf5
  v5 := Tryz.zeroValue5
  t9 := Tryz.underlying9
  a9 := Tryz.isAgg9
  z9 := Tryz.sizeOf9
  v9 := Tryz.zeroValue9
  t46 := Tryz.underlying85
  a46 := Tryz.isAgg85
  z46 := Tryz.sizeOf85
  v46 := Tryz.zeroValue85
  t51 := Tryz.underlying91
  a51 := Tryz.isAgg91
  z51 := Tryz.sizeOf91
  v51 := Tryz.zeroValue91
  t59 := Tryz.underlying50
  a59 := Tryz.isAgg50
  z59 := Tryz.sizeOf50
  v59 := Tryz.zeroValue50
  t146 := Tryz.underlying125
  a146 := Tryz.isAgg125
  z146 := Tryz.sizeOf125
  v146 := Tryz.zeroValue125
  g1 := by kernel_rfl
  i3 := by kernel_rfl
  i4 := by kernel_rfl
  i5 := by kernel_rfl
  i9 := by kernel_rfl
  i46 := by kernel_rfl
  i51 := by kernel_rfl
  i59 := by kernel_rfl
  i146 := by kernel_rfl
  m1 := by kernel_rfl
  s1_3 := fun w h => Go.Proofs.cell_of_shapedOpen_int (zero := #[.int .i64 0]) (t := 3) h (of_decide_eq_true (by kernel_rfl)) (by kernel_rfl) rfl (by kernel_rfl) (by kernel_rfl) Tryz.underlying3 }
open Go.RowKit Go.Lib in
theorem Tryz.strings_Cut_shaped (s sep : ByteArray) (w : World) (h : w.ShapedOpen Tryz.prog) (hs : s.size < 4294967281) :
    Calls Tryz.prog 26 #[.string s, .string sep] w fun e w' => e = .returned (.tuple #[.string ⟨(Lib.cut s.data.toList sep.data.toList).1.toArray⟩, .string ⟨(Lib.cut s.data.toList sep.data.toList).2.1.toArray⟩, .bool (Lib.cut s.data.toList sep.data.toList).2.2]) ∧ ∃ n, w' = w.drewN n := Any.strings_Cut_shaped Tryz.laysM145 s sep w h hs
def Tryz.laysM288_ren : Go.Shelf.Ren := ⟨fun | 288 => 30 | 283 => 48 | 284 => 49 | 285 => 50 | 286 => 51 | 129 => 80 | 317 => 83 | 318 => 89 | 319 => 90 | 320 => 91 | 337 => 127 | 338 => 65 | n => n, fun | 37 => 39 | 53 => 29 | 3 => 3 | 4 => 4 | 9 => 9 | 171 => 73 | 0 => 0 | 173 => 76 | 212 => 115 | 51 => 91 | 5 => 5 | 20 => 20 | 213 => 116 | 46 => 85 | 232 => 103 | 233 => 129 | n => n, fun | 17 => 2 | 18 => 9 | 19 => 3 | n => n⟩
theorem Tryz.laysM288 : Go.Proofs.LaysM.n288 Tryz.prog Tryz.laysM288_ren := {
  mixed := by kernel_rfl
  f129 := Tryz.func80.trans (congrArg some (by kernel_rfl))
  f283 := Tryz.func48.trans (congrArg some (by kernel_rfl))
  f284 := Tryz.func49.trans (congrArg some (by kernel_rfl))
  f285 := Tryz.func50.trans (congrArg some (by kernel_rfl))
  f286 := Tryz.func51.trans (congrArg some (by kernel_rfl))
  f288 := Tryz.func30.trans (congrArg some (by kernel_rfl))
  f317 := Tryz.func83.trans (congrArg some (by kernel_rfl))
  f318 := Tryz.func89.trans (congrArg some (by kernel_rfl))
  f319 := Tryz.func90.trans (congrArg some (by kernel_rfl))
  f320 := Tryz.func91.trans (congrArg some (by kernel_rfl))
  f337 := Tryz.func127.trans (congrArg some (by kernel_rfl))
  f338 := Tryz.func65.trans (congrArg some (by kernel_rfl))
  t0 := Tryz.underlying0
  a0 := Tryz.isAgg0
  z0 := Tryz.sizeOf0
  v0 := Tryz.zeroValue0
  t3 := Tryz.underlying3
  a3 := Tryz.isAgg3
  z3 := Tryz.sizeOf3
  v3 := Tryz.zeroValue3
  t4 := Tryz.underlying4
  a4 := Tryz.isAgg4
  z4 := Tryz.sizeOf4
  v4 := Tryz.zeroValue4
  t5 := Tryz.underlying5
  a5 := Tryz.isAgg5
  z5 := Tryz.sizeOf5
  v5 := Tryz.zeroValue5
  t9 := Tryz.underlying9
  a9 := Tryz.isAgg9
  z9 := Tryz.sizeOf9
  v9 := Tryz.zeroValue9
  t20 := Tryz.underlying20
  a20 := Tryz.isAgg20
  z20 := Tryz.sizeOf20
  v20 := Tryz.zeroValue20
  t37 := Tryz.underlying39
  a37 := Tryz.isAgg39
  z37 := Tryz.sizeOf39
  v37 := Tryz.zeroValue39
  t46 := Tryz.underlying85
  a46 := Tryz.isAgg85
  z46 := Tryz.sizeOf85
  v46 := Tryz.zeroValue85
  t51 := Tryz.underlying91
  a51 := Tryz.isAgg91
  z51 := Tryz.sizeOf91
  v51 := Tryz.zeroValue91
  t53 := Tryz.underlying29
  a53 := Tryz.isAgg29
  z53 := Tryz.sizeOf29
  v53 := Tryz.zeroValue29
  t171 := Tryz.underlying73
  a171 := Tryz.isAgg73
  z171 := Tryz.sizeOf73
  v171 := Tryz.zeroValue73
  t173 := Tryz.underlying76
  a173 := Tryz.isAgg76
  z173 := Tryz.sizeOf76
  v173 := Tryz.zeroValue76
  t212 := Tryz.underlying115
  a212 := Tryz.isAgg115
  z212 := Tryz.sizeOf115
  v212 := Tryz.zeroValue115
  t213 := Tryz.underlying116
  a213 := Tryz.isAgg116
  z213 := Tryz.sizeOf116
  t232 := Tryz.underlying103
  a232 := Tryz.isAgg103
  z232 := Tryz.sizeOf103
  v232 := Tryz.zeroValue103
  t233 := Tryz.underlying129
  a233 := Tryz.isAgg129
  z233 := Tryz.sizeOf129
  v233 := Tryz.zeroValue129
  g17 := by kernel_rfl
  g18 := by kernel_rfl
  g19 := by kernel_rfl
  i0 := by kernel_rfl
  i3 := by kernel_rfl
  i4 := by kernel_rfl
  i5 := by kernel_rfl
  i9 := by kernel_rfl
  i20 := by kernel_rfl
  i37 := by kernel_rfl
  i46 := by kernel_rfl
  i51 := by kernel_rfl
  i53 := by kernel_rfl
  i171 := by kernel_rfl
  i173 := by kernel_rfl
  i212 := by kernel_rfl
  i232 := by kernel_rfl
  i233 := by kernel_rfl
  m17 := by kernel_rfl
  m18 := by kernel_rfl
  m19 := by kernel_rfl }
open Go.RowKit Go.Sort Go.Lib in
/-- internal/strconv.AppendUint(dst, i, 10), i BELOW 100: WHAT COMES BACK OWNS dst's CELLS AND, BEHIND THEM, i's DECIMAL NUMERAL. No table is read. Below the call's own blocks nothing has turned. (LAID: no walk: one application.) -/
theorem Tryz.internal_strconv_AppendUint_10_small (B n u : Nat) (hu : u < 100) (sv : Value) (xs : List Value) (w : World) (hown : w.ownsRow B 5 1 sv n xs) (hBw : B ≤ w.heap.size) (hlim : n + 20 ≤ 140737488355328) :
    Calls Tryz.prog 30 #[sv, .int .u64 u, .int .i64 10] w fun e w' => ∃ v', e = .returned v' ∧ w'.ownsRow B 5 1 v' (n + (Lib.decDigits u).length) (xs ++ Lib.byteCells (Lib.decDigits u)) ∧ Below B w w' ∧ Lib.OthersKept 5 none w w' := Any.internal_strconv_AppendUint_10_small Tryz.laysM288 B n u hu sv xs w hown hBw hlim
open Go.RowKit Go.Sort Go.Lib in
/-- internal/strconv.AppendUint(dst, i, 10), i FROM 100 ON: likewise; the digits are laid in an array of the call's own and appended. (LAID: no walk: one application.) -/
theorem Tryz.internal_strconv_AppendUint_10_big (B n u : Nat) (hu : 100 ≤ u) (hu64 : u < 18446744073709551616) (sv : Value) (xs : List Value) (w : World) (hown : w.ownsRow B 5 1 sv n xs) (hBw : B ≤ w.heap.size) (hlim : n + 20 ≤ 140737488355328) (htab : Lib.TabIs Tryz.prog w "internal/strconv.uint64pow10" .u64 Lib.pow10Tab) :
    Calls Tryz.prog 30 #[sv, .int .u64 u, .int .i64 10] w fun e w' => ∃ v', e = .returned v' ∧ w'.ownsRow B 5 1 v' (n + (Lib.decDigits u).length) (xs ++ Lib.byteCells (Lib.decDigits u)) ∧ Below B w w' ∧ Lib.OthersKept 5 none w w' := Any.internal_strconv_AppendUint_10_big Tryz.laysM288 B n u hu hu64 sv xs w hown hBw hlim htab
open Go.RowKit Go.Sort Go.Lib in
/-- internal/strconv.AppendUint(dst, i, 10): the two contracts as one. NO WALK. (LAID: no walk: one application.) -/
theorem Tryz.internal_strconv_AppendUint_10 (B n u : Nat) (hu64 : u < 18446744073709551616) (sv : Value) (xs : List Value) (w : World) (hown : w.ownsRow B 5 1 sv n xs) (hBw : B ≤ w.heap.size) (hlim : n + 20 ≤ 140737488355328) (htab : Lib.TabIs Tryz.prog w "internal/strconv.uint64pow10" .u64 Lib.pow10Tab) :
    Calls Tryz.prog 30 #[sv, .int .u64 u, .int .i64 10] w fun e w' => ∃ v', e = .returned v' ∧ w'.ownsRow B 5 1 v' (n + (Lib.decDigits u).length) (xs ++ Lib.byteCells (Lib.decDigits u)) ∧ Below B w w' ∧ Lib.OthersKept 5 none w w' := Any.internal_strconv_AppendUint_10 Tryz.laysM288 B n u hu64 sv xs w hown hBw hlim htab
def Tryz.laysM249_ren : Go.Shelf.Ren := ⟨fun | 249 => 37 | 288 => 30 | 283 => 48 | 284 => 49 | 285 => 50 | 286 => 51 | 129 => 80 | 317 => 83 | 318 => 89 | 319 => 90 | 320 => 91 | 337 => 127 | 338 => 65 | n => n, fun | 37 => 39 | 2 => 2 | 3 => 3 | 53 => 29 | 4 => 4 | 9 => 9 | 171 => 73 | 0 => 0 | 173 => 76 | 212 => 115 | 51 => 91 | 5 => 5 | 20 => 20 | 213 => 116 | 46 => 85 | 232 => 103 | 233 => 129 | n => n, fun | 17 => 2 | 18 => 9 | 19 => 3 | n => n⟩
theorem Tryz.laysM249 : Go.Proofs.LaysM.n249 Tryz.prog Tryz.laysM249_ren := {
  mixed := by kernel_rfl
  f129 := Tryz.func80.trans (congrArg some (by kernel_rfl))
  f249 := Tryz.func37.trans (congrArg some (by kernel_rfl))
  f283 := Tryz.func48.trans (congrArg some (by kernel_rfl))
  f284 := Tryz.func49.trans (congrArg some (by kernel_rfl))
  f285 := Tryz.func50.trans (congrArg some (by kernel_rfl))
  f286 := Tryz.func51.trans (congrArg some (by kernel_rfl))
  f288 := Tryz.func30.trans (congrArg some (by kernel_rfl))
  f317 := Tryz.func83.trans (congrArg some (by kernel_rfl))
  f318 := Tryz.func89.trans (congrArg some (by kernel_rfl))
  f319 := Tryz.func90.trans (congrArg some (by kernel_rfl))
  f320 := Tryz.func91.trans (congrArg some (by kernel_rfl))
  f337 := Tryz.func127.trans (congrArg some (by kernel_rfl))
  f338 := Tryz.func65.trans (congrArg some (by kernel_rfl))
  t0 := Tryz.underlying0
  a0 := Tryz.isAgg0
  z0 := Tryz.sizeOf0
  v0 := Tryz.zeroValue0
  t2 := Tryz.underlying2
  a2 := Tryz.isAgg2
  z2 := Tryz.sizeOf2
  v2 := Tryz.zeroValue2
  t3 := Tryz.underlying3
  a3 := Tryz.isAgg3
  z3 := Tryz.sizeOf3
  v3 := Tryz.zeroValue3
  t4 := Tryz.underlying4
  a4 := Tryz.isAgg4
  z4 := Tryz.sizeOf4
  v4 := Tryz.zeroValue4
  t5 := Tryz.underlying5
  a5 := Tryz.isAgg5
  z5 := Tryz.sizeOf5
  v5 := Tryz.zeroValue5
  t9 := Tryz.underlying9
  a9 := Tryz.isAgg9
  z9 := Tryz.sizeOf9
  v9 := Tryz.zeroValue9
  t20 := Tryz.underlying20
  a20 := Tryz.isAgg20
  z20 := Tryz.sizeOf20
  v20 := Tryz.zeroValue20
  t37 := Tryz.underlying39
  a37 := Tryz.isAgg39
  z37 := Tryz.sizeOf39
  v37 := Tryz.zeroValue39
  t46 := Tryz.underlying85
  a46 := Tryz.isAgg85
  z46 := Tryz.sizeOf85
  v46 := Tryz.zeroValue85
  t51 := Tryz.underlying91
  a51 := Tryz.isAgg91
  z51 := Tryz.sizeOf91
  v51 := Tryz.zeroValue91
  t53 := Tryz.underlying29
  a53 := Tryz.isAgg29
  z53 := Tryz.sizeOf29
  v53 := Tryz.zeroValue29
  t171 := Tryz.underlying73
  a171 := Tryz.isAgg73
  z171 := Tryz.sizeOf73
  v171 := Tryz.zeroValue73
  t173 := Tryz.underlying76
  a173 := Tryz.isAgg76
  z173 := Tryz.sizeOf76
  v173 := Tryz.zeroValue76
  t212 := Tryz.underlying115
  a212 := Tryz.isAgg115
  z212 := Tryz.sizeOf115
  v212 := Tryz.zeroValue115
  t213 := Tryz.underlying116
  a213 := Tryz.isAgg116
  z213 := Tryz.sizeOf116
  t232 := Tryz.underlying103
  a232 := Tryz.isAgg103
  z232 := Tryz.sizeOf103
  v232 := Tryz.zeroValue103
  t233 := Tryz.underlying129
  a233 := Tryz.isAgg129
  z233 := Tryz.sizeOf129
  v233 := Tryz.zeroValue129
  g17 := by kernel_rfl
  g18 := by kernel_rfl
  g19 := by kernel_rfl
  i0 := by kernel_rfl
  i2 := by kernel_rfl
  i3 := by kernel_rfl
  i4 := by kernel_rfl
  i5 := by kernel_rfl
  i9 := by kernel_rfl
  i20 := by kernel_rfl
  i37 := by kernel_rfl
  i46 := by kernel_rfl
  i51 := by kernel_rfl
  i53 := by kernel_rfl
  i171 := by kernel_rfl
  i173 := by kernel_rfl
  i212 := by kernel_rfl
  i232 := by kernel_rfl
  i233 := by kernel_rfl
  m17 := by kernel_rfl
  m18 := by kernel_rfl
  m19 := by kernel_rfl }
open Go.RowKit Go.Sort Go.Lib in
/-- internal/strconv.AppendInt: "AppendInt appends the string form of the integer i, as generated by FormatInt, to dst and returns the extended buffer.": AT BASE 10: WHAT COMES BACK OWNS dst's CELLS AND, BEHIND THEM, i's DECIMAL NUMERAL ('Lib.itoa i': at most 20 bytes), for every int64. Below the call's own blocks nothing has turned. (LAID: no walk: one application.) -/
theorem Tryz.internal_strconv_AppendInt_10 (B n : Nat) (i : Int) (h0 : -9223372036854775808 ≤ i) (h1 : i ≤ 9223372036854775807) (sv : Value) (xs : List Value) (w : World) (hown : w.ownsRow B 5 1 sv n xs) (hBw : B ≤ w.heap.size) (hlim : n + 21 ≤ 140737488355328) (htab : Lib.TabBelow Tryz.prog B w "internal/strconv.uint64pow10" .u64 Lib.pow10Tab) :
    Calls Tryz.prog 37 #[sv, .int .i64 i, .int .i64 10] w fun e w' => ∃ v', e = .returned v' ∧ w'.ownsRow B 5 1 v' (n + (Lib.itoa i).length) (xs ++ Lib.byteCells (Lib.itoa i)) ∧ Below B w w' ∧ Lib.OthersKept 5 none w w' := Any.internal_strconv_AppendInt_10 Tryz.laysM249 B n i h0 h1 sv xs w hown hBw hlim htab
def Tryz.laysM176_ren : Go.Shelf.Ren := ⟨fun | 176 => 19 | 249 => 37 | 288 => 30 | 283 => 48 | 284 => 49 | 285 => 50 | 286 => 51 | 129 => 80 | 317 => 83 | 318 => 89 | 319 => 90 | 320 => 91 | 337 => 127 | 338 => 65 | n => n, fun | 37 => 39 | 2 => 2 | 3 => 3 | 53 => 29 | 4 => 4 | 9 => 9 | 171 => 73 | 0 => 0 | 173 => 76 | 212 => 115 | 51 => 91 | 5 => 5 | 20 => 20 | 213 => 116 | 46 => 85 | 232 => 103 | 233 => 129 | n => n, fun | 17 => 2 | 18 => 9 | 19 => 3 | n => n⟩
theorem Tryz.laysM176 : Go.Proofs.LaysM.n176 Tryz.prog Tryz.laysM176_ren := {
  mixed := by kernel_rfl
  f129 := Tryz.func80.trans (congrArg some (by kernel_rfl))
  f176 := Tryz.func19.trans (congrArg some (by kernel_rfl))
  f249 := Tryz.func37.trans (congrArg some (by kernel_rfl))
  f283 := Tryz.func48.trans (congrArg some (by kernel_rfl))
  f284 := Tryz.func49.trans (congrArg some (by kernel_rfl))
  f285 := Tryz.func50.trans (congrArg some (by kernel_rfl))
  f286 := Tryz.func51.trans (congrArg some (by kernel_rfl))
  f288 := Tryz.func30.trans (congrArg some (by kernel_rfl))
  f317 := Tryz.func83.trans (congrArg some (by kernel_rfl))
  f318 := Tryz.func89.trans (congrArg some (by kernel_rfl))
  f319 := Tryz.func90.trans (congrArg some (by kernel_rfl))
  f320 := Tryz.func91.trans (congrArg some (by kernel_rfl))
  f337 := Tryz.func127.trans (congrArg some (by kernel_rfl))
  f338 := Tryz.func65.trans (congrArg some (by kernel_rfl))
  t0 := Tryz.underlying0
  a0 := Tryz.isAgg0
  z0 := Tryz.sizeOf0
  v0 := Tryz.zeroValue0
  t2 := Tryz.underlying2
  a2 := Tryz.isAgg2
  z2 := Tryz.sizeOf2
  v2 := Tryz.zeroValue2
  t3 := Tryz.underlying3
  a3 := Tryz.isAgg3
  z3 := Tryz.sizeOf3
  v3 := Tryz.zeroValue3
  t4 := Tryz.underlying4
  a4 := Tryz.isAgg4
  z4 := Tryz.sizeOf4
  v4 := Tryz.zeroValue4
  t5 := Tryz.underlying5
  a5 := Tryz.isAgg5
  z5 := Tryz.sizeOf5
  v5 := Tryz.zeroValue5
  t9 := Tryz.underlying9
  a9 := Tryz.isAgg9
  z9 := Tryz.sizeOf9
  v9 := Tryz.zeroValue9
  t20 := Tryz.underlying20
  a20 := Tryz.isAgg20
  z20 := Tryz.sizeOf20
  v20 := Tryz.zeroValue20
  t37 := Tryz.underlying39
  a37 := Tryz.isAgg39
  z37 := Tryz.sizeOf39
  v37 := Tryz.zeroValue39
  t46 := Tryz.underlying85
  a46 := Tryz.isAgg85
  z46 := Tryz.sizeOf85
  v46 := Tryz.zeroValue85
  t51 := Tryz.underlying91
  a51 := Tryz.isAgg91
  z51 := Tryz.sizeOf91
  v51 := Tryz.zeroValue91
  t53 := Tryz.underlying29
  a53 := Tryz.isAgg29
  z53 := Tryz.sizeOf29
  v53 := Tryz.zeroValue29
  t171 := Tryz.underlying73
  a171 := Tryz.isAgg73
  z171 := Tryz.sizeOf73
  v171 := Tryz.zeroValue73
  t173 := Tryz.underlying76
  a173 := Tryz.isAgg76
  z173 := Tryz.sizeOf76
  v173 := Tryz.zeroValue76
  t212 := Tryz.underlying115
  a212 := Tryz.isAgg115
  z212 := Tryz.sizeOf115
  v212 := Tryz.zeroValue115
  t213 := Tryz.underlying116
  a213 := Tryz.isAgg116
  z213 := Tryz.sizeOf116
  t232 := Tryz.underlying103
  a232 := Tryz.isAgg103
  z232 := Tryz.sizeOf103
  v232 := Tryz.zeroValue103
  t233 := Tryz.underlying129
  a233 := Tryz.isAgg129
  z233 := Tryz.sizeOf129
  v233 := Tryz.zeroValue129
  g17 := by kernel_rfl
  g18 := by kernel_rfl
  g19 := by kernel_rfl
  i0 := by kernel_rfl
  i2 := by kernel_rfl
  i3 := by kernel_rfl
  i4 := by kernel_rfl
  i5 := by kernel_rfl
  i9 := by kernel_rfl
  i20 := by kernel_rfl
  i37 := by kernel_rfl
  i46 := by kernel_rfl
  i51 := by kernel_rfl
  i53 := by kernel_rfl
  i171 := by kernel_rfl
  i173 := by kernel_rfl
  i212 := by kernel_rfl
  i232 := by kernel_rfl
  i233 := by kernel_rfl
  m17 := by kernel_rfl
  m18 := by kernel_rfl
  m19 := by kernel_rfl }
open Go.RowKit Go.Sort Go.Lib in
/-- strconv.AppendInt: "AppendInt appends the string form of the integer i, as generated by FormatInt, to dst and returns the extended buffer.": AT BASE 10: WHAT COMES BACK OWNS dst's CELLS AND, BEHIND THEM, i's DECIMAL NUMERAL ('Lib.itoa i': at most 20 bytes), for every int64. Below the call's own blocks nothing has turned. (LAID: no walk: one application.) -/
theorem Tryz.strconv_AppendInt_10 (B n : Nat) (i : Int) (h0 : -9223372036854775808 ≤ i) (h1 : i ≤ 9223372036854775807) (sv : Value) (xs : List Value) (w : World) (hown : w.ownsRow B 5 1 sv n xs) (hBw : B ≤ w.heap.size) (hlim : n + 21 ≤ 140737488355328) (htab : Lib.TabBelow Tryz.prog B w "internal/strconv.uint64pow10" .u64 Lib.pow10Tab) :
    Calls Tryz.prog 19 #[sv, .int .i64 i, .int .i64 10] w fun e w' => ∃ v', e = .returned v' ∧ w'.ownsRow B 5 1 v' (n + (Lib.itoa i).length) (xs ++ Lib.byteCells (Lib.itoa i)) ∧ Below B w w' ∧ Lib.OthersKept 5 none w w' := Any.strconv_AppendInt_10 Tryz.laysM176 B n i h0 h1 sv xs w hown hBw hlim htab
def Tryz.lays206_ren : Go.Shelf.Ren := ⟨fun | 206 => 99 | n => n, fun | 9 => 9 | 4 => 4 | 3 => 3 | n => n, fun | n => n⟩
theorem Tryz.lays206 : Go.Proofs.Lays.n206 Tryz.prog Tryz.lays206_ren := {
  mixed := by kernel_rfl
  f206 := Tryz.func99.trans (congrArg some (by kernel_rfl))
  t3 := Tryz.underlying3
  a3 := Tryz.isAgg3
  z3 := Tryz.sizeOf3
  v3 := Tryz.zeroValue3
  t4 := Tryz.underlying4
  a4 := Tryz.isAgg4
  z4 := Tryz.sizeOf4
  v4 := Tryz.zeroValue4
  t9 := Tryz.underlying9
  a9 := Tryz.isAgg9
  z9 := Tryz.sizeOf9
  v9 := Tryz.zeroValue9 }
open Go.RowKit Go.Lib in
/-- internal/stringslite.HasPrefix (what strings.HasPrefix calls). (LAID: no walk: one application.) -/
theorem Tryz.stringslite_HasPrefix (s p : ByteArray) (w : World) :
    Calls Tryz.prog 99 #[.string s, .string p] w fun e w' => e = .returned (.bool (Lib.hasPrefix s.data.toList p.data.toList)) ∧ w' = w := Any.stringslite_HasPrefix Tryz.lays206 s p w
def Tryz.lays99_ren : Go.Shelf.Ren := ⟨fun | 99 => 61 | 206 => 99 | n => n, fun | 9 => 9 | 4 => 4 | 3 => 3 | n => n, fun | n => n⟩
theorem Tryz.lays99 : Go.Proofs.Lays.n99 Tryz.prog Tryz.lays99_ren := {
  mixed := by kernel_rfl
  f99 := Tryz.func61.trans (congrArg some (by kernel_rfl))
  f206 := Tryz.func99.trans (congrArg some (by kernel_rfl))
  t3 := Tryz.underlying3
  a3 := Tryz.isAgg3
  z3 := Tryz.sizeOf3
  v3 := Tryz.zeroValue3
  t4 := Tryz.underlying4
  a4 := Tryz.isAgg4
  z4 := Tryz.sizeOf4
  v4 := Tryz.zeroValue4
  t9 := Tryz.underlying9
  a9 := Tryz.isAgg9
  z9 := Tryz.sizeOf9
  v9 := Tryz.zeroValue9 }
open Go.RowKit Go.Lib in
/-- strings.HasPrefix: "HasPrefix reports whether the string s begins with prefix.": IT RETURNS 'Lib.hasPrefix s prefix'; the world is as it was. (LAID: no walk: one application.) -/
theorem Tryz.strings_HasPrefix (s p : ByteArray) (w : World) :
    Calls Tryz.prog 61 #[.string s, .string p] w fun e w' => e = .returned (.bool (Lib.hasPrefix s.data.toList p.data.toList)) ∧ w' = w := Any.strings_HasPrefix Tryz.lays99 s p w
def Tryz.lays197_ren : Go.Shelf.Ren := ⟨fun | 197 => 93 | 260 => 128 | n => n, fun | 9 => 9 | 21 => 21 | 3 => 3 | 4 => 4 | 5 => 5 | 105 => 120 | 119 => 173 | 0 => 0 | 46 => 85 | 139 => 176 | 138 => 175 | n => n, fun | 3 => 10 | 4 => 11 | n => n⟩
theorem Tryz.lays197 : Go.Proofs.Lays.n197 Tryz.prog Tryz.lays197_ren := {
  mixed := by kernel_rfl
  f197 := Tryz.func93.trans (congrArg some (by kernel_rfl))
  f260 := Tryz.func128.trans (congrArg some (by kernel_rfl))
  t0 := Tryz.underlying0
  a0 := Tryz.isAgg0
  z0 := Tryz.sizeOf0
  v0 := Tryz.zeroValue0
  t3 := Tryz.underlying3
  a3 := Tryz.isAgg3
  z3 := Tryz.sizeOf3
  v3 := Tryz.zeroValue3
  t4 := Tryz.underlying4
  a4 := Tryz.isAgg4
  z4 := Tryz.sizeOf4
  v4 := Tryz.zeroValue4
  t5 := Tryz.underlying5
  a5 := Tryz.isAgg5
  z5 := Tryz.sizeOf5
  v5 := Tryz.zeroValue5
  t9 := Tryz.underlying9
  a9 := Tryz.isAgg9
  z9 := Tryz.sizeOf9
  v9 := Tryz.zeroValue9
  t21 := Tryz.underlying21
  a21 := Tryz.isAgg21
  z21 := Tryz.sizeOf21
  v21 := Tryz.zeroValue21
  t46 := Tryz.underlying85
  a46 := Tryz.isAgg85
  z46 := Tryz.sizeOf85
  v46 := Tryz.zeroValue85
  t105 := Tryz.underlying120
  a105 := Tryz.isAgg120
  z105 := Tryz.sizeOf120
  v105 := Tryz.zeroValue120
  t119 := Tryz.underlying173
  a119 := Tryz.isAgg173
  z119 := Tryz.sizeOf173
  t138 := Tryz.underlying175
  a138 := Tryz.isAgg175
  z138 := Tryz.sizeOf175
  v138 := Tryz.zeroValue175
  t139 := Tryz.underlying176
  a139 := Tryz.isAgg176
  z139 := Tryz.sizeOf176
  v139 := Tryz.zeroValue176
  g3 := by kernel_rfl
  g4 := by kernel_rfl }
open Go.RowKit Go.Lib in
/-- unicode/utf8.DecodeRuneInString: "DecodeRuneInString is like DecodeRune but its input is a string.": ("DecodeRune unpacks the first UTF-8 encoding in p and returns the rune and its width in bytes."): WHERE s BEGINS WITH AN ASCII BYTE x: (x, 1). (LAID: no walk: one application.) -/
theorem Tryz.utf8_DecodeRuneInString_ascii (s : ByteArray) (x : UInt8) (w : World) (h0 : s.data.toList[0]? = some x) (hx : x.toNat < 128) :
    Calls Tryz.prog 93 #[.string s] w fun e w' => e = .returned (.tuple #[.int .i32 x.toNat, .int .i64 1]) ∧ w' = w := Any.utf8_DecodeRuneInString_ascii Tryz.lays197 s x w h0 hx
def Tryz.lays152_ren : Go.Shelf.Ren := ⟨fun | 152 => 129 | 137 => 141 | 119 => 142 | 224 => 105 | 225 => 104 | 217 => 103 | 266 => 135 | n => n, fun | 9 => 9 | 21 => 21 | 3 => 3 | 4 => 4 | 5 => 5 | 0 => 0 | 46 => 85 | n => n, fun | n => n⟩
theorem Tryz.lays152 : Go.Proofs.Lays.n152 Tryz.prog Tryz.lays152_ren := {
  mixed := by kernel_rfl
  f119 := Tryz.func142.trans (congrArg some (by kernel_rfl))
  f137 := Tryz.func141.trans (congrArg some (by kernel_rfl))
  f152 := Tryz.func129.trans (congrArg some (by kernel_rfl))
  f217 := Tryz.func103.trans (congrArg some (by kernel_rfl))
  f224 := Tryz.func105.trans (congrArg some (by kernel_rfl))
  f225 := Tryz.func104.trans (congrArg some (by kernel_rfl))
  f266 := Tryz.func135.trans (congrArg some (by kernel_rfl))
  t0 := Tryz.underlying0
  a0 := Tryz.isAgg0
  z0 := Tryz.sizeOf0
  v0 := Tryz.zeroValue0
  t3 := Tryz.underlying3
  a3 := Tryz.isAgg3
  z3 := Tryz.sizeOf3
  v3 := Tryz.zeroValue3
  t4 := Tryz.underlying4
  a4 := Tryz.isAgg4
  z4 := Tryz.sizeOf4
  v4 := Tryz.zeroValue4
  t5 := Tryz.underlying5
  a5 := Tryz.isAgg5
  z5 := Tryz.sizeOf5
  v5 := Tryz.zeroValue5
  t9 := Tryz.underlying9
  a9 := Tryz.isAgg9
  z9 := Tryz.sizeOf9
  v9 := Tryz.zeroValue9
  t21 := Tryz.underlying21
  a21 := Tryz.isAgg21
  z21 := Tryz.sizeOf21
  v21 := Tryz.zeroValue21
  t46 := Tryz.underlying85
  a46 := Tryz.isAgg85
  z46 := Tryz.sizeOf85
  v46 := Tryz.zeroValue85 }
open Go.RowKit Go.Lib in
theorem Tryz.strings_IndexRune_ascii (s : ByteArray) (r : Int) (w : World) (h0 : 0 ≤ r) (h1 : r < 128) :
    Calls Tryz.prog 129 #[.string s, .int .i32 r] w fun e w' => e = .returned (.int .i64 (Lib.indexByte s.data.toList r.toNat.toUInt8)) ∧ w' = w := Any.strings_IndexRune_ascii Tryz.lays152 s r w h0 h1
def Tryz.lays151_ren : Go.Shelf.Ren := ⟨fun | 151 => 94 | 152 => 129 | 137 => 141 | 119 => 142 | 224 => 105 | 225 => 104 | 217 => 103 | 266 => 135 | n => n, fun | 9 => 9 | 21 => 21 | 4 => 4 | 3 => 3 | 5 => 5 | 0 => 0 | 46 => 85 | n => n, fun | n => n⟩
theorem Tryz.lays151 : Go.Proofs.Lays.n151 Tryz.prog Tryz.lays151_ren := {
  mixed := by kernel_rfl
  f119 := Tryz.func142.trans (congrArg some (by kernel_rfl))
  f137 := Tryz.func141.trans (congrArg some (by kernel_rfl))
  f151 := Tryz.func94.trans (congrArg some (by kernel_rfl))
  f152 := Tryz.func129.trans (congrArg some (by kernel_rfl))
  f217 := Tryz.func103.trans (congrArg some (by kernel_rfl))
  f224 := Tryz.func105.trans (congrArg some (by kernel_rfl))
  f225 := Tryz.func104.trans (congrArg some (by kernel_rfl))
  f266 := Tryz.func135.trans (congrArg some (by kernel_rfl))
  t0 := Tryz.underlying0
  a0 := Tryz.isAgg0
  z0 := Tryz.sizeOf0
  v0 := Tryz.zeroValue0
  t3 := Tryz.underlying3
  a3 := Tryz.isAgg3
  z3 := Tryz.sizeOf3
  v3 := Tryz.zeroValue3
  t4 := Tryz.underlying4
  a4 := Tryz.isAgg4
  z4 := Tryz.sizeOf4
  v4 := Tryz.zeroValue4
  t5 := Tryz.underlying5
  a5 := Tryz.isAgg5
  z5 := Tryz.sizeOf5
  v5 := Tryz.zeroValue5
  t9 := Tryz.underlying9
  a9 := Tryz.isAgg9
  z9 := Tryz.sizeOf9
  v9 := Tryz.zeroValue9
  t21 := Tryz.underlying21
  a21 := Tryz.isAgg21
  z21 := Tryz.sizeOf21
  v21 := Tryz.zeroValue21
  t46 := Tryz.underlying85
  a46 := Tryz.isAgg85
  z46 := Tryz.sizeOf85
  v46 := Tryz.zeroValue85 }
open Go.RowKit Go.Lib in
theorem Tryz.strings_ContainsRune_ascii (s : ByteArray) (r : Int) (w : World) (h0 : 0 ≤ r) (h1 : r < 128) :
    Calls Tryz.prog 94 #[.string s, .int .i32 r] w fun e w' => e = .returned (.bool (decide (0 ≤ Lib.indexByte s.data.toList r.toNat.toUInt8))) ∧ w' = w := Any.strings_ContainsRune_ascii Tryz.lays151 s r w h0 h1
def Tryz.lays227_ren : Go.Shelf.Ren := ⟨fun | 227 => 53 | n => n, fun | 9 => 9 | 116 => 80 | 4 => 4 | 0 => 0 | 3 => 3 | 5 => 5 | n => n, fun | n => n⟩
theorem Tryz.lays227 : Go.Proofs.Lays.n227 Tryz.prog Tryz.lays227_ren := {
  mixed := by kernel_rfl
  f227 := Tryz.func53.trans (congrArg some (by kernel_rfl))
  t0 := Tryz.underlying0
  a0 := Tryz.isAgg0
  z0 := Tryz.sizeOf0
  v0 := Tryz.zeroValue0
  t3 := Tryz.underlying3
  a3 := Tryz.isAgg3
  z3 := Tryz.sizeOf3
  v3 := Tryz.zeroValue3
  t4 := Tryz.underlying4
  a4 := Tryz.isAgg4
  z4 := Tryz.sizeOf4
  v4 := Tryz.zeroValue4
  t5 := Tryz.underlying5
  a5 := Tryz.isAgg5
  z5 := Tryz.sizeOf5
  v5 := Tryz.zeroValue5
  t9 := Tryz.underlying9
  a9 := Tryz.isAgg9
  z9 := Tryz.sizeOf9
  v9 := Tryz.zeroValue9
  t116 := Tryz.underlying80
  a116 := Tryz.isAgg80
  z116 := Tryz.sizeOf80 }
open Go.RowKit Go.Lib in
theorem Tryz.strings_makeASCIISet (hv116 : ∀ w, (zeroValue 80).run Tryz.prog w = .ok (.agg (Array.replicate 256 (.bool false))) w) (chars : ByteArray) (w : World) (hs : chars.size < 4294967281) (hascii : ∀ (j : Nat) b, chars.data.toList[j]? = some b → b.toNat < 128) :
    Calls Tryz.prog 53 #[.string chars] w fun e w' => e = .returned (.tuple #[.agg (Lib.setCells chars.data.toList), .bool true]) ∧ w' = w.alloc (.cells (Lib.setCells chars.data.toList) 80) := Any.strings_makeASCIISet Tryz.lays227 hv116 (by kernel_rfl) chars w hs hascii
def Tryz.lays228_ren : Go.Shelf.Ren := ⟨fun | 228 => 92 | n => n, fun | 124 => 84 | 5 => 5 | 4 => 4 | 0 => 0 | 116 => 80 | n => n, fun | n => n⟩
theorem Tryz.lays228 : Go.Proofs.Lays.n228 Tryz.prog Tryz.lays228_ren := {
  mixed := by kernel_rfl
  f228 := Tryz.func92.trans (congrArg some (by kernel_rfl))
  t0 := Tryz.underlying0
  a0 := Tryz.isAgg0
  z0 := Tryz.sizeOf0
  v0 := Tryz.zeroValue0
  t4 := Tryz.underlying4
  a4 := Tryz.isAgg4
  z4 := Tryz.sizeOf4
  v4 := Tryz.zeroValue4
  t5 := Tryz.underlying5
  a5 := Tryz.isAgg5
  z5 := Tryz.sizeOf5
  v5 := Tryz.zeroValue5
  t116 := Tryz.underlying80
  a116 := Tryz.isAgg80
  z116 := Tryz.sizeOf80
  t124 := Tryz.underlying84
  a124 := Tryz.isAgg84
  z124 := Tryz.sizeOf84
  v124 := Tryz.zeroValue84 }
open Go.RowKit Go.Lib in
/-- '(as *asciiSet) contains(c)': 'as[c]': the set lies at block b, whole. (LAID: no walk: one application.) -/
theorem Tryz.asciiSet_contains (b : Nat) (x : UInt8) (v : Bool) (w : World) (hc : w.cell? ⟨b, x.toNat, none⟩ = some (.bool v)) :
    Calls Tryz.prog 92 #[.pointer (some ⟨b, 0, none⟩), .int .u8 x.toNat] w fun e w' => e = .returned (.bool v) ∧ w' = w := Any.asciiSet_contains Tryz.lays228 b x v w hc
def Tryz.lays264_ren : Go.Shelf.Ren := ⟨fun | 264 => 98 | n => n, fun | 53 => 29 | 46 => 85 | n => n, fun | n => n⟩
theorem Tryz.lays264 : Go.Proofs.Lays.n264 Tryz.prog Tryz.lays264_ren := {
  mixed := by kernel_rfl
  f264 := Tryz.func98.trans (congrArg some (by kernel_rfl))
  t46 := Tryz.underlying85
  a46 := Tryz.isAgg85
  z46 := Tryz.sizeOf85
  v46 := Tryz.zeroValue85
  t53 := Tryz.underlying29
  a53 := Tryz.isAgg29
  z53 := Tryz.sizeOf29
  v53 := Tryz.zeroValue29 }
open Go.RowKit Go.Lib in
theorem Tryz.bits_Mul64 (x y : Nat) (hx : x < 18446744073709551616) (hy : y < 18446744073709551616) (w : World) :
    Calls Tryz.prog 98 #[.int .u64 x, .int .u64 y] w fun e w' => e = .returned (.tuple #[.int .u64 ((x * y / 18446744073709551616 : Nat) : Int), .int .u64 ((x * y % 18446744073709551616 : Nat) : Int)]) ∧ w' = w := Any.bits_Mul64 Tryz.lays264 x y hx hy w
def Tryz.lays212_ren : Go.Shelf.Ren := ⟨fun | 212 => 60 | 263 => 97 | 264 => 98 | n => n, fun | 46 => 85 | 51 => 91 | 146 => 125 | 53 => 29 | 148 => 127 | n => n, fun | n => n⟩
theorem Tryz.lays212 : Go.Proofs.Lays.n212 Tryz.prog Tryz.lays212_ren := {
  mixed := by kernel_rfl
  f212 := Tryz.func60.trans (congrArg some (by kernel_rfl))
  f263 := Tryz.func97.trans (congrArg some (by kernel_rfl))
  f264 := Tryz.func98.trans (congrArg some (by kernel_rfl))
  t46 := Tryz.underlying85
  a46 := Tryz.isAgg85
  z46 := Tryz.sizeOf85
  v46 := Tryz.zeroValue85
  t51 := Tryz.underlying91
  a51 := Tryz.isAgg91
  z51 := Tryz.sizeOf91
  v51 := Tryz.zeroValue91
  t53 := Tryz.underlying29
  a53 := Tryz.isAgg29
  z53 := Tryz.sizeOf29
  v53 := Tryz.zeroValue29
  t146 := Tryz.underlying125
  a146 := Tryz.isAgg125
  z146 := Tryz.sizeOf125
  v146 := Tryz.zeroValue125
  t148 := Tryz.underlying127
  a148 := Tryz.isAgg127
  z148 := Tryz.sizeOf127
  v148 := Tryz.zeroValue127 }
open Go.RowKit Go.Lib in
/-- math/bits.Mul: "Mul returns the full-width product of x and y": on a machine of 64 bits: Mul64's. (LAID: no walk: one application.) -/
theorem Tryz.bits_Mul (x y : Nat) (hx : x < 18446744073709551616) (hy : y < 18446744073709551616) (w : World) :
    Calls Tryz.prog 60 #[.int .u64 x, .int .u64 y] w fun e w' => e = .returned (.tuple #[.int .u64 ((x * y / 18446744073709551616 : Nat) : Int), .int .u64 ((x * y % 18446744073709551616 : Nat) : Int)]) ∧ w' = w := Any.bits_Mul Tryz.lays212 x y hx hy w
def Tryz.lays105_ren : Go.Shelf.Ren := ⟨fun | 105 => 35 | 212 => 60 | 99 => 61 | 165 => 62 | 166 => 34 | 170 => 63 | 169 => 36 | 263 => 97 | 264 => 98 | 206 => 99 | 240 => 59 | 241 => 100 | 276 => 96 | 277 => 131 | n => n, fun | 9 => 9 | 3 => 3 | 4 => 4 | 20 => 20 | 0 => 0 | 46 => 85 | 109 => 86 | 5 => 5 | 72 => 60 | 76 => 54 | 51 => 91 | 146 => 125 | 53 => 29 | 148 => 127 | 70 => 58 | 37 => 39 | 75 => 53 | 127 => 90 | 164 => 123 | 80 => 44 | n => n, fun | n => n⟩
theorem Tryz.lays105 : Go.Proofs.Lays.n105 Tryz.prog Tryz.lays105_ren := {
  mixed := by kernel_rfl
  f99 := Tryz.func61.trans (congrArg some (by kernel_rfl))
  f105 := Tryz.func35.trans (congrArg some (by kernel_rfl))
  f165 := Tryz.func62.trans (congrArg some (by kernel_rfl))
  f166 := Tryz.func34.trans (congrArg some (by kernel_rfl))
  f169 := Tryz.func36.trans (congrArg some (by kernel_rfl))
  f170 := Tryz.func63.trans (congrArg some (by kernel_rfl))
  f206 := Tryz.func99.trans (congrArg some (by kernel_rfl))
  f212 := Tryz.func60.trans (congrArg some (by kernel_rfl))
  f240 := Tryz.func59.trans (congrArg some (by kernel_rfl))
  f241 := Tryz.func100.trans (congrArg some (by kernel_rfl))
  f263 := Tryz.func97.trans (congrArg some (by kernel_rfl))
  f264 := Tryz.func98.trans (congrArg some (by kernel_rfl))
  f276 := Tryz.func96.trans (congrArg some (by kernel_rfl))
  f277 := Tryz.func131.trans (congrArg some (by kernel_rfl))
  t0 := Tryz.underlying0
  a0 := Tryz.isAgg0
  z0 := Tryz.sizeOf0
  v0 := Tryz.zeroValue0
  t3 := Tryz.underlying3
  a3 := Tryz.isAgg3
  z3 := Tryz.sizeOf3
  v3 := Tryz.zeroValue3
  t4 := Tryz.underlying4
  a4 := Tryz.isAgg4
  z4 := Tryz.sizeOf4
  v4 := Tryz.zeroValue4
  t5 := Tryz.underlying5
  a5 := Tryz.isAgg5
  z5 := Tryz.sizeOf5
  v5 := Tryz.zeroValue5
  t9 := Tryz.underlying9
  a9 := Tryz.isAgg9
  z9 := Tryz.sizeOf9
  v9 := Tryz.zeroValue9
  t20 := Tryz.underlying20
  a20 := Tryz.isAgg20
  z20 := Tryz.sizeOf20
  v20 := Tryz.zeroValue20
  t37 := Tryz.underlying39
  a37 := Tryz.isAgg39
  z37 := Tryz.sizeOf39
  v37 := Tryz.zeroValue39
  t46 := Tryz.underlying85
  a46 := Tryz.isAgg85
  z46 := Tryz.sizeOf85
  v46 := Tryz.zeroValue85
  t51 := Tryz.underlying91
  a51 := Tryz.isAgg91
  z51 := Tryz.sizeOf91
  v51 := Tryz.zeroValue91
  t53 := Tryz.underlying29
  a53 := Tryz.isAgg29
  z53 := Tryz.sizeOf29
  v53 := Tryz.zeroValue29
  t70 := Tryz.underlying58
  a70 := Tryz.isAgg58
  z70 := Tryz.sizeOf58
  v70 := Tryz.zeroValue58
  t72 := Tryz.underlying60
  a72 := Tryz.isAgg60
  z72 := Tryz.sizeOf60
  v72 := Tryz.zeroValue60
  t75 := Tryz.underlying53
  a75 := Tryz.isAgg53
  z75 := Tryz.sizeOf53
  v75 := Tryz.zeroValue53
  t76 := Tryz.underlying54
  a76 := Tryz.isAgg54
  z76 := Tryz.sizeOf54
  v76 := Tryz.zeroValue54
  t109 := Tryz.underlying86
  a109 := Tryz.isAgg86
  z109 := Tryz.sizeOf86
  v109 := Tryz.zeroValue86
  t127 := Tryz.underlying90
  a127 := Tryz.isAgg90
  z127 := Tryz.sizeOf90
  v127 := Tryz.zeroValue90
  t146 := Tryz.underlying125
  a146 := Tryz.isAgg125
  z146 := Tryz.sizeOf125
  v146 := Tryz.zeroValue125
  t148 := Tryz.underlying127
  a148 := Tryz.isAgg127
  z148 := Tryz.sizeOf127
  v148 := Tryz.zeroValue127
  t164 := Tryz.underlying123
  a164 := Tryz.isAgg123
  z164 := Tryz.sizeOf123
  v164 := Tryz.zeroValue123 }
theorem Tryz.Builder_Extra_105 : Builder.Extra Tryz.prog Tryz.lays105_ren := {
  sizeBuilder := by kernel_rfl
  liesBuilder := by kernel_rfl
  t5 := Tryz.underlying5
  a5 := Tryz.isAgg5
  z5 := Tryz.sizeOf5
  v5 := Tryz.zeroValue5
  infoByte := by kernel_rfl
  cellsByte := by kernel_rfl
  sizeByte := by kernel_rfl
  neB5 := by decide }
open Go.RowKit Go.Lib in
/-- THE MAIN CASE: at least two copies of a string that is not empty. (LAID: no walk: one application.) -/
theorem Tryz.strings_Repeat_main (s : ByteArray) (c : Nat) (w : World) (hc2 : 2 ≤ c) (hc : c ≤ 9223372036854775807) (hlen : s.size * c ≤ 140737488355328) (h0 : 0 < s.size) :
    Calls Tryz.prog 35 #[.string s, .int .i64 c] w fun e w' => e = .returned (.string ⟨(Lib.repeatL s.data.toList c).toArray⟩) ∧ Below w.heap.size w w' := Any.strings_Repeat_main Tryz.lays105 Tryz.Builder_Extra_105 s c w hc2 hc hlen h0
open Go.RowKit Go.Lib in
theorem Tryz.strings_Repeat_zero (s : ByteArray) (w : World) :
    Calls Tryz.prog 35 #[.string s, .int .i64 0] w fun e w' => e = .returned (.string ⟨#[]⟩) ∧ w' = w := Any.strings_Repeat_zero Tryz.lays105 s w
open Go.RowKit Go.Lib in
theorem Tryz.strings_Repeat_one (s : ByteArray) (w : World) :
    Calls Tryz.prog 35 #[.string s, .int .i64 1] w fun e w' => e = .returned (.string s) ∧ w' = w := Any.strings_Repeat_one Tryz.lays105 s w
open Go.RowKit Go.Lib in
/-- Copies of the empty string. (LAID: no walk: one application.) -/
theorem Tryz.strings_Repeat_empty (s : ByteArray) (c : Nat) (w : World) (hc2 : 2 ≤ c) (hc : c ≤ 9223372036854775807) (h0 : s.size = 0) :
    Calls Tryz.prog 35 #[.string s, .int .i64 c] w fun e w' => e = .returned (.string ⟨#[]⟩) ∧ w' = w := Any.strings_Repeat_empty Tryz.lays105 s c w hc2 hc h0
open Go.RowKit Go.Lib in
/-- count < 0: "It panics if count is negative". (LAID: no walk: one application.) -/
theorem Tryz.strings_Repeat_negative (s : ByteArray) (c : Int) (w : World) (hc : c < 0) :
    Calls Tryz.prog 35 #[.string s, .int .i64 c] w fun e w' => e = .panicked [{ v := repeatPanic Tryz.lays105_ren "strings: negative Repeat count", recovered := false }] ∧ w' = w := Any.strings_Repeat_negative Tryz.lays105 s c w hc
open Go.RowKit Go.Lib in
/-- len(s) * count is no int: ".. or if the result of (len(s) * count) overflows". (LAID: no walk: one application.) -/
theorem Tryz.strings_Repeat_overflow (s : ByteArray) (c : Nat) (w : World) (hc : c ≤ 9223372036854775807) (hs : s.size ≤ 9223372036854775807) (hbig : 9223372036854775807 < s.size * c) :
    Calls Tryz.prog 35 #[.string s, .int .i64 c] w fun e w' => e = .panicked [{ v := repeatPanic Tryz.lays105_ren "strings: Repeat output length overflow", recovered := false }] ∧ w' = w := Any.strings_Repeat_overflow Tryz.lays105 s c w hc hs hbig
open Go.RowKit Go.Lib in
/-- **strings.Repeat: count ≥ 0, the result within one allocation: count copies of s.** (LAID: no walk: one application.) -/
theorem Tryz.strings_Repeat (s : ByteArray) (c : Nat) (w : World) (hc : c ≤ 9223372036854775807) (hlen : s.size * c ≤ 140737488355328) :
    Calls Tryz.prog 35 #[.string s, .int .i64 c] w fun e w' => e = .returned (.string ⟨(Lib.repeatL s.data.toList c).toArray⟩) ∧ Below w.heap.size w w' := Any.strings_Repeat Tryz.lays105 Tryz.Builder_Extra_105 s c w hc hlen
def Tryz.lays260_ren : Go.Shelf.Ren := ⟨fun | 260 => 128 | n => n, fun | 9 => 9 | 21 => 21 | 3 => 3 | 4 => 4 | 5 => 5 | 119 => 173 | 0 => 0 | 46 => 85 | 139 => 176 | 138 => 175 | n => n, fun | 3 => 10 | 4 => 11 | n => n⟩
theorem Tryz.lays260 : Go.Proofs.Lays.n260 Tryz.prog Tryz.lays260_ren := {
  mixed := by kernel_rfl
  f260 := Tryz.func128.trans (congrArg some (by kernel_rfl))
  t0 := Tryz.underlying0
  a0 := Tryz.isAgg0
  z0 := Tryz.sizeOf0
  v0 := Tryz.zeroValue0
  t3 := Tryz.underlying3
  a3 := Tryz.isAgg3
  z3 := Tryz.sizeOf3
  v3 := Tryz.zeroValue3
  t4 := Tryz.underlying4
  a4 := Tryz.isAgg4
  z4 := Tryz.sizeOf4
  v4 := Tryz.zeroValue4
  t5 := Tryz.underlying5
  a5 := Tryz.isAgg5
  z5 := Tryz.sizeOf5
  v5 := Tryz.zeroValue5
  t9 := Tryz.underlying9
  a9 := Tryz.isAgg9
  z9 := Tryz.sizeOf9
  v9 := Tryz.zeroValue9
  t21 := Tryz.underlying21
  a21 := Tryz.isAgg21
  z21 := Tryz.sizeOf21
  v21 := Tryz.zeroValue21
  t46 := Tryz.underlying85
  a46 := Tryz.isAgg85
  z46 := Tryz.sizeOf85
  v46 := Tryz.zeroValue85
  t119 := Tryz.underlying173
  a119 := Tryz.isAgg173
  z119 := Tryz.sizeOf173
  t138 := Tryz.underlying175
  a138 := Tryz.isAgg175
  z138 := Tryz.sizeOf175
  v138 := Tryz.zeroValue175
  t139 := Tryz.underlying176
  a139 := Tryz.isAgg176
  z139 := Tryz.sizeOf176
  v139 := Tryz.zeroValue176
  g3 := by kernel_rfl
  g4 := by kernel_rfl }
open Go.RowKit Go.Lib in
theorem Tryz.utf8_decodeRuneInStringSlow (s : ByteArray) (w : World) (hT : Lib.Utf8Tabs 10 11 w) :
    Calls Tryz.prog 128 #[.string s] w fun e w' => e = .returned (.tuple #[.int .i32 (Lib.decodeGo s).1, .int .i64 (Lib.decodeGo s).2]) ∧ Below w.heap.size w w' := Any.utf8_decodeRuneInStringSlow Tryz.lays260 s w hT
open Go.RowKit Go.Lib in
/-- **unicode/utf8.DecodeRuneInString AT EVERY STRING.** (LAID: no walk: one application.) -/
theorem Tryz.utf8_DecodeRuneInString (s : ByteArray) (w : World) (hT : Lib.Utf8Tabs 10 11 w) :
    Calls Tryz.prog 93 #[.string s] w fun e w' => e = .returned (.tuple #[.int .i32 (Lib.decodeGo s).1, .int .i64 (Lib.decodeGo s).2]) ∧ Below w.heap.size w w' := Any.utf8_DecodeRuneInString Tryz.lays197 s w hT
def Tryz.lays271_ren : Go.Shelf.Ren := ⟨fun | 271 => 95 | 120 => 130 | 197 => 93 | 260 => 128 | n => n, fun | 9 => 9 | 21 => 21 | 3 => 3 | 4 => 4 | 5 => 5 | 105 => 120 | 119 => 173 | 0 => 0 | 46 => 85 | 139 => 176 | 138 => 175 | n => n, fun | 3 => 10 | 4 => 11 | n => n⟩
theorem Tryz.lays271 : Go.Proofs.Lays.n271 Tryz.prog Tryz.lays271_ren := {
  mixed := by kernel_rfl
  f120 := Tryz.func130.trans (congrArg some (by kernel_rfl))
  f197 := Tryz.func93.trans (congrArg some (by kernel_rfl))
  f260 := Tryz.func128.trans (congrArg some (by kernel_rfl))
  f271 := Tryz.func95.trans (congrArg some (by kernel_rfl))
  t0 := Tryz.underlying0
  a0 := Tryz.isAgg0
  z0 := Tryz.sizeOf0
  v0 := Tryz.zeroValue0
  t3 := Tryz.underlying3
  a3 := Tryz.isAgg3
  z3 := Tryz.sizeOf3
  v3 := Tryz.zeroValue3
  t4 := Tryz.underlying4
  a4 := Tryz.isAgg4
  z4 := Tryz.sizeOf4
  v4 := Tryz.zeroValue4
  t5 := Tryz.underlying5
  a5 := Tryz.isAgg5
  z5 := Tryz.sizeOf5
  v5 := Tryz.zeroValue5
  t9 := Tryz.underlying9
  a9 := Tryz.isAgg9
  z9 := Tryz.sizeOf9
  v9 := Tryz.zeroValue9
  t21 := Tryz.underlying21
  a21 := Tryz.isAgg21
  z21 := Tryz.sizeOf21
  v21 := Tryz.zeroValue21
  t46 := Tryz.underlying85
  a46 := Tryz.isAgg85
  z46 := Tryz.sizeOf85
  v46 := Tryz.zeroValue85
  t105 := Tryz.underlying120
  a105 := Tryz.isAgg120
  z105 := Tryz.sizeOf120
  v105 := Tryz.zeroValue120
  t119 := Tryz.underlying173
  a119 := Tryz.isAgg173
  z119 := Tryz.sizeOf173
  t138 := Tryz.underlying175
  a138 := Tryz.isAgg175
  z138 := Tryz.sizeOf175
  v138 := Tryz.zeroValue175
  t139 := Tryz.underlying176
  a139 := Tryz.isAgg176
  z139 := Tryz.sizeOf176
  v139 := Tryz.zeroValue176
  g3 := by kernel_rfl
  g4 := by kernel_rfl }
open Go.RowKit Go.Lib in
/-- **unicode/utf8.DecodeLastRuneInString AT EVERY STRING.** (LAID: no walk: one application.) -/
theorem Tryz.utf8_DecodeLastRuneInString (s : ByteArray) (w : World) (hs : s.size ≤ 9223372036854775807) (hT : Lib.Utf8Tabs 10 11 w) :
    Calls Tryz.prog 95 #[.string s] w fun e w' => e = .returned (.tuple #[.int .i32 (Lib.decodeLastL s.data.toList).1, .int .i64 (Lib.decodeLastL s.data.toList).2]) ∧ Below w.heap.size w w' := Any.utf8_DecodeLastRuneInString Tryz.lays271 s w hs hT
end Go.Proofs
