/- The shelf's contracts at this dump, in plain words (written by the kit's lay-shelf and lay-plain). -/
import Derived.Shelf.Strings.TrimSpace
import Derived.Shelf.Small.Utf8
import Derived.Shelf.Small.Strs
import Derived.Shelf.Small.Wraps
import Derived.Shelf.Strconv.Atoi
import Derived.Shelf.Strconv.AtoiErrFast
import Derived.Shelf.Strconv.ParseIntEmpty
import Derived.Shelf.Strconv.AtoiFail
import Derived.Shelf.LaysM
import Derived.Shelf.Strconv.Clone
import Derived.Shelf.Strconv.SyntaxError
import Derived.Shelf.LaysC
import Derived.Shelf.Strconv.ToError
import Derived.Shelf.Strconv.Lower
import Derived.Shelf.Strconv.ParseUint10
import Derived.Shelf.Strconv.ParseUint10Empty
import Derived.Shelf.Strconv.ParseUint10Any
import Derived.Shelf.Strconv.ParseInt10
import Derived.Shelf.Strconv.AtoiLong
import Derived.Shelf.Strconv.AtoiInnerAll
import Derived.Shelf.Strconv.RangeError
import Derived.Shelf.Strconv.ToErrorRange
import Derived.Shelf.Strconv.AtoiAll
import Derived.Shelf.Strings.Search1
import Derived.Shelf.Strings.Search2
import Derived.Shelf.Strings.Search3
import Derived.Shelf.Strings.Cut
import Derived.Shelf.Strings.Count
import Derived.Shelf.Strings.Shaped
import Derived.Shelf.Strings.Prefix
import Derived.Shelf.Unicode.Latin
import Derived.Shelf.Strings.Runes
import Derived.Shelf.Strings.IndexAny
import Derived.Shelf.Strings.AsciiSet
import Derived.Shelf.Strings.IndexAnyAll
import Derived.Shelf.Unicode.DecodeSlow
import Derived.Shelf.Unicode.DecodeAny
import Derived.Shelf.Unicode.Is16White
import Derived.Shelf.Unicode.IsSpaceAny
import Derived.Shelf.Unicode.DecodeLast
import Derived.Shelf.Strings.TrimSpaceAny
import Derived.Shelf.Unicode.Is16Any
import Derived.Shelf.Unicode.Is32Any
import Derived.Shelf.Unicode.ExclAny
import Derived.Test.Qxb6606157aDoorProg
namespace Go.Proofs
open Go.Shelf
def Tryd.lays163_ren : Go.Shelf.Ren := ⟨fun | 163 => 26 | 237 => 38 | 199 => 39 | 238 => 40 | 272 => 52 | 261 => 53 | 273 => 54 | 197 => 55 | 315 => 70 | 311 => 71 | 312 => 72 | 271 => 73 | 260 => 74 | 120 => 84 | n => n, fun | 9 => 9 | 37 => 46 | 3 => 3 | 0 => 0 | 5 => 5 | 4 => 4 | 40 => 55 | 119 => 56 | 21 => 21 | 51 => 67 | 141 => 69 | 105 => 71 | 196 => 87 | 193 => 84 | 198 => 90 | 49 => 88 | 194 => 85 | 201 => 93 | 226 => 103 | 46 => 44 | 227 => 104 | 139 => 107 | 138 => 106 | n => n, fun | 0 => 0 | 6 => 1 | 3 => 5 | 4 => 6 | n => n⟩
theorem Tryd.lays163 : Go.Proofs.Lays.n163 Tryd.prog Tryd.lays163_ren := {
  mixed := by kernel_rfl
  f120 := Tryd.func84.trans (congrArg some (by kernel_rfl))
  f163 := Tryd.func26.trans (congrArg some (by kernel_rfl))
  f197 := Tryd.func55.trans (congrArg some (by kernel_rfl))
  f199 := Tryd.func39.trans (congrArg some (by kernel_rfl))
  f237 := Tryd.func38.trans (congrArg some (by kernel_rfl))
  f238 := Tryd.func40.trans (congrArg some (by kernel_rfl))
  f260 := Tryd.func74.trans (congrArg some (by kernel_rfl))
  f261 := Tryd.func53.trans (congrArg some (by kernel_rfl))
  f271 := Tryd.func73.trans (congrArg some (by kernel_rfl))
  f272 := Tryd.func52.trans (congrArg some (by kernel_rfl))
  f273 := Tryd.func54.trans (congrArg some (by kernel_rfl))
  f311 := Tryd.func71.trans (congrArg some (by kernel_rfl))
  f312 := Tryd.func72.trans (congrArg some (by kernel_rfl))
  f315 := Tryd.func70.trans (congrArg some (by kernel_rfl))
  t0 := Tryd.underlying0
  a0 := Tryd.isAgg0
  z0 := Tryd.sizeOf0
  v0 := Tryd.zeroValue0
  t3 := Tryd.underlying3
  a3 := Tryd.isAgg3
  z3 := Tryd.sizeOf3
  v3 := Tryd.zeroValue3
  t4 := Tryd.underlying4
  a4 := Tryd.isAgg4
  z4 := Tryd.sizeOf4
  v4 := Tryd.zeroValue4
  t5 := Tryd.underlying5
  a5 := Tryd.isAgg5
  z5 := Tryd.sizeOf5
  v5 := Tryd.zeroValue5
  t9 := Tryd.underlying9
  a9 := Tryd.isAgg9
  z9 := Tryd.sizeOf9
  v9 := Tryd.zeroValue9
  t21 := Tryd.underlying21
  a21 := Tryd.isAgg21
  z21 := Tryd.sizeOf21
  v21 := Tryd.zeroValue21
  t37 := Tryd.underlying46
  a37 := Tryd.isAgg46
  z37 := Tryd.sizeOf46
  v37 := Tryd.zeroValue46
  t40 := Tryd.underlying55
  a40 := Tryd.isAgg55
  z40 := Tryd.sizeOf55
  v40 := Tryd.zeroValue55
  t46 := Tryd.underlying44
  a46 := Tryd.isAgg44
  z46 := Tryd.sizeOf44
  v46 := Tryd.zeroValue44
  t49 := Tryd.underlying88
  a49 := Tryd.isAgg88
  z49 := Tryd.sizeOf88
  v49 := Tryd.zeroValue88
  t51 := Tryd.underlying67
  a51 := Tryd.isAgg67
  z51 := Tryd.sizeOf67
  v51 := Tryd.zeroValue67
  t105 := Tryd.underlying71
  a105 := Tryd.isAgg71
  z105 := Tryd.sizeOf71
  v105 := Tryd.zeroValue71
  t119 := Tryd.underlying56
  a119 := Tryd.isAgg56
  z119 := Tryd.sizeOf56
  t138 := Tryd.underlying106
  a138 := Tryd.isAgg106
  z138 := Tryd.sizeOf106
  v138 := Tryd.zeroValue106
  t139 := Tryd.underlying107
  a139 := Tryd.isAgg107
  z139 := Tryd.sizeOf107
  v139 := Tryd.zeroValue107
  t141 := Tryd.underlying69
  a141 := Tryd.isAgg69
  z141 := Tryd.sizeOf69
  v141 := Tryd.zeroValue69
  t193 := Tryd.underlying84
  a193 := Tryd.isAgg84
  z193 := Tryd.sizeOf84
  v193 := Tryd.zeroValue84
  t194 := Tryd.underlying85
  a194 := Tryd.isAgg85
  z194 := Tryd.sizeOf85
  v194 := Tryd.zeroValue85
  t196 := Tryd.underlying87
  a196 := Tryd.isAgg87
  z196 := Tryd.sizeOf87
  v196 := Tryd.zeroValue87
  t198 := Tryd.underlying90
  a198 := Tryd.isAgg90
  z198 := Tryd.sizeOf90
  v198 := Tryd.zeroValue90
  t201 := Tryd.underlying93
  a201 := Tryd.isAgg93
  z201 := Tryd.sizeOf93
  v201 := Tryd.zeroValue93
  t226 := Tryd.underlying103
  a226 := Tryd.isAgg103
  z226 := Tryd.sizeOf103
  v226 := Tryd.zeroValue103
  t227 := Tryd.underlying104
  a227 := Tryd.isAgg104
  z227 := Tryd.sizeOf104
  v227 := Tryd.zeroValue104
  g0 := by kernel_rfl
  g3 := by kernel_rfl
  g4 := by kernel_rfl
  g6 := by kernel_rfl }
theorem Tryd.Space_Extra_163 : Space.Extra Tryd.prog Tryd.lays163_ren := {
  gNamed := by kernel_rfl }
open Go.RowKit in
theorem Tryd.strings_TrimSpace (s : ByteArray) (w : World) (hs : s.size ≤ 9223372036854775807) (hascii : ∀ (j : Nat) b, s.data.toList[j]? = some b → b.toNat < 128) (htab : Lib.TabIs Tryd.prog w "strings.asciiSpace" .u8 Lib.asciiSpaceTab) :
    Calls Tryd.prog 26 #[.string s] w fun e w' => e = .returned (.string ⟨(Lib.trimSpace s.data.toList).toArray⟩) ∧ w' = Lib.bytesWorld w 5 s := Any.strings_TrimSpace Tryd.lays163 Tryd.Space_Extra_163 s w hs hascii htab
def Tryd.lays103_ren : Go.Shelf.Ren := ⟨fun | 103 => 24 | 210 => 36 | 206 => 49 | n => n, fun | 9 => 9 | 4 => 4 | 24 => 35 | 3 => 3 | n => n, fun | n => n⟩
theorem Tryd.lays103 : Go.Proofs.Lays.n103 Tryd.prog Tryd.lays103_ren := {
  mixed := by kernel_rfl
  f103 := Tryd.func24.trans (congrArg some (by kernel_rfl))
  f206 := Tryd.func49.trans (congrArg some (by kernel_rfl))
  f210 := Tryd.func36.trans (congrArg some (by kernel_rfl))
  t3 := Tryd.underlying3
  a3 := Tryd.isAgg3
  z3 := Tryd.sizeOf3
  v3 := Tryd.zeroValue3
  t4 := Tryd.underlying4
  a4 := Tryd.isAgg4
  z4 := Tryd.sizeOf4
  v4 := Tryd.zeroValue4
  t9 := Tryd.underlying9
  a9 := Tryd.isAgg9
  z9 := Tryd.sizeOf9
  v9 := Tryd.zeroValue9
  t24 := Tryd.underlying35
  a24 := Tryd.isAgg35
  z24 := Tryd.sizeOf35
  v24 := Tryd.zeroValue35 }
open Go.RowKit in
theorem Tryd.strings_CutPrefix (s p : ByteArray) (w : World) :
    Calls Tryd.prog 24 #[.string s, .string p] w fun e w' => e = .returned (.tuple #[.string ⟨(Lib.trimPrefix s.data.toList p.data.toList).toArray⟩, .bool (Lib.hasPrefix s.data.toList p.data.toList)]) ∧ w' = w := Any.strings_CutPrefix Tryd.lays103 s p w
def Tryd.lays172_ren : Go.Shelf.Ren := ⟨fun | 172 => 28 | 244 => 42 | 245 => 43 | 247 => 56 | 279 => 57 | 280 => 58 | 281 => 59 | 282 => 60 | 287 => 75 | 316 => 76 | 171 => 78 | 205 => 77 | 321 => 85 | 322 => 86 | 243 => 87 | 246 => 89 | 283 => 90 | 284 => 91 | 285 => 92 | 286 => 93 | 129 => 95 | 317 => 94 | 318 => 96 | 319 => 97 | 320 => 98 | 337 => 99 | 338 => 100 | n => n, fun | 9 => 9 | 3 => 3 | 75 => 40 | 76 => 41 | 4 => 4 | 5 => 5 | 167 => 73 | 37 => 46 | 0 => 0 | 85 => 74 | 2 => 2 | 168 => 76 | 53 => 95 | 175 => 96 | 46 => 44 | 210 => 99 | 127 => 66 | 145 => 111 | 143 => 109 | 21 => 21 | 171 => 45 | 173 => 116 | 212 => 119 | 51 => 67 | 20 => 20 | 213 => 120 | 232 => 123 | 233 => 124 | 80 => 52 | n => n, fun | 15 => 3 | 16 => 4 | 17 => 7 | 18 => 8 | 19 => 9 | n => n⟩
theorem Tryd.lays172 : Go.Proofs.Lays.n172 Tryd.prog Tryd.lays172_ren := {
  mixed := by kernel_rfl
  f129 := Tryd.func95.trans (congrArg some (by kernel_rfl))
  f171 := Tryd.func78.trans (congrArg some (by kernel_rfl))
  f172 := Tryd.func28.trans (congrArg some (by kernel_rfl))
  f205 := Tryd.func77.trans (congrArg some (by kernel_rfl))
  f243 := Tryd.func87.trans (congrArg some (by kernel_rfl))
  f244 := Tryd.func42.trans (congrArg some (by kernel_rfl))
  f245 := Tryd.func43.trans (congrArg some (by kernel_rfl))
  f246 := Tryd.func89.trans (congrArg some (by kernel_rfl))
  f247 := Tryd.func56.trans (congrArg some (by kernel_rfl))
  f279 := Tryd.func57.trans (congrArg some (by kernel_rfl))
  f280 := Tryd.func58.trans (congrArg some (by kernel_rfl))
  f281 := Tryd.func59.trans (congrArg some (by kernel_rfl))
  f282 := Tryd.func60.trans (congrArg some (by kernel_rfl))
  f283 := Tryd.func90.trans (congrArg some (by kernel_rfl))
  f284 := Tryd.func91.trans (congrArg some (by kernel_rfl))
  f285 := Tryd.func92.trans (congrArg some (by kernel_rfl))
  f286 := Tryd.func93.trans (congrArg some (by kernel_rfl))
  f287 := Tryd.func75.trans (congrArg some (by kernel_rfl))
  f316 := Tryd.func76.trans (congrArg some (by kernel_rfl))
  f317 := Tryd.func94.trans (congrArg some (by kernel_rfl))
  f318 := Tryd.func96.trans (congrArg some (by kernel_rfl))
  f319 := Tryd.func97.trans (congrArg some (by kernel_rfl))
  f320 := Tryd.func98.trans (congrArg some (by kernel_rfl))
  f321 := Tryd.func85.trans (congrArg some (by kernel_rfl))
  f322 := Tryd.func86.trans (congrArg some (by kernel_rfl))
  f337 := Tryd.func99.trans (congrArg some (by kernel_rfl))
  f338 := Tryd.func100.trans (congrArg some (by kernel_rfl))
  t0 := Tryd.underlying0
  a0 := Tryd.isAgg0
  z0 := Tryd.sizeOf0
  v0 := Tryd.zeroValue0
  t2 := Tryd.underlying2
  a2 := Tryd.isAgg2
  z2 := Tryd.sizeOf2
  v2 := Tryd.zeroValue2
  t3 := Tryd.underlying3
  a3 := Tryd.isAgg3
  z3 := Tryd.sizeOf3
  v3 := Tryd.zeroValue3
  t4 := Tryd.underlying4
  a4 := Tryd.isAgg4
  z4 := Tryd.sizeOf4
  v4 := Tryd.zeroValue4
  t5 := Tryd.underlying5
  a5 := Tryd.isAgg5
  z5 := Tryd.sizeOf5
  v5 := Tryd.zeroValue5
  t9 := Tryd.underlying9
  a9 := Tryd.isAgg9
  z9 := Tryd.sizeOf9
  v9 := Tryd.zeroValue9
  t20 := Tryd.underlying20
  a20 := Tryd.isAgg20
  z20 := Tryd.sizeOf20
  v20 := Tryd.zeroValue20
  t21 := Tryd.underlying21
  a21 := Tryd.isAgg21
  z21 := Tryd.sizeOf21
  v21 := Tryd.zeroValue21
  t37 := Tryd.underlying46
  a37 := Tryd.isAgg46
  z37 := Tryd.sizeOf46
  v37 := Tryd.zeroValue46
  t46 := Tryd.underlying44
  a46 := Tryd.isAgg44
  z46 := Tryd.sizeOf44
  v46 := Tryd.zeroValue44
  t51 := Tryd.underlying67
  a51 := Tryd.isAgg67
  z51 := Tryd.sizeOf67
  v51 := Tryd.zeroValue67
  t53 := Tryd.underlying95
  a53 := Tryd.isAgg95
  z53 := Tryd.sizeOf95
  v53 := Tryd.zeroValue95
  t75 := Tryd.underlying40
  a75 := Tryd.isAgg40
  z75 := Tryd.sizeOf40
  v75 := Tryd.zeroValue40
  t76 := Tryd.underlying41
  a76 := Tryd.isAgg41
  z76 := Tryd.sizeOf41
  v76 := Tryd.zeroValue41
  t85 := Tryd.underlying74
  a85 := Tryd.isAgg74
  z85 := Tryd.sizeOf74
  v85 := Tryd.zeroValue74
  t127 := Tryd.underlying66
  a127 := Tryd.isAgg66
  z127 := Tryd.sizeOf66
  v127 := Tryd.zeroValue66
  t143 := Tryd.underlying109
  a143 := Tryd.isAgg109
  z143 := Tryd.sizeOf109
  v143 := Tryd.zeroValue109
  t145 := Tryd.underlying111
  a145 := Tryd.isAgg111
  z145 := Tryd.sizeOf111
  v145 := Tryd.zeroValue111
  t167 := Tryd.underlying73
  a167 := Tryd.isAgg73
  z167 := Tryd.sizeOf73
  v167 := Tryd.zeroValue73
  t168 := Tryd.underlying76
  a168 := Tryd.isAgg76
  z168 := Tryd.sizeOf76
  v168 := Tryd.zeroValue76
  t171 := Tryd.underlying45
  a171 := Tryd.isAgg45
  z171 := Tryd.sizeOf45
  v171 := Tryd.zeroValue45
  t173 := Tryd.underlying116
  a173 := Tryd.isAgg116
  z173 := Tryd.sizeOf116
  v173 := Tryd.zeroValue116
  t175 := Tryd.underlying96
  a175 := Tryd.isAgg96
  z175 := Tryd.sizeOf96
  v175 := Tryd.zeroValue96
  t210 := Tryd.underlying99
  a210 := Tryd.isAgg99
  z210 := Tryd.sizeOf99
  v210 := Tryd.zeroValue99
  t212 := Tryd.underlying119
  a212 := Tryd.isAgg119
  z212 := Tryd.sizeOf119
  v212 := Tryd.zeroValue119
  t213 := Tryd.underlying120
  a213 := Tryd.isAgg120
  z213 := Tryd.sizeOf120
  t232 := Tryd.underlying123
  a232 := Tryd.isAgg123
  z232 := Tryd.sizeOf123
  v232 := Tryd.zeroValue123
  t233 := Tryd.underlying124
  a233 := Tryd.isAgg124
  z233 := Tryd.sizeOf124
  v233 := Tryd.zeroValue124
  g15 := by kernel_rfl
  g16 := by kernel_rfl
  g17 := by kernel_rfl
  g18 := by kernel_rfl
  g19 := by kernel_rfl }
open Go.RowKit in
theorem Tryd.strconv_Atoi (s : ByteArray) (n : Int) (hl : s.size ≤ 18) (h : Lib.atoi s.data.toList = some n) (w : World) :
    Calls Tryd.prog 28 #[.string s] w fun e w' => e = .returned (.tuple #[.int .i64 n, .nilIface]) ∧ ∃ t, w' = Lib.bytesWorld w 5 t := Any.strconv_Atoi Tryd.lays172 s n hl h w
def Tryd.laysC172_ren : Go.Shelf.Ren := ⟨fun | 172 => 28 | 244 => 42 | 245 => 43 | 247 => 56 | 279 => 57 | 280 => 58 | 281 => 59 | 282 => 60 | 287 => 75 | 316 => 76 | 171 => 78 | 205 => 77 | 321 => 85 | 322 => 86 | 243 => 87 | 246 => 89 | 283 => 90 | 284 => 91 | 285 => 92 | 286 => 93 | 129 => 95 | 317 => 94 | 318 => 96 | 319 => 97 | 320 => 98 | 337 => 99 | 338 => 100 | n => n, fun | 9 => 9 | 3 => 3 | 75 => 40 | 76 => 41 | 4 => 4 | 5 => 5 | 167 => 73 | 37 => 46 | 0 => 0 | 85 => 74 | 2 => 2 | 168 => 76 | 53 => 95 | 175 => 96 | 46 => 44 | 210 => 99 | 127 => 66 | 145 => 111 | 143 => 109 | 21 => 21 | 171 => 45 | 173 => 116 | 212 => 119 | 51 => 67 | 20 => 20 | 213 => 120 | 232 => 123 | 233 => 124 | 80 => 52 | n => n, fun | 15 => 3 | 16 => 4 | 17 => 7 | 18 => 8 | 19 => 9 | n => n⟩
theorem Tryd.laysC172 : Go.Proofs.LaysC.n172 Tryd.prog Tryd.laysC172_ren := {
  mixed := by kernel_rfl
  f129 := Tryd.func95.trans (congrArg some (by kernel_rfl))
  f171 := Tryd.func78.trans (congrArg some (by kernel_rfl))
  f172 := Tryd.func28.trans (congrArg some (by kernel_rfl))
  f205 := Tryd.func77.trans (congrArg some (by kernel_rfl))
  f243 := Tryd.func87.trans (congrArg some (by kernel_rfl))
  f244 := Tryd.func42.trans (congrArg some (by kernel_rfl))
  f245 := Tryd.func43.trans (congrArg some (by kernel_rfl))
  f246 := Tryd.func89.trans (congrArg some (by kernel_rfl))
  f247 := Tryd.func56.trans (congrArg some (by kernel_rfl))
  f279 := Tryd.func57.trans (congrArg some (by kernel_rfl))
  f280 := Tryd.func58.trans (congrArg some (by kernel_rfl))
  f281 := Tryd.func59.trans (congrArg some (by kernel_rfl))
  f282 := Tryd.func60.trans (congrArg some (by kernel_rfl))
  f283 := Tryd.func90.trans (congrArg some (by kernel_rfl))
  f284 := Tryd.func91.trans (congrArg some (by kernel_rfl))
  f285 := Tryd.func92.trans (congrArg some (by kernel_rfl))
  f286 := Tryd.func93.trans (congrArg some (by kernel_rfl))
  f287 := Tryd.func75.trans (congrArg some (by kernel_rfl))
  f316 := Tryd.func76.trans (congrArg some (by kernel_rfl))
  f317 := Tryd.func94.trans (congrArg some (by kernel_rfl))
  f318 := Tryd.func96.trans (congrArg some (by kernel_rfl))
  f319 := Tryd.func97.trans (congrArg some (by kernel_rfl))
  f320 := Tryd.func98.trans (congrArg some (by kernel_rfl))
  f321 := Tryd.func85.trans (congrArg some (by kernel_rfl))
  f322 := Tryd.func86.trans (congrArg some (by kernel_rfl))
  f337 := Tryd.func99.trans (congrArg some (by kernel_rfl))
  f338 := Tryd.func100.trans (congrArg some (by kernel_rfl))
  t0 := Tryd.underlying0
  a0 := Tryd.isAgg0
  z0 := Tryd.sizeOf0
  v0 := Tryd.zeroValue0
  t2 := Tryd.underlying2
  a2 := Tryd.isAgg2
  z2 := Tryd.sizeOf2
  v2 := Tryd.zeroValue2
  t3 := Tryd.underlying3
  a3 := Tryd.isAgg3
  z3 := Tryd.sizeOf3
  v3 := Tryd.zeroValue3
  t4 := Tryd.underlying4
  a4 := Tryd.isAgg4
  z4 := Tryd.sizeOf4
  v4 := Tryd.zeroValue4
  t5 := Tryd.underlying5
  a5 := Tryd.isAgg5
  z5 := Tryd.sizeOf5
  v5 := Tryd.zeroValue5
  t9 := Tryd.underlying9
  a9 := Tryd.isAgg9
  z9 := Tryd.sizeOf9
  v9 := Tryd.zeroValue9
  t20 := Tryd.underlying20
  a20 := Tryd.isAgg20
  z20 := Tryd.sizeOf20
  v20 := Tryd.zeroValue20
  t21 := Tryd.underlying21
  a21 := Tryd.isAgg21
  z21 := Tryd.sizeOf21
  v21 := Tryd.zeroValue21
  t37 := Tryd.underlying46
  a37 := Tryd.isAgg46
  z37 := Tryd.sizeOf46
  v37 := Tryd.zeroValue46
  t46 := Tryd.underlying44
  a46 := Tryd.isAgg44
  z46 := Tryd.sizeOf44
  v46 := Tryd.zeroValue44
  t51 := Tryd.underlying67
  a51 := Tryd.isAgg67
  z51 := Tryd.sizeOf67
  v51 := Tryd.zeroValue67
  t53 := Tryd.underlying95
  a53 := Tryd.isAgg95
  z53 := Tryd.sizeOf95
  v53 := Tryd.zeroValue95
  t75 := Tryd.underlying40
  a75 := Tryd.isAgg40
  z75 := Tryd.sizeOf40
  v75 := Tryd.zeroValue40
  t76 := Tryd.underlying41
  a76 := Tryd.isAgg41
  z76 := Tryd.sizeOf41
  v76 := Tryd.zeroValue41
  t85 := Tryd.underlying74
  a85 := Tryd.isAgg74
  z85 := Tryd.sizeOf74
  v85 := Tryd.zeroValue74
  t127 := Tryd.underlying66
  a127 := Tryd.isAgg66
  z127 := Tryd.sizeOf66
  v127 := Tryd.zeroValue66
  t143 := Tryd.underlying109
  a143 := Tryd.isAgg109
  z143 := Tryd.sizeOf109
  v143 := Tryd.zeroValue109
  t145 := Tryd.underlying111
  a145 := Tryd.isAgg111
  z145 := Tryd.sizeOf111
  v145 := Tryd.zeroValue111
  t167 := Tryd.underlying73
  a167 := Tryd.isAgg73
  z167 := Tryd.sizeOf73
  v167 := Tryd.zeroValue73
  t168 := Tryd.underlying76
  a168 := Tryd.isAgg76
  z168 := Tryd.sizeOf76
  v168 := Tryd.zeroValue76
  t171 := Tryd.underlying45
  a171 := Tryd.isAgg45
  z171 := Tryd.sizeOf45
  v171 := Tryd.zeroValue45
  t173 := Tryd.underlying116
  a173 := Tryd.isAgg116
  z173 := Tryd.sizeOf116
  v173 := Tryd.zeroValue116
  t175 := Tryd.underlying96
  a175 := Tryd.isAgg96
  z175 := Tryd.sizeOf96
  v175 := Tryd.zeroValue96
  t210 := Tryd.underlying99
  a210 := Tryd.isAgg99
  z210 := Tryd.sizeOf99
  v210 := Tryd.zeroValue99
  t212 := Tryd.underlying119
  a212 := Tryd.isAgg119
  z212 := Tryd.sizeOf119
  v212 := Tryd.zeroValue119
  t213 := Tryd.underlying120
  a213 := Tryd.isAgg120
  z213 := Tryd.sizeOf120
  t232 := Tryd.underlying123
  a232 := Tryd.isAgg123
  z232 := Tryd.sizeOf123
  v232 := Tryd.zeroValue123
  t233 := Tryd.underlying124
  a233 := Tryd.isAgg124
  z233 := Tryd.sizeOf124
  v233 := Tryd.zeroValue124
  g15 := by kernel_rfl
  g16 := by kernel_rfl
  g17 := by kernel_rfl
  g18 := by kernel_rfl
  g19 := by kernel_rfl
  t80 := Tryd.underlying52
  a80 := Tryd.isAgg52
  z80 := Tryd.sizeOf52
  v80 := Tryd.zeroValue52
  i0 := by kernel_rfl
  i2 := by kernel_rfl
  i3 := by kernel_rfl
  i4 := by kernel_rfl
  i5 := by kernel_rfl
  i9 := by kernel_rfl
  i20 := by kernel_rfl
  i21 := by kernel_rfl
  i37 := by kernel_rfl
  i46 := by kernel_rfl
  i51 := by kernel_rfl
  i53 := by kernel_rfl
  i75 := by kernel_rfl
  i76 := by kernel_rfl
  i80 := by kernel_rfl
  i85 := by kernel_rfl
  i127 := by kernel_rfl
  i143 := by kernel_rfl
  i145 := by kernel_rfl
  i167 := by kernel_rfl
  i168 := by kernel_rfl
  i171 := by kernel_rfl
  i173 := by kernel_rfl
  i175 := by kernel_rfl
  i210 := by kernel_rfl
  i212 := by kernel_rfl
  i232 := by kernel_rfl
  i233 := by kernel_rfl
  m15 := by kernel_rfl
  m16 := by kernel_rfl
  m17 := by kernel_rfl
  m18 := by kernel_rfl
  m19 := by kernel_rfl
  c0 := by kernel_rfl
  c2 := by kernel_rfl
  c3 := by kernel_rfl
  c4 := by kernel_rfl
  c5 := by kernel_rfl
  c9 := by kernel_rfl
  c20 := by kernel_rfl
  c21 := by kernel_rfl
  c37 := by kernel_rfl
  c46 := by kernel_rfl
  c51 := by kernel_rfl
  c53 := by kernel_rfl
  c75 := by kernel_rfl
  c76 := by kernel_rfl
  c80 := by kernel_rfl
  c85 := by kernel_rfl
  c127 := by kernel_rfl
  c143 := by kernel_rfl
  c145 := by kernel_rfl
  c167 := by kernel_rfl
  c168 := by kernel_rfl
  c171 := by kernel_rfl
  c173 := by kernel_rfl
  c175 := by kernel_rfl
  c210 := by kernel_rfl
  c212 := by kernel_rfl
  c213 := by kernel_rfl
  c232 := by kernel_rfl
  c233 := by kernel_rfl }
open Go.RowKit in
theorem Tryd.strconv_Atoi_ok (s : ByteArray) (hmax : s.size ≤ 9223372036854775806) (v : Int) (h : Lib.atoiAll s.data.toList = .ok v) (w : World) :
    Calls Tryd.prog 28 #[.string s] w fun e w' => e = .returned (.tuple #[.int .i64 v, .nilIface]) ∧ (w' = w ∨ ∃ t, w' = Lib.bytesWorld w 5 t) := Any.strconv_Atoi_ok Tryd.laysC172 s hmax v h w
def Tryd.lays144_ren : Go.Shelf.Ren := ⟨fun | 144 => 27 | 143 => 41 | 219 => 51 | 217 => 68 | 225 => 66 | 224 => 65 | 267 => 69 | 266 => 82 | 314 => 83 | n => n, fun | 9 => 9 | 4 => 4 | 3 => 3 | 5 => 5 | 46 => 44 | 146 => 101 | 51 => 67 | n => n, fun | 1 => 2 | n => n⟩
theorem Tryd.lays144 : Go.Proofs.Lays.n144 Tryd.prog Tryd.lays144_ren := {
  mixed := by kernel_rfl
  f143 := Tryd.func41.trans (congrArg some (by kernel_rfl))
  f144 := Tryd.func27.trans (congrArg some (by kernel_rfl))
  f217 := Tryd.func68.trans (congrArg some (by kernel_rfl))
  f219 := Tryd.func51.trans (congrArg some (by kernel_rfl))
  f224 := Tryd.func65.trans (congrArg some (by kernel_rfl))
  f225 := Tryd.func66.trans (congrArg some (by kernel_rfl))
  f266 := Tryd.func82.trans (congrArg some (by kernel_rfl))
  f267 := Tryd.func69.trans (congrArg some (by kernel_rfl))
  f314 := Tryd.func83.trans (congrArg some (by kernel_rfl))
  t3 := Tryd.underlying3
  a3 := Tryd.isAgg3
  z3 := Tryd.sizeOf3
  v3 := Tryd.zeroValue3
  t4 := Tryd.underlying4
  a4 := Tryd.isAgg4
  z4 := Tryd.sizeOf4
  v4 := Tryd.zeroValue4
  t5 := Tryd.underlying5
  a5 := Tryd.isAgg5
  z5 := Tryd.sizeOf5
  v5 := Tryd.zeroValue5
  t9 := Tryd.underlying9
  a9 := Tryd.isAgg9
  z9 := Tryd.sizeOf9
  v9 := Tryd.zeroValue9
  t46 := Tryd.underlying44
  a46 := Tryd.isAgg44
  z46 := Tryd.sizeOf44
  v46 := Tryd.zeroValue44
  t51 := Tryd.underlying67
  a51 := Tryd.isAgg67
  z51 := Tryd.sizeOf67
  v51 := Tryd.zeroValue67
  t146 := Tryd.underlying101
  a146 := Tryd.isAgg101
  z146 := Tryd.sizeOf101
  v146 := Tryd.zeroValue101
  g1 := by kernel_rfl }
open Go.RowKit Go.Lib in
theorem Tryd.strings_Contains_one (s : ByteArray) (c : UInt8) (w : World) :
    Calls Tryd.prog 27 #[.string s, .string ⟨#[c]⟩] w fun e w' => e = .returned (.bool (decide (0 ≤ Lib.indexByte s.data.toList c))) ∧ w' = w := Any.strings_Contains_one Tryd.lays144 s c w
open Go.RowKit Go.Lib in
theorem Tryd.strings_Contains (s sub : ByteArray) (m : Int) (w : World) (hs : s.size < 4294967281) (hm : w.cell? ⟨2, 0, none⟩ = some (.int .i64 m)) :
    Calls Tryd.prog 27 #[.string s, .string sub] w fun e w' => e = .returned (.bool (Lib.contains s.data.toList sub.data.toList)) ∧ w' = w := Any.strings_Contains Tryd.lays144 s sub m w hs hm
def Tryd.lays145_ren : Go.Shelf.Ren := ⟨fun | 145 => 25 | 220 => 37 | 219 => 51 | 217 => 68 | 225 => 66 | 224 => 65 | 267 => 69 | 266 => 82 | 314 => 83 | n => n, fun | 9 => 9 | 4 => 4 | 59 => 37 | 3 => 3 | 5 => 5 | 46 => 44 | 146 => 101 | 51 => 67 | n => n, fun | 1 => 2 | n => n⟩
theorem Tryd.lays145 : Go.Proofs.Lays.n145 Tryd.prog Tryd.lays145_ren := {
  mixed := by kernel_rfl
  f145 := Tryd.func25.trans (congrArg some (by kernel_rfl))
  f217 := Tryd.func68.trans (congrArg some (by kernel_rfl))
  f219 := Tryd.func51.trans (congrArg some (by kernel_rfl))
  f220 := Tryd.func37.trans (congrArg some (by kernel_rfl))
  f224 := Tryd.func65.trans (congrArg some (by kernel_rfl))
  f225 := Tryd.func66.trans (congrArg some (by kernel_rfl))
  f266 := Tryd.func82.trans (congrArg some (by kernel_rfl))
  f267 := Tryd.func69.trans (congrArg some (by kernel_rfl))
  f314 := Tryd.func83.trans (congrArg some (by kernel_rfl))
  t3 := Tryd.underlying3
  a3 := Tryd.isAgg3
  z3 := Tryd.sizeOf3
  v3 := Tryd.zeroValue3
  t4 := Tryd.underlying4
  a4 := Tryd.isAgg4
  z4 := Tryd.sizeOf4
  v4 := Tryd.zeroValue4
  t5 := Tryd.underlying5
  a5 := Tryd.isAgg5
  z5 := Tryd.sizeOf5
  v5 := Tryd.zeroValue5
  t9 := Tryd.underlying9
  a9 := Tryd.isAgg9
  z9 := Tryd.sizeOf9
  v9 := Tryd.zeroValue9
  t46 := Tryd.underlying44
  a46 := Tryd.isAgg44
  z46 := Tryd.sizeOf44
  v46 := Tryd.zeroValue44
  t51 := Tryd.underlying67
  a51 := Tryd.isAgg67
  z51 := Tryd.sizeOf67
  v51 := Tryd.zeroValue67
  t59 := Tryd.underlying37
  a59 := Tryd.isAgg37
  z59 := Tryd.sizeOf37
  v59 := Tryd.zeroValue37
  t146 := Tryd.underlying101
  a146 := Tryd.isAgg101
  z146 := Tryd.sizeOf101
  v146 := Tryd.zeroValue101
  g1 := by kernel_rfl }
open Go.RowKit Go.Lib in
theorem Tryd.strings_Cut (s sep : ByteArray) (m : Int) (w : World) (hs : s.size < 4294967281) (hm : w.cell? ⟨2, 0, none⟩ = some (.int .i64 m)) :
    Calls Tryd.prog 25 #[.string s, .string sep] w fun e w' => e = .returned (.tuple #[.string ⟨(Lib.cut s.data.toList sep.data.toList).1.toArray⟩, .string ⟨(Lib.cut s.data.toList sep.data.toList).2.1.toArray⟩, .bool (Lib.cut s.data.toList sep.data.toList).2.2]) ∧ ∃ n, w' = w.drewN n := Any.strings_Cut Tryd.lays145 s sep m w hs hm
def Tryd.laysM145_ren : Go.Shelf.Ren := ⟨fun | 145 => 25 | 220 => 37 | 219 => 51 | 217 => 68 | 225 => 66 | 224 => 65 | 267 => 69 | 266 => 82 | 314 => 83 | n => n, fun | 9 => 9 | 4 => 4 | 59 => 37 | 3 => 3 | 5 => 5 | 46 => 44 | 146 => 101 | 51 => 67 | n => n, fun | 1 => 2 | n => n⟩
theorem Tryd.laysM145 : Go.Proofs.LaysM.n145 Tryd.prog Tryd.laysM145_ren := {
  mixed := by kernel_rfl
  f145 := Tryd.func25.trans (congrArg some (by kernel_rfl))
  f217 := Tryd.func68.trans (congrArg some (by kernel_rfl))
  f219 := Tryd.func51.trans (congrArg some (by kernel_rfl))
  f220 := Tryd.func37.trans (congrArg some (by kernel_rfl))
  f224 := Tryd.func65.trans (congrArg some (by kernel_rfl))
  f225 := Tryd.func66.trans (congrArg some (by kernel_rfl))
  f266 := Tryd.func82.trans (congrArg some (by kernel_rfl))
  f267 := Tryd.func69.trans (congrArg some (by kernel_rfl))
  f314 := Tryd.func83.trans (congrArg some (by kernel_rfl))
  t3 := Tryd.underlying3
  a3 := Tryd.isAgg3
  z3 := Tryd.sizeOf3
  v3 := Tryd.zeroValue3
  t4 := Tryd.underlying4
  a4 := Tryd.isAgg4
  z4 := Tryd.sizeOf4
  v4 := Tryd.zeroValue4
  t5 := Tryd.underlying5
  a5 := Tryd.isAgg5
  z5 := Tryd.sizeOf5
  v5 := Tryd.zeroValue5
  t9 := Tryd.underlying9
  a9 := Tryd.isAgg9
  z9 := Tryd.sizeOf9
  v9 := Tryd.zeroValue9
  t46 := Tryd.underlying44
  a46 := Tryd.isAgg44
  z46 := Tryd.sizeOf44
  v46 := Tryd.zeroValue44
  t51 := Tryd.underlying67
  a51 := Tryd.isAgg67
  z51 := Tryd.sizeOf67
  v51 := Tryd.zeroValue67
  t59 := Tryd.underlying37
  a59 := Tryd.isAgg37
  z59 := Tryd.sizeOf37
  v59 := Tryd.zeroValue37
  t146 := Tryd.underlying101
  a146 := Tryd.isAgg101
  z146 := Tryd.sizeOf101
  v146 := Tryd.zeroValue101
  g1 := by kernel_rfl
  i3 := by kernel_rfl
  i4 := by kernel_rfl
  i5 := by kernel_rfl
  i9 := by kernel_rfl
  i46 := by kernel_rfl
  i51 := by kernel_rfl
  i59 := by kernel_rfl
  i146 := by kernel_rfl
  m1 := by kernel_rfl
  s1_3 := fun w h => Go.Proofs.cell_of_shapedOpen_int (zero := #[.int .i64 0]) (t := 3) h (of_decide_eq_true (by kernel_rfl)) (by kernel_rfl) rfl (by kernel_rfl) (by kernel_rfl) Tryd.underlying3 }
open Go.RowKit in
theorem Tryd.strings_TrimSpace_any (s : ByteArray) (w : World) (hs : s.size ≤ 9223372036854775807) (htab : Lib.TabIs Tryd.prog w "strings.asciiSpace" .u8 Lib.asciiSpaceTab) (hU8 : Lib.Utf8Tabs 5 6 w) (hWS : Lib.WhiteTab 1 w) :
    Calls Tryd.prog 26 #[.string s] w fun e w' => e = .returned (.string ⟨(Lib.trimSpaceD s.data.toList).toArray⟩) ∧ Below w.heap.size w w' := Any.strings_TrimSpace_any Tryd.lays163 Tryd.Space_Extra_163 s w hs htab hU8 hWS
end Go.Proofs
