/- The shelf's contracts at this dump, in plain words (written by the kit's lay-shelf and lay-plain). -/
import Derived.Shelf.Strings.TrimSpace
import Derived.Shelf.Small.Utf8
import Derived.Shelf.Small.Strs
import Derived.Shelf.Small.Wraps
import Derived.Shelf.Strconv.Atoi
import Derived.Shelf.Strconv.AtoiErrFast
import Derived.Shelf.Strconv.ParseIntEmpty
import Derived.Shelf.Strconv.AtoiFail
import Derived.Shelf.LaysM
import Derived.Shelf.Strconv.Clone
import Derived.Shelf.Strconv.SyntaxError
import Derived.Shelf.LaysC
import Derived.Shelf.Strconv.ToError
import Derived.Shelf.Strconv.Lower
import Derived.Shelf.Strconv.ParseUint10
import Derived.Shelf.Strconv.ParseUint10Empty
import Derived.Shelf.Strconv.ParseUint10Any
import Derived.Shelf.Strconv.ParseInt10
import Derived.Shelf.Strconv.AtoiLong
import Derived.Shelf.Strconv.AtoiInnerAll
import Derived.Shelf.Strconv.RangeError
import Derived.Shelf.Strconv.ToErrorRange
import Derived.Shelf.Strconv.AtoiAll
import Derived.Shelf.Strings.Search1
import Derived.Shelf.Strings.Search2
import Derived.Shelf.Strings.Search3
import Derived.Shelf.Strings.Cut
import Derived.Shelf.Strings.Count
import Derived.Shelf.Strings.Shaped
import Derived.Shelf.Strings.Prefix
import Derived.Shelf.Unicode.Latin
import Derived.Shelf.Strings.Runes
import Derived.Shelf.Strings.IndexAny
import Derived.Shelf.Strings.AsciiSet
import Derived.Shelf.Strings.IndexAnyAll
import Derived.Shelf.Unicode.DecodeSlow
import Derived.Shelf.Unicode.DecodeAny
import Derived.Shelf.Unicode.Is16White
import Derived.Shelf.Unicode.IsSpaceAny
import Derived.Shelf.Unicode.DecodeLast
import Derived.Shelf.Strings.TrimSpaceAny
import Derived.Shelf.Unicode.Is16Any
import Derived.Shelf.Unicode.Is32Any
import Derived.Shelf.Unicode.ExclAny
import Derived.Test.Qxb6606157aDoorProg
namespace Go.Proofs
open Go.Shelf
def Tryd.lays199_ren : Go.Shelf.Ren := ⟨fun | 199 => 39 | 261 => 53 | 311 => 71 | 312 => 72 | n => n, fun | 21 => 21 | 4 => 4 | 51 => 67 | 141 => 69 | 0 => 0 | 196 => 87 | 193 => 84 | 3 => 3 | 198 => 90 | 49 => 88 | 194 => 85 | 201 => 93 | 226 => 103 | 46 => 44 | 227 => 104 | n => n, fun | 6 => 1 | n => n⟩
theorem Tryd.lays199 : Go.Proofs.Lays.n199 Tryd.prog Tryd.lays199_ren := {
  mixed := by kernel_rfl
  f199 := Tryd.func39.trans (congrArg some (by kernel_rfl))
  f261 := Tryd.func53.trans (congrArg some (by kernel_rfl))
  f311 := Tryd.func71.trans (congrArg some (by kernel_rfl))
  f312 := Tryd.func72.trans (congrArg some (by kernel_rfl))
  t0 := Tryd.underlying0
  a0 := Tryd.isAgg0
  z0 := Tryd.sizeOf0
  v0 := Tryd.zeroValue0
  t3 := Tryd.underlying3
  a3 := Tryd.isAgg3
  z3 := Tryd.sizeOf3
  v3 := Tryd.zeroValue3
  t4 := Tryd.underlying4
  a4 := Tryd.isAgg4
  z4 := Tryd.sizeOf4
  v4 := Tryd.zeroValue4
  t21 := Tryd.underlying21
  a21 := Tryd.isAgg21
  z21 := Tryd.sizeOf21
  v21 := Tryd.zeroValue21
  t46 := Tryd.underlying44
  a46 := Tryd.isAgg44
  z46 := Tryd.sizeOf44
  v46 := Tryd.zeroValue44
  t49 := Tryd.underlying88
  a49 := Tryd.isAgg88
  z49 := Tryd.sizeOf88
  v49 := Tryd.zeroValue88
  t51 := Tryd.underlying67
  a51 := Tryd.isAgg67
  z51 := Tryd.sizeOf67
  v51 := Tryd.zeroValue67
  t141 := Tryd.underlying69
  a141 := Tryd.isAgg69
  z141 := Tryd.sizeOf69
  v141 := Tryd.zeroValue69
  t193 := Tryd.underlying84
  a193 := Tryd.isAgg84
  z193 := Tryd.sizeOf84
  v193 := Tryd.zeroValue84
  t194 := Tryd.underlying85
  a194 := Tryd.isAgg85
  z194 := Tryd.sizeOf85
  v194 := Tryd.zeroValue85
  t196 := Tryd.underlying87
  a196 := Tryd.isAgg87
  z196 := Tryd.sizeOf87
  v196 := Tryd.zeroValue87
  t198 := Tryd.underlying90
  a198 := Tryd.isAgg90
  z198 := Tryd.sizeOf90
  v198 := Tryd.zeroValue90
  t201 := Tryd.underlying93
  a201 := Tryd.isAgg93
  z201 := Tryd.sizeOf93
  v201 := Tryd.zeroValue93
  t226 := Tryd.underlying103
  a226 := Tryd.isAgg103
  z226 := Tryd.sizeOf103
  v226 := Tryd.zeroValue103
  t227 := Tryd.underlying104
  a227 := Tryd.isAgg104
  z227 := Tryd.sizeOf104
  v227 := Tryd.zeroValue104
  g6 := by kernel_rfl }
def Tryd.lays260_ren : Go.Shelf.Ren := ⟨fun | 260 => 74 | n => n, fun | 9 => 9 | 21 => 21 | 3 => 3 | 4 => 4 | 5 => 5 | 119 => 56 | 0 => 0 | 46 => 44 | 139 => 107 | 138 => 106 | n => n, fun | 3 => 5 | 4 => 6 | n => n⟩
theorem Tryd.lays260 : Go.Proofs.Lays.n260 Tryd.prog Tryd.lays260_ren := {
  mixed := by kernel_rfl
  f260 := Tryd.func74.trans (congrArg some (by kernel_rfl))
  t0 := Tryd.underlying0
  a0 := Tryd.isAgg0
  z0 := Tryd.sizeOf0
  v0 := Tryd.zeroValue0
  t3 := Tryd.underlying3
  a3 := Tryd.isAgg3
  z3 := Tryd.sizeOf3
  v3 := Tryd.zeroValue3
  t4 := Tryd.underlying4
  a4 := Tryd.isAgg4
  z4 := Tryd.sizeOf4
  v4 := Tryd.zeroValue4
  t5 := Tryd.underlying5
  a5 := Tryd.isAgg5
  z5 := Tryd.sizeOf5
  v5 := Tryd.zeroValue5
  t9 := Tryd.underlying9
  a9 := Tryd.isAgg9
  z9 := Tryd.sizeOf9
  v9 := Tryd.zeroValue9
  t21 := Tryd.underlying21
  a21 := Tryd.isAgg21
  z21 := Tryd.sizeOf21
  v21 := Tryd.zeroValue21
  t46 := Tryd.underlying44
  a46 := Tryd.isAgg44
  z46 := Tryd.sizeOf44
  v46 := Tryd.zeroValue44
  t119 := Tryd.underlying56
  a119 := Tryd.isAgg56
  z119 := Tryd.sizeOf56
  t138 := Tryd.underlying106
  a138 := Tryd.isAgg106
  z138 := Tryd.sizeOf106
  v138 := Tryd.zeroValue106
  t139 := Tryd.underlying107
  a139 := Tryd.isAgg107
  z139 := Tryd.sizeOf107
  v139 := Tryd.zeroValue107
  g3 := by kernel_rfl
  g4 := by kernel_rfl }
end Go.Proofs
