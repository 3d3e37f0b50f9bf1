/- The shelf's contracts at this dump, in plain words (written by the kit's lay-shelf and lay-plain). -/
import Derived.Shelf.Strings.Builder1
import Derived.Shelf.Strings.Builder2
import Derived.Shelf.Small.Utf8
import Derived.Shelf.Strings.BuilderF
import Derived.Shelf.Strings.BuilderK
import Derived.Shelf.Strings.BuilderRune
import Derived.Shelf.Strings.Builder2Cap
import Derived.Shelf.Strconv.Itoa0
import Derived.Shelf.LaysM
import Derived.Shelf.Bytes.Len
import Derived.Shelf.Bytes.TryGrow
import Derived.Shelf.Bytes.GrowSliceCatch
import Derived.Shelf.Bytes.GrowSlice
import Derived.Shelf.Bytes.Bytes
import Derived.Shelf.Bytes.GrowRow0Kept
import Derived.Shelf.Bytes.GrowRowKept
import Derived.Shelf.Bytes.GrowNilKept
import Derived.Shelf.Bytes.GrowKept
import Derived.Shelf.Bytes.WriteStringKept
import Derived.Shelf.Bytes.WriteKept
import Derived.Shelf.Bytes.GrowRow0Own
import Derived.Shelf.Bytes.GrowRowOwn
import Derived.Shelf.Bytes.GrowNilOwn
import Derived.Shelf.Bytes.GrowOwn
import Derived.Shelf.Bytes.WriteAny
import Derived.Shelf.Unicode.DecodeSlow
import Derived.Shelf.Unicode.DecodeAny
import Derived.Shelf.Strings.MapAny
import Derived.Shelf.Strings.BuilderCap
import Derived.Shelf.Strings.MapGrows
import Derived.Ground.SlbCloneProg
import Derived.Shelf.Bytes.SlClone
import Derived.Test.Qxb6612590aDoorProg
namespace Go.Proofs
open Go.Shelf
def Tryd.laysM181_ren : Go.Shelf.Ren := ⟨fun | 181 => 85 | n => n, fun | 130 => 41 | 3 => 3 | 0 => 0 | 93 => 45 | 37 => 24 | 91 => 43 | 5 => 5 | n => n, fun | n => n⟩
theorem Tryd.laysM181 : Go.Proofs.LaysM.n181 Tryd.prog Tryd.laysM181_ren := {
  mixed := by kernel_rfl
  f181 := Tryd.func85.trans (congrArg some (by kernel_rfl))
  t0 := Tryd.underlying0
  a0 := Tryd.isAgg0
  z0 := Tryd.sizeOf0
  v0 := Tryd.zeroValue0
  t3 := Tryd.underlying3
  a3 := Tryd.isAgg3
  z3 := Tryd.sizeOf3
  v3 := Tryd.zeroValue3
  t37 := Tryd.underlying24
  a37 := Tryd.isAgg24
  z37 := Tryd.sizeOf24
  v37 := Tryd.zeroValue24
  t93 := Tryd.underlying45
  a93 := Tryd.isAgg45
  z93 := Tryd.sizeOf45
  v93 := Tryd.zeroValue45
  t130 := Tryd.underlying41
  a130 := Tryd.isAgg41
  z130 := Tryd.sizeOf41
  v130 := Tryd.zeroValue41
  t5 := Tryd.underlying5
  a5 := Tryd.isAgg5
  z5 := Tryd.sizeOf5
  v5 := Tryd.zeroValue5
  t91 := Tryd.underlying43
  a91 := Tryd.isAgg43
  z91 := Tryd.sizeOf43
  v91 := Tryd.zeroValue43
  i0 := by kernel_rfl
  i3 := by kernel_rfl
  i5 := by kernel_rfl
  i37 := by kernel_rfl
  i91 := by kernel_rfl
  i93 := by kernel_rfl
  i130 := by kernel_rfl }
open Go.RowKit in
theorem Tryd.Buffer_Len (B b : Nat) (bs : List Value) (w : World) (h : Lib.IsBuffer 45 5 B b bs w) :
    Calls Tryd.prog 85 #[.pointer (some ⟨b, 0, none⟩)] w fun e w' => e = .returned (.int .i64 bs.length) ∧ ∃ n, w' = w.drewN n := Any.Buffer_Len Tryd.laysM181 B b bs w h
def Tryd.laysM251_ren : Go.Shelf.Ren := ⟨fun | 251 => 83 | n => n, fun | 130 => 41 | 3 => 3 | 4 => 4 | 0 => 0 | 93 => 45 | 37 => 24 | 91 => 43 | 5 => 5 | n => n, fun | n => n⟩
theorem Tryd.laysM251 : Go.Proofs.LaysM.n251 Tryd.prog Tryd.laysM251_ren := {
  mixed := by kernel_rfl
  f251 := Tryd.func83.trans (congrArg some (by kernel_rfl))
  t0 := Tryd.underlying0
  a0 := Tryd.isAgg0
  z0 := Tryd.sizeOf0
  v0 := Tryd.zeroValue0
  t3 := Tryd.underlying3
  a3 := Tryd.isAgg3
  z3 := Tryd.sizeOf3
  v3 := Tryd.zeroValue3
  t4 := Tryd.underlying4
  a4 := Tryd.isAgg4
  z4 := Tryd.sizeOf4
  v4 := Tryd.zeroValue4
  t37 := Tryd.underlying24
  a37 := Tryd.isAgg24
  z37 := Tryd.sizeOf24
  v37 := Tryd.zeroValue24
  t93 := Tryd.underlying45
  a93 := Tryd.isAgg45
  z93 := Tryd.sizeOf45
  v93 := Tryd.zeroValue45
  t130 := Tryd.underlying41
  a130 := Tryd.isAgg41
  z130 := Tryd.sizeOf41
  v130 := Tryd.zeroValue41
  t5 := Tryd.underlying5
  a5 := Tryd.isAgg5
  z5 := Tryd.sizeOf5
  v5 := Tryd.zeroValue5
  t91 := Tryd.underlying43
  a91 := Tryd.isAgg43
  z91 := Tryd.sizeOf43
  v91 := Tryd.zeroValue43
  i0 := by kernel_rfl
  i3 := by kernel_rfl
  i4 := by kernel_rfl
  i5 := by kernel_rfl
  i37 := by kernel_rfl
  i91 := by kernel_rfl
  i93 := by kernel_rfl
  i130 := by kernel_rfl }
open Go.RowKit in
theorem Tryd.Buffer_tryGrow_room (b : Nat) (ao : Option Addr) (l cap n : Nat) (w : World) (c0 : w.cell? ⟨b, 0, none⟩ = some (.slice ao l cap)) (f0 : w.frozen? ⟨b, 0, none⟩ = false) (hlc : l ≤ cap) (hcap : cap ≤ maxLen) (hn : n ≤ cap - l) :
    Calls Tryd.prog 83 #[.pointer (some ⟨b, 0, none⟩), .int .i64 n] w fun e w' => e = .returned (.tuple #[.int .i64 l, .bool true]) ∧ w' = w.setCell ⟨b, 0, none⟩ (.slice ao (l + n) cap) := Any.Buffer_tryGrow_room Tryd.laysM251 b ao l cap n w c0 f0 hlc hcap hn
open Go.RowKit in
theorem Tryd.Buffer_tryGrow_none (b : Nat) (ao : Option Addr) (l cap n : Nat) (w : World) (c0 : w.cell? ⟨b, 0, none⟩ = some (.slice ao l cap)) (hlc : l ≤ cap) (hcap : cap ≤ maxLen) (hn : cap - l < n) :
    Calls Tryd.prog 83 #[.pointer (some ⟨b, 0, none⟩), .int .i64 n] w fun e w' => e = .returned (.tuple #[.int .i64 0, .bool false]) ∧ w' = w := Any.Buffer_tryGrow_none Tryd.laysM251 b ao l cap n w c0 hlc hcap hn
def Tryd.laysM290_ren : Go.Shelf.Ren := ⟨fun | 290 => 86 | 324 => 87 | n => n, fun | 37 => 24 | 3 => 3 | 0 => 0 | 4 => 4 | 20 => 20 | 75 => 50 | 5 => 5 | 80 => 81 | 9 => 9 | n => n, fun | 14 => 7 | n => n⟩
theorem Tryd.laysM290 : Go.Proofs.LaysM.n290 Tryd.prog Tryd.laysM290_ren := {
  mixed := by kernel_rfl
  f290 := Tryd.func86.trans (congrArg some (by kernel_rfl))
  f324 := Tryd.func87.trans (congrArg some (by kernel_rfl))
  t0 := Tryd.underlying0
  a0 := Tryd.isAgg0
  z0 := Tryd.sizeOf0
  v0 := Tryd.zeroValue0
  t3 := Tryd.underlying3
  a3 := Tryd.isAgg3
  z3 := Tryd.sizeOf3
  v3 := Tryd.zeroValue3
  t4 := Tryd.underlying4
  a4 := Tryd.isAgg4
  z4 := Tryd.sizeOf4
  v4 := Tryd.zeroValue4
  t20 := Tryd.underlying20
  a20 := Tryd.isAgg20
  z20 := Tryd.sizeOf20
  v20 := Tryd.zeroValue20
  t37 := Tryd.underlying24
  a37 := Tryd.isAgg24
  z37 := Tryd.sizeOf24
  v37 := Tryd.zeroValue24
  t75 := Tryd.underlying50
  a75 := Tryd.isAgg50
  z75 := Tryd.sizeOf50
  v75 := Tryd.zeroValue50
  g14 := by kernel_rfl
  t5 := Tryd.underlying5
  a5 := Tryd.isAgg5
  z5 := Tryd.sizeOf5
  v5 := Tryd.zeroValue5
  t9 := Tryd.underlying9
  a9 := Tryd.isAgg9
  z9 := Tryd.sizeOf9
  v9 := Tryd.zeroValue9
  t80 := Tryd.underlying81
  a80 := Tryd.isAgg81
  z80 := Tryd.sizeOf81
  v80 := Tryd.zeroValue81
  i0 := by kernel_rfl
  i3 := by kernel_rfl
  i4 := by kernel_rfl
  i5 := by kernel_rfl
  i9 := by kernel_rfl
  i20 := by kernel_rfl
  i37 := by kernel_rfl
  i75 := by kernel_rfl
  i80 := by kernel_rfl
  m14 := by kernel_rfl }
open Go.RowKit in
theorem Tryd.bytes_growSlice_row (g l c n : Nat) (cur : Array Value) (w : World) (hg : w.heap[g]? = some (.cells cur 5 (0, 0))) (hcs : cur.size = c) (hlc : l ≤ c) (hn : 1 ≤ n) (hlim : l + n ≤ 140737488355328) (hc2 : c ≤ 140737488355328) (h1 : ∀ v ∈ cur.toList.take l, v.oneCell' = true) :
    Calls Tryd.prog 86 #[.slice (some ⟨g, 0, none⟩) l c, .int .i64 n] w fun e w' => ∃ cap2 cells, e = .returned (.slice (some ⟨w.heap.size, 0, none⟩) l cap2) ∧ w'.heap[w.heap.size]? = some (.cells cells 5 (0, 0)) ∧
      cells.size = cap2 ∧ cells.toList.take l = cur.toList.take l ∧ l + n ≤ cap2 ∧ cap2 ≤ maxLen ∧ Below w.heap.size w w' := Any.bytes_growSlice_row Tryd.laysM290 g l c n cur w hg hcs hlc hn hlim hc2 h1
open Go.RowKit in
theorem Tryd.bytes_growSlice_nil (n : Nat) (w : World) (hn : 1 ≤ n) (hlim : n ≤ 140737488355328) :
    Calls Tryd.prog 86 #[.slice none 0 0, .int .i64 n] w fun e w' => ∃ cap2 cells, e = .returned (.slice (some ⟨w.heap.size, 0, none⟩) 0 cap2) ∧ w'.heap[w.heap.size]? = some (.cells cells 5 (0, 0)) ∧
      cells.size = cap2 ∧ n ≤ cap2 ∧ cap2 ≤ maxLen ∧ Below w.heap.size w w' := Any.bytes_growSlice_nil Tryd.laysM290 n w hn hlim
def Tryd.laysM183_ren : Go.Shelf.Ren := ⟨fun | 183 => 28 | n => n, fun | 130 => 41 | 37 => 24 | 0 => 0 | 93 => 45 | 3 => 3 | 5 => 5 | 91 => 43 | n => n, fun | n => n⟩
theorem Tryd.laysM183 : Go.Proofs.LaysM.n183 Tryd.prog Tryd.laysM183_ren := {
  mixed := by kernel_rfl
  f183 := Tryd.func28.trans (congrArg some (by kernel_rfl))
  t0 := Tryd.underlying0
  a0 := Tryd.isAgg0
  z0 := Tryd.sizeOf0
  v0 := Tryd.zeroValue0
  t3 := Tryd.underlying3
  a3 := Tryd.isAgg3
  z3 := Tryd.sizeOf3
  v3 := Tryd.zeroValue3
  t37 := Tryd.underlying24
  a37 := Tryd.isAgg24
  z37 := Tryd.sizeOf24
  v37 := Tryd.zeroValue24
  t93 := Tryd.underlying45
  a93 := Tryd.isAgg45
  z93 := Tryd.sizeOf45
  v93 := Tryd.zeroValue45
  t130 := Tryd.underlying41
  a130 := Tryd.isAgg41
  z130 := Tryd.sizeOf41
  v130 := Tryd.zeroValue41
  t5 := Tryd.underlying5
  a5 := Tryd.isAgg5
  z5 := Tryd.sizeOf5
  v5 := Tryd.zeroValue5
  t91 := Tryd.underlying43
  a91 := Tryd.isAgg43
  z91 := Tryd.sizeOf43
  v91 := Tryd.zeroValue43
  i0 := by kernel_rfl
  i3 := by kernel_rfl
  i5 := by kernel_rfl
  i37 := by kernel_rfl
  i91 := by kernel_rfl
  i93 := by kernel_rfl
  i130 := by kernel_rfl }
open Go.RowKit in
theorem Tryd.Buffer_Bytes (B b : Nat) (bs : List Value) (w : World) (h : Lib.IsBuffer 45 5 B b bs w) :
    Calls Tryd.prog 28 #[.pointer (some ⟨b, 0, none⟩)] w fun e w' => ∃ v, e = .returned v ∧ w'.ownsRow B 5 1 v bs.length bs ∧ ∃ n, w' = w.drewN n := Any.Buffer_Bytes Tryd.laysM183 B b bs w h
def Tryd.lays260_ren : Go.Shelf.Ren := ⟨fun | 260 => 44 | n => n, fun | 9 => 9 | 21 => 21 | 3 => 3 | 4 => 4 | 5 => 5 | 119 => 86 | 0 => 0 | 46 => 87 | 139 => 90 | 138 => 89 | n => n, fun | 3 => 1 | 4 => 2 | n => n⟩
theorem Tryd.lays260 : Go.Proofs.Lays.n260 Tryd.prog Tryd.lays260_ren := {
  mixed := by kernel_rfl
  f260 := Tryd.func44.trans (congrArg some (by kernel_rfl))
  t0 := Tryd.underlying0
  a0 := Tryd.isAgg0
  z0 := Tryd.sizeOf0
  v0 := Tryd.zeroValue0
  t3 := Tryd.underlying3
  a3 := Tryd.isAgg3
  z3 := Tryd.sizeOf3
  v3 := Tryd.zeroValue3
  t4 := Tryd.underlying4
  a4 := Tryd.isAgg4
  z4 := Tryd.sizeOf4
  v4 := Tryd.zeroValue4
  t5 := Tryd.underlying5
  a5 := Tryd.isAgg5
  z5 := Tryd.sizeOf5
  v5 := Tryd.zeroValue5
  t9 := Tryd.underlying9
  a9 := Tryd.isAgg9
  z9 := Tryd.sizeOf9
  v9 := Tryd.zeroValue9
  t21 := Tryd.underlying21
  a21 := Tryd.isAgg21
  z21 := Tryd.sizeOf21
  v21 := Tryd.zeroValue21
  t46 := Tryd.underlying87
  a46 := Tryd.isAgg87
  z46 := Tryd.sizeOf87
  v46 := Tryd.zeroValue87
  t119 := Tryd.underlying86
  a119 := Tryd.isAgg86
  z119 := Tryd.sizeOf86
  t138 := Tryd.underlying89
  a138 := Tryd.isAgg89
  z138 := Tryd.sizeOf89
  v138 := Tryd.zeroValue89
  t139 := Tryd.underlying90
  a139 := Tryd.isAgg90
  z139 := Tryd.sizeOf90
  v139 := Tryd.zeroValue90
  g3 := by kernel_rfl
  g4 := by kernel_rfl }
def Tryd.lays230_ren : Go.Shelf.Ren := ⟨fun | 230 => 24 | 197 => 35 | 118 => 36 | 165 => 37 | 166 => 38 | 168 => 39 | 270 => 40 | 167 => 41 | 169 => 42 | 260 => 44 | 240 => 45 | 241 => 46 | 242 => 47 | 276 => 49 | 277 => 50 | 278 => 51 | n => n, fun | 107 => 58 | 9 => 9 | 72 => 76 | 0 => 0 | 4 => 4 | 3 => 3 | 21 => 21 | 105 => 77 | 76 => 55 | 5 => 5 | 75 => 50 | 70 => 74 | 20 => 20 | 37 => 24 | 127 => 84 | 119 => 86 | 46 => 87 | 139 => 90 | 138 => 89 | 164 => 91 | 51 => 94 | 80 => 81 | n => n, fun | 3 => 1 | 4 => 2 | n => n⟩
theorem Tryd.lays230 : Go.Proofs.Lays.n230 Tryd.prog Tryd.lays230_ren := {
  mixed := by kernel_rfl
  f118 := Tryd.func36.trans (congrArg some (by kernel_rfl))
  f165 := Tryd.func37.trans (congrArg some (by kernel_rfl))
  f166 := Tryd.func38.trans (congrArg some (by kernel_rfl))
  f167 := Tryd.func41.trans (congrArg some (by kernel_rfl))
  f168 := Tryd.func39.trans (congrArg some (by kernel_rfl))
  f169 := Tryd.func42.trans (congrArg some (by kernel_rfl))
  f197 := Tryd.func35.trans (congrArg some (by kernel_rfl))
  f230 := Tryd.func24.trans (congrArg some (by kernel_rfl))
  f240 := Tryd.func45.trans (congrArg some (by kernel_rfl))
  f241 := Tryd.func46.trans (congrArg some (by kernel_rfl))
  f242 := Tryd.func47.trans (congrArg some (by kernel_rfl))
  f260 := Tryd.func44.trans (congrArg some (by kernel_rfl))
  f270 := Tryd.func40.trans (congrArg some (by kernel_rfl))
  f276 := Tryd.func49.trans (congrArg some (by kernel_rfl))
  f277 := Tryd.func50.trans (congrArg some (by kernel_rfl))
  f278 := Tryd.func51.trans (congrArg some (by kernel_rfl))
  t0 := Tryd.underlying0
  a0 := Tryd.isAgg0
  z0 := Tryd.sizeOf0
  v0 := Tryd.zeroValue0
  t3 := Tryd.underlying3
  a3 := Tryd.isAgg3
  z3 := Tryd.sizeOf3
  v3 := Tryd.zeroValue3
  t4 := Tryd.underlying4
  a4 := Tryd.isAgg4
  z4 := Tryd.sizeOf4
  v4 := Tryd.zeroValue4
  t5 := Tryd.underlying5
  a5 := Tryd.isAgg5
  z5 := Tryd.sizeOf5
  v5 := Tryd.zeroValue5
  t9 := Tryd.underlying9
  a9 := Tryd.isAgg9
  z9 := Tryd.sizeOf9
  v9 := Tryd.zeroValue9
  t20 := Tryd.underlying20
  a20 := Tryd.isAgg20
  z20 := Tryd.sizeOf20
  v20 := Tryd.zeroValue20
  t21 := Tryd.underlying21
  a21 := Tryd.isAgg21
  z21 := Tryd.sizeOf21
  v21 := Tryd.zeroValue21
  t37 := Tryd.underlying24
  a37 := Tryd.isAgg24
  z37 := Tryd.sizeOf24
  v37 := Tryd.zeroValue24
  t46 := Tryd.underlying87
  a46 := Tryd.isAgg87
  z46 := Tryd.sizeOf87
  v46 := Tryd.zeroValue87
  t51 := Tryd.underlying94
  a51 := Tryd.isAgg94
  z51 := Tryd.sizeOf94
  v51 := Tryd.zeroValue94
  t70 := Tryd.underlying74
  a70 := Tryd.isAgg74
  z70 := Tryd.sizeOf74
  v70 := Tryd.zeroValue74
  t72 := Tryd.underlying76
  a72 := Tryd.isAgg76
  z72 := Tryd.sizeOf76
  v72 := Tryd.zeroValue76
  t75 := Tryd.underlying50
  a75 := Tryd.isAgg50
  z75 := Tryd.sizeOf50
  v75 := Tryd.zeroValue50
  t76 := Tryd.underlying55
  a76 := Tryd.isAgg55
  z76 := Tryd.sizeOf55
  v76 := Tryd.zeroValue55
  t105 := Tryd.underlying77
  a105 := Tryd.isAgg77
  z105 := Tryd.sizeOf77
  v105 := Tryd.zeroValue77
  t107 := Tryd.underlying58
  a107 := Tryd.isAgg58
  z107 := Tryd.sizeOf58
  v107 := Tryd.zeroValue58
  t119 := Tryd.underlying86
  a119 := Tryd.isAgg86
  z119 := Tryd.sizeOf86
  t127 := Tryd.underlying84
  a127 := Tryd.isAgg84
  z127 := Tryd.sizeOf84
  v127 := Tryd.zeroValue84
  t138 := Tryd.underlying89
  a138 := Tryd.isAgg89
  z138 := Tryd.sizeOf89
  v138 := Tryd.zeroValue89
  t139 := Tryd.underlying90
  a139 := Tryd.isAgg90
  z139 := Tryd.sizeOf90
  v139 := Tryd.zeroValue90
  t164 := Tryd.underlying91
  a164 := Tryd.isAgg91
  z164 := Tryd.sizeOf91
  v164 := Tryd.zeroValue91
  g3 := by kernel_rfl
  g4 := by kernel_rfl }
theorem Tryd.Builder_Extra_230 : Builder.Extra Tryd.prog Tryd.lays230_ren := {
  sizeBuilder := by kernel_rfl
  liesBuilder := by kernel_rfl
  t5 := Tryd.underlying5
  a5 := Tryd.isAgg5
  z5 := Tryd.sizeOf5
  v5 := Tryd.zeroValue5
  infoByte := by kernel_rfl
  cellsByte := by kernel_rfl
  sizeByte := by kernel_rfl
  neB5 := by decide }
open Go.RowKit Go.Lib in
theorem Tryd.strings_Map_grows (g : Nat) (lb : Array Value) (eg : ∀ args w, (callFunc g args).run Tryd.prog w = .ok (.enter g args) w) (f : Int → Int) (s : ByteArray) (w : World) (hs : s.size < 35184372088832) (hf : MapGrows Tryd.prog g lb f w) (hnn : ∀ x : Nat, x ≤ 1114111 → -2147483648 ≤ f x ∧ f x ≤ 2147483647) (hT : Lib.Utf8Tabs 1 2 w) :
    Calls Tryd.prog 24 #[.func (.func g) #[] lb, .string s] w fun e w' => e = .returned (.string ⟨(Lib.mapD f s.data.toList).toArray⟩) ∧ Below w.heap.size w w' := Any.strings_Map_grows Tryd.lays230 Tryd.Builder_Extra_230 g lb eg f s w hs hf hnn hT
def Tryd.laysSlK4_ren : Go.Shelf.Ren := ⟨fun | 4 => 27 | n => n, fun | 22 => 24 | 4 => 4 | 5 => 5 | n => n, fun | n => n⟩
theorem Tryd.laysSlK4 : Go.Proofs.SlLaysK.n4 Tryd.prog Tryd.laysSlK4_ren := {
  mixed := by kernel_rfl
  f4 := Tryd.func27.trans (congrArg some (by kernel_rfl))
  t4 := Tryd.underlying4
  a4 := Tryd.isAgg4
  z4 := Tryd.sizeOf4
  v4 := Tryd.zeroValue4
  t22 := Tryd.underlying24
  a22 := Tryd.isAgg24
  z22 := Tryd.sizeOf24
  v22 := Tryd.zeroValue24
  t5 := Tryd.underlying5
  i5 := by kernel_rfl }
open Go.RowKit Go.Lib in
theorem Tryd.bytes_Clone_at (a : Addr) (n c : Nat) (xs : List Int) (w : World) (hx : xs.length = n) (hbig : n ≤ 140737488355328) (hc : ∀ i, i < n → w.cell? (a.add i) = some (.int .u8 (xs.getD i 0))) :
    Calls Tryd.prog 27 #[.slice (some a) n c] w fun e w' => ∃ v', e = .returned v' ∧ w'.ownsRow w.heap.size 5 1 v' n (xs.map (Value.int .u8)) ∧ v' ≠ .slice none 0 0 ∧ Below w.heap.size w w' := Any.bytes_Clone_at Tryd.laysSlK4 a n c xs w hx hbig hc
open Go.RowKit Go.Lib in
theorem Tryd.bytes_Clone_nil (n c : Nat) (w : World) :
    Calls Tryd.prog 27 #[.slice none n c] w fun e w' => e = .returned (.slice none 0 0) ∧ w' = w := Any.bytes_Clone_nil Tryd.laysSlK4 n c w
end Go.Proofs
