/- The library's functions that this seat's code calls, each by its contract (laid by the kit's shelf over this seat's program, what is used of it); each theorem says its own conditions. -/
import Derived.Shelf.Strings.Builder1
import Derived.Shelf.Strings.Builder2
import Derived.Shelf.Strings.OnBuilder
import Derived.Shelf.Small.Utf8
import Derived.Shelf.LaysM
import Derived.Shelf.Bytes.Len
import Derived.Shelf.Bytes.TryGrow
import Derived.Shelf.Bytes.GrowSliceCatch
import Derived.Shelf.Bytes.GrowSlice
import Derived.Shelf.Bytes.GrowRow0
import Derived.Shelf.Bytes.GrowRow
import Derived.Shelf.Bytes.GrowNil
import Derived.Shelf.Bytes.Grow
import Derived.Shelf.Bytes.Reset
import Derived.Shelf.Bytes.Write
import Derived.Shelf.Bytes.Bytes
import Derived.Shelf.Bytes.GrowRow0Kept
import Derived.Shelf.Bytes.GrowRowKept
import Derived.Shelf.Bytes.GrowNilKept
import Derived.Shelf.Bytes.GrowKept
import Derived.Shelf.Bytes.ResetKept
import Derived.Shelf.Bytes.WriteKept
import Derived.Shelf.Bytes.BufferK
import Derived.Shelf.Unicode.Latin
import Derived.Shelf.Unicode.DecodeSlow
import Derived.Shelf.Unicode.Is16White
import Derived.Shelf.Unicode.IsSpaceAny
import Derived.Shelf.Unicode.CaseLookup
import Derived.Shelf.Unicode.CaseConvert
import Derived.Shelf.Unicode.CaseTo
import Derived.Shelf.Unicode.CaseLaid
import Derived.Shelf.Unicode.Is16Any
import Derived.Shelf.Unicode.Is32Any
import Derived.Shelf.Unicode.ExclAny
import Derived.Shelf.Bytes.SlIndexAt
import Derived.Shelf.Bytes.SlSmallAll
import Derived.Shelf.Bytes.SlEqualAll
import Derived.Shelf.Bytes.Small
import Derived.Shelf.Bytes.IndexByte
import Derived.Shelf.Bytes.TrimSpace
import Derived.Test.YtbomcdnijklgjaaGreatDoorProg
section
namespace Go.Proofs
open Go.Shelf
def Tryz.lays159_ren : Go.Shelf.Ren := ⟨fun | 159 => 100 | 165 => 103 | 166 => 104 | 167 => 105 | 169 => 106 | 230 => 107 | 204 => 108 | 240 => 110 | 241 => 111 | 197 => 112 | 118 => 113 | 168 => 114 | 270 => 115 | 262 => 116 | 276 => 119 | 277 => 120 | 260 => 121 | 242 => 122 | 313 => 123 | 278 => 124 | 274 => 125 | 275 => 126 | n => n, fun | 9 => 9 | 4 => 4 | 3 => 3 | 5 => 5 | 72 => 177 | 0 => 0 | 76 => 68 | 75 => 57 | 107 => 181 | 70 => 175 | 20 => 20 | 37 => 84 | 127 => 158 | 21 => 21 | 105 => 127 | 164 => 190 | 162 => 196 | 203 => 194 | 119 => 112 | 46 => 141 | 139 => 146 | 138 => 145 | 51 => 122 | 160 => 197 | 208 => 203 | 206 => 201 | 80 => 149 | n => n, fun | 13 => 11 | 3 => 8 | 4 => 9 | n => n⟩
theorem Tryz.lays159 : Go.Proofs.Lays.n159 Tryz.prog Tryz.lays159_ren := {
  mixed := by kernel_rfl
  f118 := Tryz.func113.trans (congrArg some (by kernel_rfl))
  f159 := Tryz.func100.trans (congrArg some (by kernel_rfl))
  f165 := Tryz.func103.trans (congrArg some (by kernel_rfl))
  f166 := Tryz.func104.trans (congrArg some (by kernel_rfl))
  f167 := Tryz.func105.trans (congrArg some (by kernel_rfl))
  f168 := Tryz.func114.trans (congrArg some (by kernel_rfl))
  f169 := Tryz.func106.trans (congrArg some (by kernel_rfl))
  f197 := Tryz.func112.trans (congrArg some (by kernel_rfl))
  f204 := Tryz.func108.trans (congrArg some (by kernel_rfl))
  f230 := Tryz.func107.trans (congrArg some (by kernel_rfl))
  f240 := Tryz.func110.trans (congrArg some (by kernel_rfl))
  f241 := Tryz.func111.trans (congrArg some (by kernel_rfl))
  f242 := Tryz.func122.trans (congrArg some (by kernel_rfl))
  f260 := Tryz.func121.trans (congrArg some (by kernel_rfl))
  f262 := Tryz.func116.trans (congrArg some (by kernel_rfl))
  f270 := Tryz.func115.trans (congrArg some (by kernel_rfl))
  f274 := Tryz.func125.trans (congrArg some (by kernel_rfl))
  f275 := Tryz.func126.trans (congrArg some (by kernel_rfl))
  f276 := Tryz.func119.trans (congrArg some (by kernel_rfl))
  f277 := Tryz.func120.trans (congrArg some (by kernel_rfl))
  f278 := Tryz.func124.trans (congrArg some (by kernel_rfl))
  f313 := Tryz.func123.trans (congrArg some (by kernel_rfl))
  t0 := Tryz.underlying0
  a0 := Tryz.isAgg0
  z0 := Tryz.sizeOf0
  v0 := Tryz.zeroValue0
  t3 := Tryz.underlying3
  a3 := Tryz.isAgg3
  z3 := Tryz.sizeOf3
  v3 := Tryz.zeroValue3
  t4 := Tryz.underlying4
  a4 := Tryz.isAgg4
  z4 := Tryz.sizeOf4
  v4 := Tryz.zeroValue4
  t5 := Tryz.underlying5
  a5 := Tryz.isAgg5
  z5 := Tryz.sizeOf5
  v5 := Tryz.zeroValue5
  t9 := Tryz.underlying9
  a9 := Tryz.isAgg9
  z9 := Tryz.sizeOf9
  v9 := Tryz.zeroValue9
  t20 := Tryz.underlying20
  a20 := Tryz.isAgg20
  z20 := Tryz.sizeOf20
  v20 := Tryz.zeroValue20
  t21 := Tryz.underlying21
  a21 := Tryz.isAgg21
  z21 := Tryz.sizeOf21
  v21 := Tryz.zeroValue21
  t37 := Tryz.underlying84
  a37 := Tryz.isAgg84
  z37 := Tryz.sizeOf84
  v37 := Tryz.zeroValue84
  t46 := Tryz.underlying141
  a46 := Tryz.isAgg141
  z46 := Tryz.sizeOf141
  v46 := Tryz.zeroValue141
  t51 := Tryz.underlying122
  a51 := Tryz.isAgg122
  z51 := Tryz.sizeOf122
  v51 := Tryz.zeroValue122
  t70 := Tryz.underlying175
  a70 := Tryz.isAgg175
  z70 := Tryz.sizeOf175
  v70 := Tryz.zeroValue175
  t72 := Tryz.underlying177
  a72 := Tryz.isAgg177
  z72 := Tryz.sizeOf177
  v72 := Tryz.zeroValue177
  t75 := Tryz.underlying57
  a75 := Tryz.isAgg57
  z75 := Tryz.sizeOf57
  v75 := Tryz.zeroValue57
  t76 := Tryz.underlying68
  a76 := Tryz.isAgg68
  z76 := Tryz.sizeOf68
  v76 := Tryz.zeroValue68
  t105 := Tryz.underlying127
  a105 := Tryz.isAgg127
  z105 := Tryz.sizeOf127
  v105 := Tryz.zeroValue127
  t107 := Tryz.underlying181
  a107 := Tryz.isAgg181
  z107 := Tryz.sizeOf181
  v107 := Tryz.zeroValue181
  t119 := Tryz.underlying112
  a119 := Tryz.isAgg112
  z119 := Tryz.sizeOf112
  t127 := Tryz.underlying158
  a127 := Tryz.isAgg158
  z127 := Tryz.sizeOf158
  v127 := Tryz.zeroValue158
  t138 := Tryz.underlying145
  a138 := Tryz.isAgg145
  z138 := Tryz.sizeOf145
  v138 := Tryz.zeroValue145
  t139 := Tryz.underlying146
  a139 := Tryz.isAgg146
  z139 := Tryz.sizeOf146
  v139 := Tryz.zeroValue146
  t160 := Tryz.underlying197
  a160 := Tryz.isAgg197
  z160 := Tryz.sizeOf197
  v160 := Tryz.zeroValue197
  t162 := Tryz.underlying196
  a162 := Tryz.isAgg196
  z162 := Tryz.sizeOf196
  v162 := Tryz.zeroValue196
  t164 := Tryz.underlying190
  a164 := Tryz.isAgg190
  z164 := Tryz.sizeOf190
  v164 := Tryz.zeroValue190
  t203 := Tryz.underlying194
  a203 := Tryz.isAgg194
  z203 := Tryz.sizeOf194
  v203 := Tryz.zeroValue194
  t206 := Tryz.underlying201
  a206 := Tryz.isAgg201
  z206 := Tryz.sizeOf201
  v206 := Tryz.zeroValue201
  t208 := Tryz.underlying203
  a208 := Tryz.isAgg203
  z208 := Tryz.sizeOf203
  v208 := Tryz.zeroValue203
  g3 := by kernel_rfl
  g4 := by kernel_rfl
  g13 := by kernel_rfl }
theorem Tryz.Builder_Extra_159 : Builder.Extra Tryz.prog Tryz.lays159_ren := {
  sizeBuilder := by kernel_rfl
  liesBuilder := by kernel_rfl
  t5 := Tryz.underlying5
  a5 := Tryz.isAgg5
  z5 := Tryz.sizeOf5
  v5 := Tryz.zeroValue5
  infoByte := by kernel_rfl
  cellsByte := by kernel_rfl
  sizeByte := by kernel_rfl
  neB5 := by decide }
open Go.RowKit in
theorem Tryz.strings_ToLower_ascii (s : ByteArray) (w : World) (hs : s.size ≤ 140737488355328) (hascii : ∀ (j : Nat) (b : UInt8), s.data.toList[j]? = some b → b.toNat < 128) :
    Calls Tryz.prog 100 #[.string s] w fun e w' => e = .returned (.string ⟨(Lib.toLowerA s.data.toList).toArray⟩) ∧ Below w.heap.size w w' := Any.strings_ToLower_ascii Tryz.lays159 Tryz.Builder_Extra_159 s w hs hascii
def Tryz.laysM181_ren : Go.Shelf.Ren := ⟨fun | 181 => 38 | n => n, fun | 130 => 90 | 3 => 3 | 0 => 0 | 93 => 88 | 37 => 84 | 91 => 86 | 5 => 5 | n => n, fun | n => n⟩
theorem Tryz.laysM181 : Go.Proofs.LaysM.n181 Tryz.prog Tryz.laysM181_ren := {
  mixed := by kernel_rfl
  f181 := Tryz.func38.trans (congrArg some (by kernel_rfl))
  t0 := Tryz.underlying0
  a0 := Tryz.isAgg0
  z0 := Tryz.sizeOf0
  v0 := Tryz.zeroValue0
  t3 := Tryz.underlying3
  a3 := Tryz.isAgg3
  z3 := Tryz.sizeOf3
  v3 := Tryz.zeroValue3
  t37 := Tryz.underlying84
  a37 := Tryz.isAgg84
  z37 := Tryz.sizeOf84
  v37 := Tryz.zeroValue84
  t93 := Tryz.underlying88
  a93 := Tryz.isAgg88
  z93 := Tryz.sizeOf88
  v93 := Tryz.zeroValue88
  t130 := Tryz.underlying90
  a130 := Tryz.isAgg90
  z130 := Tryz.sizeOf90
  v130 := Tryz.zeroValue90
  t5 := Tryz.underlying5
  a5 := Tryz.isAgg5
  z5 := Tryz.sizeOf5
  v5 := Tryz.zeroValue5
  t91 := Tryz.underlying86
  a91 := Tryz.isAgg86
  z91 := Tryz.sizeOf86
  v91 := Tryz.zeroValue86
  i0 := by kernel_rfl
  i3 := by kernel_rfl
  i5 := by kernel_rfl
  i37 := by kernel_rfl
  i91 := by kernel_rfl
  i93 := by kernel_rfl
  i130 := by kernel_rfl }
open Go.RowKit in
theorem Tryz.Buffer_Len (B b : Nat) (bs : List Value) (w : World) (h : Lib.IsBuffer 88 5 B b bs w) :
    Calls Tryz.prog 38 #[.pointer (some ⟨b, 0, none⟩)] w fun e w' => e = .returned (.int .i64 bs.length) ∧ ∃ n, w' = w.drewN n := Any.Buffer_Len Tryz.laysM181 B b bs w h
def Tryz.laysM184_ren : Go.Shelf.Ren := ⟨fun | 184 => 48 | n => n, fun | 130 => 90 | 0 => 0 | 93 => 88 | 37 => 84 | 3 => 3 | 91 => 86 | 5 => 5 | n => n, fun | n => n⟩
theorem Tryz.laysM184 : Go.Proofs.LaysM.n184 Tryz.prog Tryz.laysM184_ren := {
  mixed := by kernel_rfl
  f184 := Tryz.func48.trans (congrArg some (by kernel_rfl))
  t0 := Tryz.underlying0
  a0 := Tryz.isAgg0
  z0 := Tryz.sizeOf0
  v0 := Tryz.zeroValue0
  t3 := Tryz.underlying3
  a3 := Tryz.isAgg3
  z3 := Tryz.sizeOf3
  v3 := Tryz.zeroValue3
  t37 := Tryz.underlying84
  a37 := Tryz.isAgg84
  z37 := Tryz.sizeOf84
  v37 := Tryz.zeroValue84
  t91 := Tryz.underlying86
  a91 := Tryz.isAgg86
  z91 := Tryz.sizeOf86
  v91 := Tryz.zeroValue86
  t93 := Tryz.underlying88
  a93 := Tryz.isAgg88
  z93 := Tryz.sizeOf88
  v93 := Tryz.zeroValue88
  t130 := Tryz.underlying90
  a130 := Tryz.isAgg90
  z130 := Tryz.sizeOf90
  v130 := Tryz.zeroValue90
  t5 := Tryz.underlying5
  a5 := Tryz.isAgg5
  z5 := Tryz.sizeOf5
  v5 := Tryz.zeroValue5
  i0 := by kernel_rfl
  i3 := by kernel_rfl
  i5 := by kernel_rfl
  i37 := by kernel_rfl
  i91 := by kernel_rfl
  i93 := by kernel_rfl
  i130 := by kernel_rfl }
def Tryz.laysM180_ren : Go.Shelf.Ren := ⟨fun | 180 => 43 | 251 => 52 | 252 => 53 | 181 => 38 | 184 => 48 | 290 => 62 | 324 => 69 | n => n, fun | 130 => 90 | 37 => 84 | 3 => 3 | 75 => 57 | 0 => 0 | 93 => 88 | 91 => 86 | 131 => 44 | 4 => 4 | 20 => 20 | 5 => 5 | 80 => 149 | 9 => 9 | n => n, fun | 14 => 4 | n => n⟩
theorem Tryz.laysM180 : Go.Proofs.LaysM.n180 Tryz.prog Tryz.laysM180_ren := {
  mixed := by kernel_rfl
  f180 := Tryz.func43.trans (congrArg some (by kernel_rfl))
  f181 := Tryz.func38.trans (congrArg some (by kernel_rfl))
  f184 := Tryz.func48.trans (congrArg some (by kernel_rfl))
  f251 := Tryz.func52.trans (congrArg some (by kernel_rfl))
  f252 := Tryz.func53.trans (congrArg some (by kernel_rfl))
  f290 := Tryz.func62.trans (congrArg some (by kernel_rfl))
  f324 := Tryz.func69.trans (congrArg some (by kernel_rfl))
  t0 := Tryz.underlying0
  a0 := Tryz.isAgg0
  z0 := Tryz.sizeOf0
  v0 := Tryz.zeroValue0
  t3 := Tryz.underlying3
  a3 := Tryz.isAgg3
  z3 := Tryz.sizeOf3
  v3 := Tryz.zeroValue3
  t4 := Tryz.underlying4
  a4 := Tryz.isAgg4
  z4 := Tryz.sizeOf4
  v4 := Tryz.zeroValue4
  t20 := Tryz.underlying20
  a20 := Tryz.isAgg20
  z20 := Tryz.sizeOf20
  v20 := Tryz.zeroValue20
  t37 := Tryz.underlying84
  a37 := Tryz.isAgg84
  z37 := Tryz.sizeOf84
  v37 := Tryz.zeroValue84
  t75 := Tryz.underlying57
  a75 := Tryz.isAgg57
  z75 := Tryz.sizeOf57
  v75 := Tryz.zeroValue57
  t91 := Tryz.underlying86
  a91 := Tryz.isAgg86
  z91 := Tryz.sizeOf86
  v91 := Tryz.zeroValue86
  t93 := Tryz.underlying88
  a93 := Tryz.isAgg88
  z93 := Tryz.sizeOf88
  v93 := Tryz.zeroValue88
  t130 := Tryz.underlying90
  a130 := Tryz.isAgg90
  z130 := Tryz.sizeOf90
  v130 := Tryz.zeroValue90
  t131 := Tryz.underlying44
  a131 := Tryz.isAgg44
  z131 := Tryz.sizeOf44
  v131 := Tryz.zeroValue44
  g14 := by kernel_rfl
  t5 := Tryz.underlying5
  a5 := Tryz.isAgg5
  z5 := Tryz.sizeOf5
  v5 := Tryz.zeroValue5
  t9 := Tryz.underlying9
  a9 := Tryz.isAgg9
  z9 := Tryz.sizeOf9
  v9 := Tryz.zeroValue9
  t80 := Tryz.underlying149
  a80 := Tryz.isAgg149
  z80 := Tryz.sizeOf149
  v80 := Tryz.zeroValue149
  i0 := by kernel_rfl
  i3 := by kernel_rfl
  i4 := by kernel_rfl
  i5 := by kernel_rfl
  i9 := by kernel_rfl
  i20 := by kernel_rfl
  i37 := by kernel_rfl
  i75 := by kernel_rfl
  i80 := by kernel_rfl
  i91 := by kernel_rfl
  i93 := by kernel_rfl
  i130 := by kernel_rfl
  i131 := by kernel_rfl
  m14 := by kernel_rfl }
def Tryz.laysM183_ren : Go.Shelf.Ren := ⟨fun | 183 => 46 | n => n, fun | 130 => 90 | 37 => 84 | 0 => 0 | 93 => 88 | 3 => 3 | 5 => 5 | 91 => 86 | n => n, fun | n => n⟩
theorem Tryz.laysM183 : Go.Proofs.LaysM.n183 Tryz.prog Tryz.laysM183_ren := {
  mixed := by kernel_rfl
  f183 := Tryz.func46.trans (congrArg some (by kernel_rfl))
  t0 := Tryz.underlying0
  a0 := Tryz.isAgg0
  z0 := Tryz.sizeOf0
  v0 := Tryz.zeroValue0
  t3 := Tryz.underlying3
  a3 := Tryz.isAgg3
  z3 := Tryz.sizeOf3
  v3 := Tryz.zeroValue3
  t37 := Tryz.underlying84
  a37 := Tryz.isAgg84
  z37 := Tryz.sizeOf84
  v37 := Tryz.zeroValue84
  t93 := Tryz.underlying88
  a93 := Tryz.isAgg88
  z93 := Tryz.sizeOf88
  v93 := Tryz.zeroValue88
  t130 := Tryz.underlying90
  a130 := Tryz.isAgg90
  z130 := Tryz.sizeOf90
  v130 := Tryz.zeroValue90
  t5 := Tryz.underlying5
  a5 := Tryz.isAgg5
  z5 := Tryz.sizeOf5
  v5 := Tryz.zeroValue5
  t91 := Tryz.underlying86
  a91 := Tryz.isAgg86
  z91 := Tryz.sizeOf86
  v91 := Tryz.zeroValue86
  i0 := by kernel_rfl
  i3 := by kernel_rfl
  i5 := by kernel_rfl
  i37 := by kernel_rfl
  i91 := by kernel_rfl
  i93 := by kernel_rfl
  i130 := by kernel_rfl }
open Go.RowKit in
theorem Tryz.Buffer_Bytes (B b : Nat) (bs : List Value) (w : World) (h : Lib.IsBuffer 88 5 B b bs w) :
    Calls Tryz.prog 46 #[.pointer (some ⟨b, 0, none⟩)] w fun e w' => ∃ v, e = .returned v ∧ w'.ownsRow B 5 1 v bs.length bs ∧ ∃ n, w' = w.drewN n := Any.Buffer_Bytes Tryz.laysM183 B b bs w h
open Go.RowKit in
theorem Tryz.Buffer_Reset_kept (B b : Nat) (bs : List Value) (w : World) (h : Lib.IsBuffer 88 5 B b bs w) :
    Calls Tryz.prog 48 #[.pointer (some ⟨b, 0, none⟩)] w fun e w' => e = .returned (.tuple #[]) ∧ Lib.IsBuffer 88 5 B b [] w' ∧ Below B w w' ∧ Lib.OthersKept 5 (some b) w w' := Any.Buffer_Reset_kept Tryz.laysM184 B b bs w h
open Go.RowKit in
theorem Tryz.Buffer_Write_kept (B b : Nat) (bs cs : List Value) (a : Addr) (n c : Nat) (w : World) (h : Lib.IsBuffer 88 5 B b bs w) (hBw : B ≤ w.heap.size) (h1 : ∀ v ∈ bs, v.oneCell' = true) (hn : cs.length = n) (haB : a.block < B) (hsrc : ∀ j v, cs[j]? = some v → w.cell? (a.add j) = some v) (h1c : ∀ v ∈ cs, v.oneCell' = true) (hlim : bs.length + n ≤ 140737488355328) :
    Calls Tryz.prog 43 #[.pointer (some ⟨b, 0, none⟩), .slice (some a) n c] w fun e w' => e = .returned (.tuple #[.int .i64 n, .nilIface]) ∧ Lib.IsBuffer 88 5 B b (bs ++ cs) w' ∧ Below B w w' ∧ Lib.OthersKept 5 (some b) w w' := Any.Buffer_Write_kept Tryz.laysM180 B b bs cs a n c w h hBw h1 hn haB hsrc h1c hlim
def Tryz.lays187_ren : Go.Shelf.Ren := ⟨fun | 187 => 55 | 255 => 63 | n => n, fun | 37 => 84 | 5 => 5 | 3 => 3 | n => n, fun | n => n⟩
theorem Tryz.lays187 : Go.Proofs.Lays.n187 Tryz.prog Tryz.lays187_ren := {
  mixed := by kernel_rfl
  f187 := Tryz.func55.trans (congrArg some (by kernel_rfl))
  f255 := Tryz.func63.trans (congrArg some (by kernel_rfl))
  t3 := Tryz.underlying3
  a3 := Tryz.isAgg3
  z3 := Tryz.sizeOf3
  v3 := Tryz.zeroValue3
  t5 := Tryz.underlying5
  a5 := Tryz.isAgg5
  z5 := Tryz.sizeOf5
  v5 := Tryz.zeroValue5
  t37 := Tryz.underlying84
  a37 := Tryz.isAgg84
  z37 := Tryz.sizeOf84
  v37 := Tryz.zeroValue84 }
open Go.RowKit Go.Lib in
theorem Tryz.bytes_IndexByte_at (a : Addr) (n c : Nat) (xs : List Int) (cv : Int) (w : World) (hx : xs.length = n) (hc : ∀ i, i < n → w.cell? (a.add i) = some (.int .u8 (xs.getD i 0))) :
    Calls Tryz.prog 55 #[.slice (some a) n c, .int .u8 cv] w fun e w' => e = .returned (.int .i64 (Lib.indexByte (Lib.bytesOf xs) cv.toNat.toUInt8)) ∧ w' = w := Any.bytes_IndexByte_at Tryz.lays187 a n c xs cv w hx hc
def Tryz.laysnb116_ren : Go.Shelf.Ren := ⟨fun | 116 => 41 | 115 => 40 | n => n, fun | 37 => 84 | 4 => 4 | 3 => 3 | 9 => 9 | 5 => 5 | n => n, fun | n => n⟩
theorem Tryz.laysnb116 : Go.Proofs.Lays.nb116 Tryz.prog Tryz.laysnb116_ren := {
  mixed := by kernel_rfl
  f115 := Tryz.func40.trans (congrArg some (by kernel_rfl))
  f116 := Tryz.func41.trans (congrArg some (by kernel_rfl))
  t3 := Tryz.underlying3
  a3 := Tryz.isAgg3
  z3 := Tryz.sizeOf3
  v3 := Tryz.zeroValue3
  t4 := Tryz.underlying4
  a4 := Tryz.isAgg4
  z4 := Tryz.sizeOf4
  v4 := Tryz.zeroValue4
  t9 := Tryz.underlying9
  a9 := Tryz.isAgg9
  z9 := Tryz.sizeOf9
  v9 := Tryz.zeroValue9
  t37 := Tryz.underlying84
  a37 := Tryz.isAgg84
  z37 := Tryz.sizeOf84
  v37 := Tryz.zeroValue84
  t5 := Tryz.underlying5
  a5 := Tryz.isAgg5
  z5 := Tryz.sizeOf5
  v5 := Tryz.zeroValue5 }
def Tryz.laysnb117_ren : Go.Shelf.Ren := ⟨fun | 117 => 42 | 115 => 40 | n => n, fun | 37 => 84 | 4 => 4 | 3 => 3 | 9 => 9 | 5 => 5 | n => n, fun | n => n⟩
theorem Tryz.laysnb117 : Go.Proofs.Lays.nb117 Tryz.prog Tryz.laysnb117_ren := {
  mixed := by kernel_rfl
  f115 := Tryz.func40.trans (congrArg some (by kernel_rfl))
  f117 := Tryz.func42.trans (congrArg some (by kernel_rfl))
  t3 := Tryz.underlying3
  a3 := Tryz.isAgg3
  z3 := Tryz.sizeOf3
  v3 := Tryz.zeroValue3
  t4 := Tryz.underlying4
  a4 := Tryz.isAgg4
  z4 := Tryz.sizeOf4
  v4 := Tryz.zeroValue4
  t9 := Tryz.underlying9
  a9 := Tryz.isAgg9
  z9 := Tryz.sizeOf9
  v9 := Tryz.zeroValue9
  t37 := Tryz.underlying84
  a37 := Tryz.isAgg84
  z37 := Tryz.sizeOf84
  v37 := Tryz.zeroValue84
  t5 := Tryz.underlying5
  a5 := Tryz.isAgg5
  z5 := Tryz.sizeOf5
  v5 := Tryz.zeroValue5 }
theorem Tryz.bytes_HasPrefix_all (p1 p2 : Option Addr) (n c m d : Nat) (xs ys : List Int) (w : World) (hx : xs.length = n) (hy : ys.length = m) (hnc : n ≤ c) (h1 : Lib.BytesIn w p1 n xs) (h2 : Lib.BytesIn w p2 m ys) :
    Calls Tryz.prog 41 #[.slice p1 n c, .slice p2 m d] w fun e w' => e = .returned (.bool (Lib.hasPrefix (Lib.bytesOf xs) (Lib.bytesOf ys))) ∧ w' = w := Any.bytes_HasPrefix_all Tryz.laysnb116 p1 p2 n c m d xs ys w hx hy hnc h1 h2
theorem Tryz.bytes_HasSuffix_all (p1 p2 : Option Addr) (n c m d : Nat) (xs ys : List Int) (w : World) (hx : xs.length = n) (hy : ys.length = m) (hnc : n ≤ c) (hbig : n ≤ 9223372036854775807) (h1 : Lib.BytesIn w p1 n xs) (h2 : Lib.BytesIn w p2 m ys) :
    Calls Tryz.prog 42 #[.slice p1 n c, .slice p2 m d] w fun e w' => e = .returned (.bool (Lib.hasSuffix (Lib.bytesOf xs) (Lib.bytesOf ys))) ∧ w' = w := Any.bytes_HasSuffix_all Tryz.laysnb117 p1 p2 n c m d xs ys w hx hy hnc hbig h1 h2
def Tryz.laysnb115_ren : Go.Shelf.Ren := ⟨fun | 115 => 40 | n => n, fun | 37 => 84 | 4 => 4 | 9 => 9 | 5 => 5 | n => n, fun | n => n⟩
theorem Tryz.laysnb115 : Go.Proofs.Lays.nb115 Tryz.prog Tryz.laysnb115_ren := {
  mixed := by kernel_rfl
  f115 := Tryz.func40.trans (congrArg some (by kernel_rfl))
  t4 := Tryz.underlying4
  a4 := Tryz.isAgg4
  z4 := Tryz.sizeOf4
  v4 := Tryz.zeroValue4
  t9 := Tryz.underlying9
  a9 := Tryz.isAgg9
  z9 := Tryz.sizeOf9
  v9 := Tryz.zeroValue9
  t37 := Tryz.underlying84
  a37 := Tryz.isAgg84
  z37 := Tryz.sizeOf84
  v37 := Tryz.zeroValue84
  t5 := Tryz.underlying5
  a5 := Tryz.isAgg5
  z5 := Tryz.sizeOf5
  v5 := Tryz.zeroValue5 }
theorem Tryz.bytes_Equal_all (p1 p2 : Option Addr) (n c m d : Nat) (xs ys : List Int) (w : World) (hx : xs.length = n) (hy : ys.length = m) (h1 : Lib.BytesIn w p1 n xs) (h2 : Lib.BytesIn w p2 m ys) :
    Calls Tryz.prog 40 #[.slice p1 n c, .slice p2 m d] w fun e w' => e = .returned (.bool (Lib.bytesOf xs == Lib.bytesOf ys)) ∧ w' = w := Any.bytes_Equal_all Tryz.laysnb115 p1 p2 n c m d xs ys w hx hy h1 h2
def Tryz.laysbs188_ren : Go.Shelf.Ren := ⟨fun | 188 => 39 | 256 => 50 | 199 => 51 | 293 => 60 | 292 => 59 | 261 => 61 | 327 => 66 | 325 => 64 | 326 => 65 | 311 => 67 | 312 => 68 | 341 => 70 | 342 => 71 | 120 => 72 | n => n, fun | 37 => 84 | 3 => 3 | 0 => 0 | 5 => 5 | 4 => 4 | 40 => 111 | 119 => 112 | 21 => 21 | 51 => 122 | 141 => 124 | 105 => 127 | 196 => 132 | 193 => 129 | 198 => 135 | 49 => 133 | 194 => 130 | 201 => 138 | 226 => 140 | 46 => 141 | 227 => 142 | 139 => 146 | 138 => 145 | n => n, fun | 2 => 2 | 6 => 3 | 3 => 8 | 4 => 9 | n => n⟩
theorem Tryz.laysbs188 : Go.Proofs.Lays.nbs188 Tryz.prog Tryz.laysbs188_ren := {
  mixed := by kernel_rfl
  f120 := Tryz.func72.trans (congrArg some (by kernel_rfl))
  f188 := Tryz.func39.trans (congrArg some (by kernel_rfl))
  f199 := Tryz.func51.trans (congrArg some (by kernel_rfl))
  f256 := Tryz.func50.trans (congrArg some (by kernel_rfl))
  f261 := Tryz.func61.trans (congrArg some (by kernel_rfl))
  f292 := Tryz.func59.trans (congrArg some (by kernel_rfl))
  f293 := Tryz.func60.trans (congrArg some (by kernel_rfl))
  f311 := Tryz.func67.trans (congrArg some (by kernel_rfl))
  f312 := Tryz.func68.trans (congrArg some (by kernel_rfl))
  f325 := Tryz.func64.trans (congrArg some (by kernel_rfl))
  f326 := Tryz.func65.trans (congrArg some (by kernel_rfl))
  f327 := Tryz.func66.trans (congrArg some (by kernel_rfl))
  f341 := Tryz.func70.trans (congrArg some (by kernel_rfl))
  f342 := Tryz.func71.trans (congrArg some (by kernel_rfl))
  t0 := Tryz.underlying0
  a0 := Tryz.isAgg0
  z0 := Tryz.sizeOf0
  v0 := Tryz.zeroValue0
  t3 := Tryz.underlying3
  a3 := Tryz.isAgg3
  z3 := Tryz.sizeOf3
  v3 := Tryz.zeroValue3
  t4 := Tryz.underlying4
  a4 := Tryz.isAgg4
  z4 := Tryz.sizeOf4
  v4 := Tryz.zeroValue4
  t5 := Tryz.underlying5
  a5 := Tryz.isAgg5
  z5 := Tryz.sizeOf5
  v5 := Tryz.zeroValue5
  t21 := Tryz.underlying21
  a21 := Tryz.isAgg21
  z21 := Tryz.sizeOf21
  v21 := Tryz.zeroValue21
  t37 := Tryz.underlying84
  a37 := Tryz.isAgg84
  z37 := Tryz.sizeOf84
  v37 := Tryz.zeroValue84
  t40 := Tryz.underlying111
  a40 := Tryz.isAgg111
  z40 := Tryz.sizeOf111
  v40 := Tryz.zeroValue111
  t46 := Tryz.underlying141
  a46 := Tryz.isAgg141
  z46 := Tryz.sizeOf141
  v46 := Tryz.zeroValue141
  t49 := Tryz.underlying133
  a49 := Tryz.isAgg133
  z49 := Tryz.sizeOf133
  v49 := Tryz.zeroValue133
  t51 := Tryz.underlying122
  a51 := Tryz.isAgg122
  z51 := Tryz.sizeOf122
  v51 := Tryz.zeroValue122
  t105 := Tryz.underlying127
  a105 := Tryz.isAgg127
  z105 := Tryz.sizeOf127
  v105 := Tryz.zeroValue127
  t119 := Tryz.underlying112
  a119 := Tryz.isAgg112
  z119 := Tryz.sizeOf112
  t138 := Tryz.underlying145
  a138 := Tryz.isAgg145
  z138 := Tryz.sizeOf145
  v138 := Tryz.zeroValue145
  t139 := Tryz.underlying146
  a139 := Tryz.isAgg146
  z139 := Tryz.sizeOf146
  v139 := Tryz.zeroValue146
  t141 := Tryz.underlying124
  a141 := Tryz.isAgg124
  z141 := Tryz.sizeOf124
  v141 := Tryz.zeroValue124
  t193 := Tryz.underlying129
  a193 := Tryz.isAgg129
  z193 := Tryz.sizeOf129
  v193 := Tryz.zeroValue129
  t194 := Tryz.underlying130
  a194 := Tryz.isAgg130
  z194 := Tryz.sizeOf130
  v194 := Tryz.zeroValue130
  t196 := Tryz.underlying132
  a196 := Tryz.isAgg132
  z196 := Tryz.sizeOf132
  v196 := Tryz.zeroValue132
  t198 := Tryz.underlying135
  a198 := Tryz.isAgg135
  z198 := Tryz.sizeOf135
  v198 := Tryz.zeroValue135
  t201 := Tryz.underlying138
  a201 := Tryz.isAgg138
  z201 := Tryz.sizeOf138
  v201 := Tryz.zeroValue138
  t226 := Tryz.underlying140
  a226 := Tryz.isAgg140
  z226 := Tryz.sizeOf140
  v226 := Tryz.zeroValue140
  t227 := Tryz.underlying142
  a227 := Tryz.isAgg142
  z227 := Tryz.sizeOf142
  v227 := Tryz.zeroValue142
  g2 := by kernel_rfl
  g3 := by kernel_rfl
  g4 := by kernel_rfl
  g6 := by kernel_rfl
  gNamed := by kernel_rfl }
open Go.RowKit in
theorem Tryz.bytes_TrimSpace (b o n c : Nat) (xs : List Int) (w : World) (hx : xs.length = n) (hnc : n ≤ c) (hbig : n ≤ 9223372036854775807) (hc : ∀ i, i < n → w.cell? ⟨b, o + i, none⟩ = some (.int .u8 (xs.getD i 0))) (hascii : ∀ i, i < n → 0 ≤ xs.getD i 0 ∧ xs.getD i 0 < 128) (htab : Lib.TabIs Tryz.prog w "bytes.asciiSpace" .u8 Lib.asciiSpaceTab) :
    Calls Tryz.prog 39 #[.slice (some ⟨b, o, none⟩) n c] w fun e w' => e = .returned (Lib.bytesTrimSpace b o c (Lib.bytesOf xs)) ∧ w' = w := Any.bytes_TrimSpace Tryz.laysbs188 b o n c xs w hx hnc hbig hc hascii htab
end Go.Proofs
end
