/- The library's functions that this seat's code calls, each by its contract (laid by the kit's shelf over this seat's program, what is used of it); each theorem says its own conditions. -/
import Derived.Shelf.Strings.Builder1
import Derived.Shelf.Strings.Builder2
import Derived.Shelf.Strings.OnBuilder
import Derived.Shelf.Strings.TrimSpace
import Derived.Shelf.Small.Utf8
import Derived.Shelf.Strings.BuilderF
import Derived.Shelf.Strings.BuilderK
import Derived.Shelf.Strings.BuilderRune
import Derived.Shelf.Utf8.AppendRune
import Derived.Shelf.Utf8.AppendRunePlain
import Derived.Shelf.Strings.Builder2Cap
import Derived.Shelf.LaysM
import Derived.Shelf.Bytes.Len
import Derived.Shelf.Bytes.TryGrow
import Derived.Shelf.Bytes.GrowSliceCatch
import Derived.Shelf.Bytes.GrowSlice
import Derived.Shelf.Bytes.GrowRow0
import Derived.Shelf.Bytes.GrowRow
import Derived.Shelf.Bytes.GrowNil
import Derived.Shelf.Bytes.Grow
import Derived.Shelf.Bytes.Reset
import Derived.Shelf.Bytes.Write
import Derived.Shelf.Bytes.Bytes
import Derived.Shelf.Bytes.GrowRow0Kept
import Derived.Shelf.Bytes.GrowRowKept
import Derived.Shelf.Bytes.GrowNilKept
import Derived.Shelf.Bytes.GrowKept
import Derived.Shelf.Bytes.ResetKept
import Derived.Shelf.Bytes.WriteKept
import Derived.Shelf.Bytes.BufferK
import Derived.Shelf.Unicode.Latin
import Derived.Shelf.Unicode.DecodeSlow
import Derived.Shelf.Unicode.Is16White
import Derived.Shelf.Unicode.IsSpaceAny
import Derived.Shelf.Unicode.CaseLookup
import Derived.Shelf.Unicode.CaseConvert
import Derived.Shelf.Unicode.CaseTo
import Derived.Shelf.Unicode.CaseLaid
import Derived.Shelf.Unicode.Is16Any
import Derived.Shelf.Unicode.Is32Any
import Derived.Shelf.Unicode.ExclAny
import Derived.Shelf.Strings.BuilderCap
import Derived.Shelf.Bytes.SlIndexAt
import Derived.Shelf.Bytes.SlSmallAll
import Derived.Shelf.Bytes.SlEqualAll
import Derived.Shelf.Bytes.Small
import Derived.Shelf.Bytes.IndexByte
import Derived.Shelf.Bytes.TrimSpace
import Derived.Test.YtjglpjlbnmpdfaaGreatDoorProg
section
namespace Go.Proofs
open Go.Shelf
def Tryz.lays169_ren : Go.Shelf.Ren := ⟨fun | 169 => 71 | n => n, fun | 70 => 120 | 9 => 9 | 0 => 0 | 72 => 123 | 37 => 121 | 127 => 140 | 3 => 3 | 5 => 5 | n => n, fun | n => n⟩
theorem Tryz.lays169 : Go.Proofs.Lays.n169 Tryz.prog Tryz.lays169_ren := {
 mixed := by kernel_rfl
 f169 := Tryz.func71.trans (congrArg some (by kernel_rfl))
 t0 := Tryz.underlying0
 a0 := Tryz.isAgg0
 z0 := Tryz.sizeOf0
 v0 := Tryz.zeroValue0
 t3 := Tryz.underlying3
 a3 := Tryz.isAgg3
 z3 := Tryz.sizeOf3
 v3 := Tryz.zeroValue3
 t9 := Tryz.underlying9
 a9 := Tryz.isAgg9
 z9 := Tryz.sizeOf9
 v9 := Tryz.zeroValue9
 t37 := Tryz.underlying121
 a37 := Tryz.isAgg121
 z37 := Tryz.sizeOf121
 v37 := Tryz.zeroValue121
 t70 := Tryz.underlying120
 a70 := Tryz.isAgg120
 z70 := Tryz.sizeOf120
 v70 := Tryz.zeroValue120
 t72 := Tryz.underlying123
 a72 := Tryz.isAgg123
 z72 := Tryz.sizeOf123
 v72 := Tryz.zeroValue123
 t127 := Tryz.underlying140
 a127 := Tryz.isAgg140
 z127 := Tryz.sizeOf140
 v127 := Tryz.zeroValue140 }
theorem Tryz.Builder_Extra_169 : Builder.Extra Tryz.prog Tryz.lays169_ren := {
 sizeBuilder := by kernel_rfl
 liesBuilder := by kernel_rfl
 t5 := Tryz.underlying5
 a5 := Tryz.isAgg5
 z5 := Tryz.sizeOf5
 v5 := Tryz.zeroValue5
 infoByte := by kernel_rfl
 cellsByte := by kernel_rfl
 sizeByte := by kernel_rfl
 neB5 := by decide }
def Tryz.lays159_ren : Go.Shelf.Ren := ⟨fun | 159 => 182 | 165 => 117 | 166 => 70 | 167 => 184 | 169 => 71 | 230 => 185 | 204 => 186 | 240 => 86 | 241 => 136 | 197 => 99 | 118 => 187 | 168 => 83 | 270 => 188 | 262 => 189 | 276 => 105 | 277 => 146 | 260 => 122 | 242 => 104 | 313 => 190 | 278 => 125 | 274 => 191 | 275 => 192 | n => n, fun | 9 => 9 | 4 => 4 | 3 => 3 | 5 => 5 | 72 => 123 | 0 => 0 | 76 => 124 | 75 => 61 | 107 => 251 | 70 => 120 | 20 => 20 | 37 => 121 | 127 => 140 | 21 => 21 | 105 => 155 | 164 => 159 | 162 => 256 | 203 => 254 | 119 => 134 | 46 => 26 | 139 => 211 | 138 => 210 | 51 => 98 | 160 => 257 | 208 => 263 | 206 => 261 | 80 => 86 | n => n, fun | 13 => 12 | 3 => 5 | 4 => 6 | n => n⟩
theorem Tryz.lays159 : Go.Proofs.Lays.n159 Tryz.prog Tryz.lays159_ren := {
 mixed := by kernel_rfl
 f118 := Tryz.func187.trans (congrArg some (by kernel_rfl))
 f159 := Tryz.func182.trans (congrArg some (by kernel_rfl))
 f165 := Tryz.func117.trans (congrArg some (by kernel_rfl))
 f166 := Tryz.func70.trans (congrArg some (by kernel_rfl))
 f167 := Tryz.func184.trans (congrArg some (by kernel_rfl))
 f168 := Tryz.func83.trans (congrArg some (by kernel_rfl))
 f169 := Tryz.func71.trans (congrArg some (by kernel_rfl))
 f197 := Tryz.func99.trans (congrArg some (by kernel_rfl))
 f204 := Tryz.func186.trans (congrArg some (by kernel_rfl))
 f230 := Tryz.func185.trans (congrArg some (by kernel_rfl))
 f240 := Tryz.func86.trans (congrArg some (by kernel_rfl))
 f241 := Tryz.func136.trans (congrArg some (by kernel_rfl))
 f242 := Tryz.func104.trans (congrArg some (by kernel_rfl))
 f260 := Tryz.func122.trans (congrArg some (by kernel_rfl))
 f262 := Tryz.func189.trans (congrArg some (by kernel_rfl))
 f270 := Tryz.func188.trans (congrArg some (by kernel_rfl))
 f274 := Tryz.func191.trans (congrArg some (by kernel_rfl))
 f275 := Tryz.func192.trans (congrArg some (by kernel_rfl))
 f276 := Tryz.func105.trans (congrArg some (by kernel_rfl))
 f277 := Tryz.func146.trans (congrArg some (by kernel_rfl))
 f278 := Tryz.func125.trans (congrArg some (by kernel_rfl))
 f313 := Tryz.func190.trans (congrArg some (by kernel_rfl))
 t0 := Tryz.underlying0
 a0 := Tryz.isAgg0
 z0 := Tryz.sizeOf0
 v0 := Tryz.zeroValue0
 t3 := Tryz.underlying3
 a3 := Tryz.isAgg3
 z3 := Tryz.sizeOf3
 v3 := Tryz.zeroValue3
 t4 := Tryz.underlying4
 a4 := Tryz.isAgg4
 z4 := Tryz.sizeOf4
 v4 := Tryz.zeroValue4
 t5 := Tryz.underlying5
 a5 := Tryz.isAgg5
 z5 := Tryz.sizeOf5
 v5 := Tryz.zeroValue5
 t9 := Tryz.underlying9
 a9 := Tryz.isAgg9
 z9 := Tryz.sizeOf9
 v9 := Tryz.zeroValue9
 t20 := Tryz.underlying20
 a20 := Tryz.isAgg20
 z20 := Tryz.sizeOf20
 v20 := Tryz.zeroValue20
 t21 := Tryz.underlying21
 a21 := Tryz.isAgg21
 z21 := Tryz.sizeOf21
 v21 := Tryz.zeroValue21
 t37 := Tryz.underlying121
 a37 := Tryz.isAgg121
 z37 := Tryz.sizeOf121
 v37 := Tryz.zeroValue121
 t46 := Tryz.underlying26
 a46 := Tryz.isAgg26
 z46 := Tryz.sizeOf26
 v46 := Tryz.zeroValue26
 t51 := Tryz.underlying98
 a51 := Tryz.isAgg98
 z51 := Tryz.sizeOf98
 v51 := Tryz.zeroValue98
 t70 := Tryz.underlying120
 a70 := Tryz.isAgg120
 z70 := Tryz.sizeOf120
 v70 := Tryz.zeroValue120
 t72 := Tryz.underlying123
 a72 := Tryz.isAgg123
 z72 := Tryz.sizeOf123
 v72 := Tryz.zeroValue123
 t75 := Tryz.underlying61
 a75 := Tryz.isAgg61
 z75 := Tryz.sizeOf61
 v75 := Tryz.zeroValue61
 t76 := Tryz.underlying124
 a76 := Tryz.isAgg124
 z76 := Tryz.sizeOf124
 v76 := Tryz.zeroValue124
 t105 := Tryz.underlying155
 a105 := Tryz.isAgg155
 z105 := Tryz.sizeOf155
 v105 := Tryz.zeroValue155
 t107 := Tryz.underlying251
 a107 := Tryz.isAgg251
 z107 := Tryz.sizeOf251
 v107 := Tryz.zeroValue251
 t119 := Tryz.underlying134
 a119 := Tryz.isAgg134
 z119 := Tryz.sizeOf134
 t127 := Tryz.underlying140
 a127 := Tryz.isAgg140
 z127 := Tryz.sizeOf140
 v127 := Tryz.zeroValue140
 t138 := Tryz.underlying210
 a138 := Tryz.isAgg210
 z138 := Tryz.sizeOf210
 v138 := Tryz.zeroValue210
 t139 := Tryz.underlying211
 a139 := Tryz.isAgg211
 z139 := Tryz.sizeOf211
 v139 := Tryz.zeroValue211
 t160 := Tryz.underlying257
 a160 := Tryz.isAgg257
 z160 := Tryz.sizeOf257
 v160 := Tryz.zeroValue257
 t162 := Tryz.underlying256
 a162 := Tryz.isAgg256
 z162 := Tryz.sizeOf256
 v162 := Tryz.zeroValue256
 t164 := Tryz.underlying159
 a164 := Tryz.isAgg159
 z164 := Tryz.sizeOf159
 v164 := Tryz.zeroValue159
 t203 := Tryz.underlying254
 a203 := Tryz.isAgg254
 z203 := Tryz.sizeOf254
 v203 := Tryz.zeroValue254
 t206 := Tryz.underlying261
 a206 := Tryz.isAgg261
 z206 := Tryz.sizeOf261
 v206 := Tryz.zeroValue261
 t208 := Tryz.underlying263
 a208 := Tryz.isAgg263
 z208 := Tryz.sizeOf263
 v208 := Tryz.zeroValue263
 g3 := by kernel_rfl
 g4 := by kernel_rfl
 g13 := by kernel_rfl }
theorem Tryz.Builder_Extra_159 : Builder.Extra Tryz.prog Tryz.lays159_ren := {
 sizeBuilder := by kernel_rfl
 liesBuilder := by kernel_rfl
 t5 := Tryz.underlying5
 a5 := Tryz.isAgg5
 z5 := Tryz.sizeOf5
 v5 := Tryz.zeroValue5
 infoByte := by kernel_rfl
 cellsByte := by kernel_rfl
 sizeByte := by kernel_rfl
 neB5 := by decide }
open Go.RowKit in
theorem Tryz.strings_ToLower_ascii (s : ByteArray) (w : World) (hs : s.size ≤ 140737488355328) (hascii : ∀ (j : Nat) (b : UInt8), s.data.toList[j]? = some b → b.toNat < 128) :
  Calls Tryz.prog 182 #[.string s] w fun e w' => e = .returned (.string ⟨(Lib.toLowerA s.data.toList).toArray⟩) ∧ Below w.heap.size w w' := Any.strings_ToLower_ascii Tryz.lays159 Tryz.Builder_Extra_159 s w hs hascii
def Tryz.lays156_ren : Go.Shelf.Ren := ⟨fun | 156 => 95 | 165 => 117 | 166 => 70 | 169 => 71 | 240 => 86 | 241 => 136 | 276 => 105 | 277 => 146 | n => n, fun | 31 => 25 | 9 => 9 | 3 => 3 | 4 => 4 | 0 => 0 | 20 => 20 | 72 => 123 | 76 => 124 | 70 => 120 | 37 => 121 | 75 => 61 | 127 => 140 | 164 => 159 | 5 => 5 | 80 => 86 | n => n, fun | n => n⟩
theorem Tryz.lays156 : Go.Proofs.Lays.n156 Tryz.prog Tryz.lays156_ren := {
 mixed := by kernel_rfl
 f156 := Tryz.func95.trans (congrArg some (by kernel_rfl))
 f165 := Tryz.func117.trans (congrArg some (by kernel_rfl))
 f166 := Tryz.func70.trans (congrArg some (by kernel_rfl))
 f169 := Tryz.func71.trans (congrArg some (by kernel_rfl))
 f240 := Tryz.func86.trans (congrArg some (by kernel_rfl))
 f241 := Tryz.func136.trans (congrArg some (by kernel_rfl))
 f276 := Tryz.func105.trans (congrArg some (by kernel_rfl))
 f277 := Tryz.func146.trans (congrArg some (by kernel_rfl))
 t0 := Tryz.underlying0
 a0 := Tryz.isAgg0
 z0 := Tryz.sizeOf0
 v0 := Tryz.zeroValue0
 t3 := Tryz.underlying3
 a3 := Tryz.isAgg3
 z3 := Tryz.sizeOf3
 v3 := Tryz.zeroValue3
 t4 := Tryz.underlying4
 a4 := Tryz.isAgg4
 z4 := Tryz.sizeOf4
 v4 := Tryz.zeroValue4
 t9 := Tryz.underlying9
 a9 := Tryz.isAgg9
 z9 := Tryz.sizeOf9
 v9 := Tryz.zeroValue9
 t20 := Tryz.underlying20
 a20 := Tryz.isAgg20
 z20 := Tryz.sizeOf20
 v20 := Tryz.zeroValue20
 t31 := Tryz.underlying25
 a31 := Tryz.isAgg25
 z31 := Tryz.sizeOf25
 v31 := Tryz.zeroValue25
 t37 := Tryz.underlying121
 a37 := Tryz.isAgg121
 z37 := Tryz.sizeOf121
 v37 := Tryz.zeroValue121
 t70 := Tryz.underlying120
 a70 := Tryz.isAgg120
 z70 := Tryz.sizeOf120
 v70 := Tryz.zeroValue120
 t72 := Tryz.underlying123
 a72 := Tryz.isAgg123
 z72 := Tryz.sizeOf123
 v72 := Tryz.zeroValue123
 t75 := Tryz.underlying61
 a75 := Tryz.isAgg61
 z75 := Tryz.sizeOf61
 v75 := Tryz.zeroValue61
 t76 := Tryz.underlying124
 a76 := Tryz.isAgg124
 z76 := Tryz.sizeOf124
 v76 := Tryz.zeroValue124
 t127 := Tryz.underlying140
 a127 := Tryz.isAgg140
 z127 := Tryz.sizeOf140
 v127 := Tryz.zeroValue140
 t164 := Tryz.underlying159
 a164 := Tryz.isAgg159
 z164 := Tryz.sizeOf159
 v164 := Tryz.zeroValue159 }
theorem Tryz.Builder_Extra_156 : Builder.Extra Tryz.prog Tryz.lays156_ren := {
 sizeBuilder := by kernel_rfl
 liesBuilder := by kernel_rfl
 t5 := Tryz.underlying5
 a5 := Tryz.isAgg5
 z5 := Tryz.sizeOf5
 v5 := Tryz.zeroValue5
 infoByte := by kernel_rfl
 cellsByte := by kernel_rfl
 sizeByte := by kernel_rfl
 neB5 := by decide }
open Go.RowKit in
theorem Tryz.strings_Join_none (a : Option Addr) (c : Nat) (sep : ByteArray) (w : World) :
  Calls Tryz.prog 95 #[.slice a 0 c, .string sep] w fun e w' => e = .returned (.string ⟨#[]⟩) ∧ w' = w := Any.strings_Join_none Tryz.lays156 Tryz.Builder_Extra_156 a c sep w
open Go.RowKit in
theorem Tryz.strings_Join (bk o c : Nat) (xs : List ByteArray) (sep : ByteArray) (w : World) (hcells : ∀ (j : Nat) x, xs[j]? = some x → w.cell? ⟨bk, o + j, none⟩ = some (.string x)) (hbk : bk < w.heap.size) (hN : xs.length ≤ 140737488355328) (hcap : xs.length ≤ c) (hlen : (Lib.join (xs.map (·.data.toList)) sep.data.toList).length ≤ 140737488355328) :
  Calls Tryz.prog 95 #[.slice (some ⟨bk, o, none⟩) xs.length c, .string sep] w fun e w' => e = .returned (.string ⟨(Lib.join (xs.map (·.data.toList)) sep.data.toList).toArray⟩) ∧ Below w.heap.size w w' := Any.strings_Join Tryz.lays156 Tryz.Builder_Extra_156 bk o c xs sep w hcells hbk hN hcap hlen
def Tryz.lays163_ren : Go.Shelf.Ren := ⟨fun | 163 => 52 | 237 => 75 | 199 => 76 | 238 => 77 | 272 => 96 | 261 => 97 | 273 => 98 | 197 => 99 | 315 => 118 | 311 => 119 | 312 => 120 | 271 => 121 | 260 => 122 | 120 => 137 | n => n, fun | 9 => 9 | 37 => 121 | 3 => 3 | 0 => 0 | 5 => 5 | 4 => 4 | 40 => 133 | 119 => 134 | 21 => 21 | 51 => 98 | 141 => 153 | 105 => 155 | 196 => 186 | 193 => 183 | 198 => 189 | 49 => 187 | 194 => 184 | 201 => 192 | 226 => 207 | 46 => 26 | 227 => 208 | 139 => 211 | 138 => 210 | n => n, fun | 0 => 0 | 6 => 1 | 3 => 5 | 4 => 6 | n => n⟩
theorem Tryz.lays163 : Go.Proofs.Lays.n163 Tryz.prog Tryz.lays163_ren := {
 mixed := by kernel_rfl
 f120 := Tryz.func137.trans (congrArg some (by kernel_rfl))
 f163 := Tryz.func52.trans (congrArg some (by kernel_rfl))
 f197 := Tryz.func99.trans (congrArg some (by kernel_rfl))
 f199 := Tryz.func76.trans (congrArg some (by kernel_rfl))
 f237 := Tryz.func75.trans (congrArg some (by kernel_rfl))
 f238 := Tryz.func77.trans (congrArg some (by kernel_rfl))
 f260 := Tryz.func122.trans (congrArg some (by kernel_rfl))
 f261 := Tryz.func97.trans (congrArg some (by kernel_rfl))
 f271 := Tryz.func121.trans (congrArg some (by kernel_rfl))
 f272 := Tryz.func96.trans (congrArg some (by kernel_rfl))
 f273 := Tryz.func98.trans (congrArg some (by kernel_rfl))
 f311 := Tryz.func119.trans (congrArg some (by kernel_rfl))
 f312 := Tryz.func120.trans (congrArg some (by kernel_rfl))
 f315 := Tryz.func118.trans (congrArg some (by kernel_rfl))
 t0 := Tryz.underlying0
 a0 := Tryz.isAgg0
 z0 := Tryz.sizeOf0
 v0 := Tryz.zeroValue0
 t3 := Tryz.underlying3
 a3 := Tryz.isAgg3
 z3 := Tryz.sizeOf3
 v3 := Tryz.zeroValue3
 t4 := Tryz.underlying4
 a4 := Tryz.isAgg4
 z4 := Tryz.sizeOf4
 v4 := Tryz.zeroValue4
 t5 := Tryz.underlying5
 a5 := Tryz.isAgg5
 z5 := Tryz.sizeOf5
 v5 := Tryz.zeroValue5
 t9 := Tryz.underlying9
 a9 := Tryz.isAgg9
 z9 := Tryz.sizeOf9
 v9 := Tryz.zeroValue9
 t21 := Tryz.underlying21
 a21 := Tryz.isAgg21
 z21 := Tryz.sizeOf21
 v21 := Tryz.zeroValue21
 t37 := Tryz.underlying121
 a37 := Tryz.isAgg121
 z37 := Tryz.sizeOf121
 v37 := Tryz.zeroValue121
 t40 := Tryz.underlying133
 a40 := Tryz.isAgg133
 z40 := Tryz.sizeOf133
 v40 := Tryz.zeroValue133
 t46 := Tryz.underlying26
 a46 := Tryz.isAgg26
 z46 := Tryz.sizeOf26
 v46 := Tryz.zeroValue26
 t49 := Tryz.underlying187
 a49 := Tryz.isAgg187
 z49 := Tryz.sizeOf187
 v49 := Tryz.zeroValue187
 t51 := Tryz.underlying98
 a51 := Tryz.isAgg98
 z51 := Tryz.sizeOf98
 v51 := Tryz.zeroValue98
 t105 := Tryz.underlying155
 a105 := Tryz.isAgg155
 z105 := Tryz.sizeOf155
 v105 := Tryz.zeroValue155
 t119 := Tryz.underlying134
 a119 := Tryz.isAgg134
 z119 := Tryz.sizeOf134
 t138 := Tryz.underlying210
 a138 := Tryz.isAgg210
 z138 := Tryz.sizeOf210
 v138 := Tryz.zeroValue210
 t139 := Tryz.underlying211
 a139 := Tryz.isAgg211
 z139 := Tryz.sizeOf211
 v139 := Tryz.zeroValue211
 t141 := Tryz.underlying153
 a141 := Tryz.isAgg153
 z141 := Tryz.sizeOf153
 v141 := Tryz.zeroValue153
 t193 := Tryz.underlying183
 a193 := Tryz.isAgg183
 z193 := Tryz.sizeOf183
 v193 := Tryz.zeroValue183
 t194 := Tryz.underlying184
 a194 := Tryz.isAgg184
 z194 := Tryz.sizeOf184
 v194 := Tryz.zeroValue184
 t196 := Tryz.underlying186
 a196 := Tryz.isAgg186
 z196 := Tryz.sizeOf186
 v196 := Tryz.zeroValue186
 t198 := Tryz.underlying189
 a198 := Tryz.isAgg189
 z198 := Tryz.sizeOf189
 v198 := Tryz.zeroValue189
 t201 := Tryz.underlying192
 a201 := Tryz.isAgg192
 z201 := Tryz.sizeOf192
 v201 := Tryz.zeroValue192
 t226 := Tryz.underlying207
 a226 := Tryz.isAgg207
 z226 := Tryz.sizeOf207
 v226 := Tryz.zeroValue207
 t227 := Tryz.underlying208
 a227 := Tryz.isAgg208
 z227 := Tryz.sizeOf208
 v227 := Tryz.zeroValue208
 g0 := by kernel_rfl
 g3 := by kernel_rfl
 g4 := by kernel_rfl
 g6 := by kernel_rfl }
theorem Tryz.Space_Extra_163 : Space.Extra Tryz.prog Tryz.lays163_ren := {
 gNamed := by kernel_rfl }
open Go.RowKit in
theorem Tryz.strings_TrimSpace (s : ByteArray) (w : World) (hs : s.size ≤ 9223372036854775807) (hascii : ∀ (j : Nat) b, s.data.toList[j]? = some b → b.toNat < 128) (htab : Lib.TabIs Tryz.prog w "strings.asciiSpace" .u8 Lib.asciiSpaceTab) :
  Calls Tryz.prog 52 #[.string s] w fun e w' => e = .returned (.string ⟨(Lib.trimSpace s.data.toList).toArray⟩) ∧ w' = Lib.bytesWorld w 5 s := Any.strings_TrimSpace Tryz.lays163 Tryz.Space_Extra_163 s w hs hascii htab
open Go.RowKit in
theorem Tryz.Builder_String_any_f (B b : Nat) (l : List UInt8) (w : World) (h : Lib.IsBuilderF 123 5 B b (Lib.byteCells l) w) (hBw : B ≤ w.heap.size) :
  Calls Tryz.prog 71 #[.pointer (some ⟨b, 0, none⟩)] w fun e w' => e = .returned (.string ⟨l.toArray⟩) ∧ (Lib.IsBuilderF 123 5 B b (Lib.byteCells l) w' ∧ Below B w w') := Any.Builder_String_any_f Tryz.lays169 Tryz.Builder_Extra_169 B b l w h hBw
def Tryz.laysM181_ren : Go.Shelf.Ren := ⟨fun | 181 => 108 | n => n, fun | 130 => 166 | 3 => 3 | 0 => 0 | 93 => 164 | 37 => 121 | 91 => 162 | 5 => 5 | n => n, fun | n => n⟩
theorem Tryz.laysM181 : Go.Proofs.LaysM.n181 Tryz.prog Tryz.laysM181_ren := {
 mixed := by kernel_rfl
 f181 := Tryz.func108.trans (congrArg some (by kernel_rfl))
 t0 := Tryz.underlying0
 a0 := Tryz.isAgg0
 z0 := Tryz.sizeOf0
 v0 := Tryz.zeroValue0
 t3 := Tryz.underlying3
 a3 := Tryz.isAgg3
 z3 := Tryz.sizeOf3
 v3 := Tryz.zeroValue3
 t37 := Tryz.underlying121
 a37 := Tryz.isAgg121
 z37 := Tryz.sizeOf121
 v37 := Tryz.zeroValue121
 t93 := Tryz.underlying164
 a93 := Tryz.isAgg164
 z93 := Tryz.sizeOf164
 v93 := Tryz.zeroValue164
 t130 := Tryz.underlying166
 a130 := Tryz.isAgg166
 z130 := Tryz.sizeOf166
 v130 := Tryz.zeroValue166
 t5 := Tryz.underlying5
 a5 := Tryz.isAgg5
 z5 := Tryz.sizeOf5
 v5 := Tryz.zeroValue5
 t91 := Tryz.underlying162
 a91 := Tryz.isAgg162
 z91 := Tryz.sizeOf162
 v91 := Tryz.zeroValue162
 i0 := by kernel_rfl
 i3 := by kernel_rfl
 i5 := by kernel_rfl
 i37 := by kernel_rfl
 i91 := by kernel_rfl
 i93 := by kernel_rfl
 i130 := by kernel_rfl }
open Go.RowKit in
theorem Tryz.Buffer_Len (B b : Nat) (bs : List Value) (w : World) (h : Lib.IsBuffer 164 5 B b bs w) :
  Calls Tryz.prog 108 #[.pointer (some ⟨b, 0, none⟩)] w fun e w' => e = .returned (.int .i64 bs.length) ∧ ∃ n, w' = w.drewN n := Any.Buffer_Len Tryz.laysM181 B b bs w h
def Tryz.laysM184_ren : Go.Shelf.Ren := ⟨fun | 184 => 129 | n => n, fun | 130 => 166 | 0 => 0 | 93 => 164 | 37 => 121 | 3 => 3 | 91 => 162 | 5 => 5 | n => n, fun | n => n⟩
theorem Tryz.laysM184 : Go.Proofs.LaysM.n184 Tryz.prog Tryz.laysM184_ren := {
 mixed := by kernel_rfl
 f184 := Tryz.func129.trans (congrArg some (by kernel_rfl))
 t0 := Tryz.underlying0
 a0 := Tryz.isAgg0
 z0 := Tryz.sizeOf0
 v0 := Tryz.zeroValue0
 t3 := Tryz.underlying3
 a3 := Tryz.isAgg3
 z3 := Tryz.sizeOf3
 v3 := Tryz.zeroValue3
 t37 := Tryz.underlying121
 a37 := Tryz.isAgg121
 z37 := Tryz.sizeOf121
 v37 := Tryz.zeroValue121
 t91 := Tryz.underlying162
 a91 := Tryz.isAgg162
 z91 := Tryz.sizeOf162
 v91 := Tryz.zeroValue162
 t93 := Tryz.underlying164
 a93 := Tryz.isAgg164
 z93 := Tryz.sizeOf164
 v93 := Tryz.zeroValue164
 t130 := Tryz.underlying166
 a130 := Tryz.isAgg166
 z130 := Tryz.sizeOf166
 v130 := Tryz.zeroValue166
 t5 := Tryz.underlying5
 a5 := Tryz.isAgg5
 z5 := Tryz.sizeOf5
 v5 := Tryz.zeroValue5
 i0 := by kernel_rfl
 i3 := by kernel_rfl
 i5 := by kernel_rfl
 i37 := by kernel_rfl
 i91 := by kernel_rfl
 i93 := by kernel_rfl
 i130 := by kernel_rfl }
def Tryz.laysM180_ren : Go.Shelf.Ren := ⟨fun | 180 => 113 | 251 => 132 | 252 => 133 | 181 => 108 | 184 => 129 | 290 => 144 | 324 => 151 | n => n, fun | 130 => 166 | 37 => 121 | 3 => 3 | 75 => 61 | 0 => 0 | 93 => 164 | 91 => 162 | 131 => 202 | 4 => 4 | 20 => 20 | 5 => 5 | 80 => 86 | 9 => 9 | n => n, fun | 14 => 7 | n => n⟩
theorem Tryz.laysM180 : Go.Proofs.LaysM.n180 Tryz.prog Tryz.laysM180_ren := {
 mixed := by kernel_rfl
 f180 := Tryz.func113.trans (congrArg some (by kernel_rfl))
 f181 := Tryz.func108.trans (congrArg some (by kernel_rfl))
 f184 := Tryz.func129.trans (congrArg some (by kernel_rfl))
 f251 := Tryz.func132.trans (congrArg some (by kernel_rfl))
 f252 := Tryz.func133.trans (congrArg some (by kernel_rfl))
 f290 := Tryz.func144.trans (congrArg some (by kernel_rfl))
 f324 := Tryz.func151.trans (congrArg some (by kernel_rfl))
 t0 := Tryz.underlying0
 a0 := Tryz.isAgg0
 z0 := Tryz.sizeOf0
 v0 := Tryz.zeroValue0
 t3 := Tryz.underlying3
 a3 := Tryz.isAgg3
 z3 := Tryz.sizeOf3
 v3 := Tryz.zeroValue3
 t4 := Tryz.underlying4
 a4 := Tryz.isAgg4
 z4 := Tryz.sizeOf4
 v4 := Tryz.zeroValue4
 t20 := Tryz.underlying20
 a20 := Tryz.isAgg20
 z20 := Tryz.sizeOf20
 v20 := Tryz.zeroValue20
 t37 := Tryz.underlying121
 a37 := Tryz.isAgg121
 z37 := Tryz.sizeOf121
 v37 := Tryz.zeroValue121
 t75 := Tryz.underlying61
 a75 := Tryz.isAgg61
 z75 := Tryz.sizeOf61
 v75 := Tryz.zeroValue61
 t91 := Tryz.underlying162
 a91 := Tryz.isAgg162
 z91 := Tryz.sizeOf162
 v91 := Tryz.zeroValue162
 t93 := Tryz.underlying164
 a93 := Tryz.isAgg164
 z93 := Tryz.sizeOf164
 v93 := Tryz.zeroValue164
 t130 := Tryz.underlying166
 a130 := Tryz.isAgg166
 z130 := Tryz.sizeOf166
 v130 := Tryz.zeroValue166
 t131 := Tryz.underlying202
 a131 := Tryz.isAgg202
 z131 := Tryz.sizeOf202
 v131 := Tryz.zeroValue202
 g14 := by kernel_rfl
 t5 := Tryz.underlying5
 a5 := Tryz.isAgg5
 z5 := Tryz.sizeOf5
 v5 := Tryz.zeroValue5
 t9 := Tryz.underlying9
 a9 := Tryz.isAgg9
 z9 := Tryz.sizeOf9
 v9 := Tryz.zeroValue9
 t80 := Tryz.underlying86
 a80 := Tryz.isAgg86
 z80 := Tryz.sizeOf86
 v80 := Tryz.zeroValue86
 i0 := by kernel_rfl
 i3 := by kernel_rfl
 i4 := by kernel_rfl
 i5 := by kernel_rfl
 i9 := by kernel_rfl
 i20 := by kernel_rfl
 i37 := by kernel_rfl
 i75 := by kernel_rfl
 i80 := by kernel_rfl
 i91 := by kernel_rfl
 i93 := by kernel_rfl
 i130 := by kernel_rfl
 i131 := by kernel_rfl
 m14 := by kernel_rfl }
def Tryz.laysM183_ren : Go.Shelf.Ren := ⟨fun | 183 => 127 | n => n, fun | 130 => 166 | 37 => 121 | 0 => 0 | 93 => 164 | 3 => 3 | 5 => 5 | 91 => 162 | n => n, fun | n => n⟩
theorem Tryz.laysM183 : Go.Proofs.LaysM.n183 Tryz.prog Tryz.laysM183_ren := {
 mixed := by kernel_rfl
 f183 := Tryz.func127.trans (congrArg some (by kernel_rfl))
 t0 := Tryz.underlying0
 a0 := Tryz.isAgg0
 z0 := Tryz.sizeOf0
 v0 := Tryz.zeroValue0
 t3 := Tryz.underlying3
 a3 := Tryz.isAgg3
 z3 := Tryz.sizeOf3
 v3 := Tryz.zeroValue3
 t37 := Tryz.underlying121
 a37 := Tryz.isAgg121
 z37 := Tryz.sizeOf121
 v37 := Tryz.zeroValue121
 t93 := Tryz.underlying164
 a93 := Tryz.isAgg164
 z93 := Tryz.sizeOf164
 v93 := Tryz.zeroValue164
 t130 := Tryz.underlying166
 a130 := Tryz.isAgg166
 z130 := Tryz.sizeOf166
 v130 := Tryz.zeroValue166
 t5 := Tryz.underlying5
 a5 := Tryz.isAgg5
 z5 := Tryz.sizeOf5
 v5 := Tryz.zeroValue5
 t91 := Tryz.underlying162
 a91 := Tryz.isAgg162
 z91 := Tryz.sizeOf162
 v91 := Tryz.zeroValue162
 i0 := by kernel_rfl
 i3 := by kernel_rfl
 i5 := by kernel_rfl
 i37 := by kernel_rfl
 i91 := by kernel_rfl
 i93 := by kernel_rfl
 i130 := by kernel_rfl }
open Go.RowKit in
theorem Tryz.Buffer_Bytes (B b : Nat) (bs : List Value) (w : World) (h : Lib.IsBuffer 164 5 B b bs w) :
  Calls Tryz.prog 127 #[.pointer (some ⟨b, 0, none⟩)] w fun e w' => ∃ v, e = .returned v ∧ w'.ownsRow B 5 1 v bs.length bs ∧ ∃ n, w' = w.drewN n := Any.Buffer_Bytes Tryz.laysM183 B b bs w h
open Go.RowKit in
theorem Tryz.Buffer_Reset_kept (B b : Nat) (bs : List Value) (w : World) (h : Lib.IsBuffer 164 5 B b bs w) :
  Calls Tryz.prog 129 #[.pointer (some ⟨b, 0, none⟩)] w fun e w' => e = .returned (.tuple #[]) ∧ Lib.IsBuffer 164 5 B b [] w' ∧ Below B w w' ∧ Lib.OthersKept 5 (some b) w w' := Any.Buffer_Reset_kept Tryz.laysM184 B b bs w h
open Go.RowKit in
theorem Tryz.Buffer_Write_kept (B b : Nat) (bs cs : List Value) (a : Addr) (n c : Nat) (w : World) (h : Lib.IsBuffer 164 5 B b bs w) (hBw : B ≤ w.heap.size) (h1 : ∀ v ∈ bs, v.oneCell' = true) (hn : cs.length = n) (haB : a.block < B) (hsrc : ∀ j v, cs[j]? = some v → w.cell? (a.add j) = some v) (h1c : ∀ v ∈ cs, v.oneCell' = true) (hlim : bs.length + n ≤ 140737488355328) :
  Calls Tryz.prog 113 #[.pointer (some ⟨b, 0, none⟩), .slice (some a) n c] w fun e w' => e = .returned (.tuple #[.int .i64 n, .nilIface]) ∧ Lib.IsBuffer 164 5 B b (bs ++ cs) w' ∧ Below B w w' ∧ Lib.OthersKept 5 (some b) w w' := Any.Buffer_Write_kept Tryz.laysM180 B b bs cs a n c w h hBw h1 hn haB hsrc h1c hlim
def Tryz.lays187_ren : Go.Shelf.Ren := ⟨fun | 187 => 138 | 255 => 147 | n => n, fun | 37 => 121 | 5 => 5 | 3 => 3 | n => n, fun | n => n⟩
theorem Tryz.lays187 : Go.Proofs.Lays.n187 Tryz.prog Tryz.lays187_ren := {
 mixed := by kernel_rfl
 f187 := Tryz.func138.trans (congrArg some (by kernel_rfl))
 f255 := Tryz.func147.trans (congrArg some (by kernel_rfl))
 t3 := Tryz.underlying3
 a3 := Tryz.isAgg3
 z3 := Tryz.sizeOf3
 v3 := Tryz.zeroValue3
 t5 := Tryz.underlying5
 a5 := Tryz.isAgg5
 z5 := Tryz.sizeOf5
 v5 := Tryz.zeroValue5
 t37 := Tryz.underlying121
 a37 := Tryz.isAgg121
 z37 := Tryz.sizeOf121
 v37 := Tryz.zeroValue121 }
open Go.RowKit Go.Lib in
theorem Tryz.bytes_IndexByte_at (a : Addr) (n c : Nat) (xs : List Int) (cv : Int) (w : World) (hx : xs.length = n) (hc : ∀ i, i < n → w.cell? (a.add i) = some (.int .u8 (xs.getD i 0))) :
  Calls Tryz.prog 138 #[.slice (some a) n c, .int .u8 cv] w fun e w' => e = .returned (.int .i64 (Lib.indexByte (Lib.bytesOf xs) cv.toNat.toUInt8)) ∧ w' = w := Any.bytes_IndexByte_at Tryz.lays187 a n c xs cv w hx hc
def Tryz.laysnb116_ren : Go.Shelf.Ren := ⟨fun | 116 => 111 | 115 => 110 | n => n, fun | 37 => 121 | 4 => 4 | 3 => 3 | 9 => 9 | 5 => 5 | n => n, fun | n => n⟩
theorem Tryz.laysnb116 : Go.Proofs.Lays.nb116 Tryz.prog Tryz.laysnb116_ren := {
 mixed := by kernel_rfl
 f115 := Tryz.func110.trans (congrArg some (by kernel_rfl))
 f116 := Tryz.func111.trans (congrArg some (by kernel_rfl))
 t3 := Tryz.underlying3
 a3 := Tryz.isAgg3
 z3 := Tryz.sizeOf3
 v3 := Tryz.zeroValue3
 t4 := Tryz.underlying4
 a4 := Tryz.isAgg4
 z4 := Tryz.sizeOf4
 v4 := Tryz.zeroValue4
 t9 := Tryz.underlying9
 a9 := Tryz.isAgg9
 z9 := Tryz.sizeOf9
 v9 := Tryz.zeroValue9
 t37 := Tryz.underlying121
 a37 := Tryz.isAgg121
 z37 := Tryz.sizeOf121
 v37 := Tryz.zeroValue121
 t5 := Tryz.underlying5
 a5 := Tryz.isAgg5
 z5 := Tryz.sizeOf5
 v5 := Tryz.zeroValue5 }
def Tryz.laysnb117_ren : Go.Shelf.Ren := ⟨fun | 117 => 112 | 115 => 110 | n => n, fun | 37 => 121 | 4 => 4 | 3 => 3 | 9 => 9 | 5 => 5 | n => n, fun | n => n⟩
theorem Tryz.laysnb117 : Go.Proofs.Lays.nb117 Tryz.prog Tryz.laysnb117_ren := {
 mixed := by kernel_rfl
 f115 := Tryz.func110.trans (congrArg some (by kernel_rfl))
 f117 := Tryz.func112.trans (congrArg some (by kernel_rfl))
 t3 := Tryz.underlying3
 a3 := Tryz.isAgg3
 z3 := Tryz.sizeOf3
 v3 := Tryz.zeroValue3
 t4 := Tryz.underlying4
 a4 := Tryz.isAgg4
 z4 := Tryz.sizeOf4
 v4 := Tryz.zeroValue4
 t9 := Tryz.underlying9
 a9 := Tryz.isAgg9
 z9 := Tryz.sizeOf9
 v9 := Tryz.zeroValue9
 t37 := Tryz.underlying121
 a37 := Tryz.isAgg121
 z37 := Tryz.sizeOf121
 v37 := Tryz.zeroValue121
 t5 := Tryz.underlying5
 a5 := Tryz.isAgg5
 z5 := Tryz.sizeOf5
 v5 := Tryz.zeroValue5 }
theorem Tryz.bytes_HasPrefix_all (p1 p2 : Option Addr) (n c m d : Nat) (xs ys : List Int) (w : World) (hx : xs.length = n) (hy : ys.length = m) (hnc : n ≤ c) (h1 : Lib.BytesIn w p1 n xs) (h2 : Lib.BytesIn w p2 m ys) :
  Calls Tryz.prog 111 #[.slice p1 n c, .slice p2 m d] w fun e w' => e = .returned (.bool (Lib.hasPrefix (Lib.bytesOf xs) (Lib.bytesOf ys))) ∧ w' = w := Any.bytes_HasPrefix_all Tryz.laysnb116 p1 p2 n c m d xs ys w hx hy hnc h1 h2
theorem Tryz.bytes_HasSuffix_all (p1 p2 : Option Addr) (n c m d : Nat) (xs ys : List Int) (w : World) (hx : xs.length = n) (hy : ys.length = m) (hnc : n ≤ c) (hbig : n ≤ 9223372036854775807) (h1 : Lib.BytesIn w p1 n xs) (h2 : Lib.BytesIn w p2 m ys) :
  Calls Tryz.prog 112 #[.slice p1 n c, .slice p2 m d] w fun e w' => e = .returned (.bool (Lib.hasSuffix (Lib.bytesOf xs) (Lib.bytesOf ys))) ∧ w' = w := Any.bytes_HasSuffix_all Tryz.laysnb117 p1 p2 n c m d xs ys w hx hy hnc hbig h1 h2
def Tryz.laysnb115_ren : Go.Shelf.Ren := ⟨fun | 115 => 110 | n => n, fun | 37 => 121 | 4 => 4 | 9 => 9 | 5 => 5 | n => n, fun | n => n⟩
theorem Tryz.laysnb115 : Go.Proofs.Lays.nb115 Tryz.prog Tryz.laysnb115_ren := {
 mixed := by kernel_rfl
 f115 := Tryz.func110.trans (congrArg some (by kernel_rfl))
 t4 := Tryz.underlying4
 a4 := Tryz.isAgg4
 z4 := Tryz.sizeOf4
 v4 := Tryz.zeroValue4
 t9 := Tryz.underlying9
 a9 := Tryz.isAgg9
 z9 := Tryz.sizeOf9
 v9 := Tryz.zeroValue9
 t37 := Tryz.underlying121
 a37 := Tryz.isAgg121
 z37 := Tryz.sizeOf121
 v37 := Tryz.zeroValue121
 t5 := Tryz.underlying5
 a5 := Tryz.isAgg5
 z5 := Tryz.sizeOf5
 v5 := Tryz.zeroValue5 }
theorem Tryz.bytes_Equal_all (p1 p2 : Option Addr) (n c m d : Nat) (xs ys : List Int) (w : World) (hx : xs.length = n) (hy : ys.length = m) (h1 : Lib.BytesIn w p1 n xs) (h2 : Lib.BytesIn w p2 m ys) :
  Calls Tryz.prog 110 #[.slice p1 n c, .slice p2 m d] w fun e w' => e = .returned (.bool (Lib.bytesOf xs == Lib.bytesOf ys)) ∧ w' = w := Any.bytes_Equal_all Tryz.laysnb115 p1 p2 n c m d xs ys w hx hy h1 h2
def Tryz.laysbs188_ren : Go.Shelf.Ren := ⟨fun | 188 => 109 | 256 => 131 | 199 => 76 | 293 => 143 | 292 => 142 | 261 => 97 | 327 => 150 | 325 => 148 | 326 => 149 | 311 => 119 | 312 => 120 | 341 => 153 | 342 => 154 | 120 => 137 | n => n, fun | 37 => 121 | 3 => 3 | 0 => 0 | 5 => 5 | 4 => 4 | 40 => 133 | 119 => 134 | 21 => 21 | 51 => 98 | 141 => 153 | 105 => 155 | 196 => 186 | 193 => 183 | 198 => 189 | 49 => 187 | 194 => 184 | 201 => 192 | 226 => 207 | 46 => 26 | 227 => 208 | 139 => 211 | 138 => 210 | n => n, fun | 2 => 4 | 6 => 1 | 3 => 5 | 4 => 6 | n => n⟩
theorem Tryz.laysbs188 : Go.Proofs.Lays.nbs188 Tryz.prog Tryz.laysbs188_ren := {
 mixed := by kernel_rfl
 f120 := Tryz.func137.trans (congrArg some (by kernel_rfl))
 f188 := Tryz.func109.trans (congrArg some (by kernel_rfl))
 f199 := Tryz.func76.trans (congrArg some (by kernel_rfl))
 f256 := Tryz.func131.trans (congrArg some (by kernel_rfl))
 f261 := Tryz.func97.trans (congrArg some (by kernel_rfl))
 f292 := Tryz.func142.trans (congrArg some (by kernel_rfl))
 f293 := Tryz.func143.trans (congrArg some (by kernel_rfl))
 f311 := Tryz.func119.trans (congrArg some (by kernel_rfl))
 f312 := Tryz.func120.trans (congrArg some (by kernel_rfl))
 f325 := Tryz.func148.trans (congrArg some (by kernel_rfl))
 f326 := Tryz.func149.trans (congrArg some (by kernel_rfl))
 f327 := Tryz.func150.trans (congrArg some (by kernel_rfl))
 f341 := Tryz.func153.trans (congrArg some (by kernel_rfl))
 f342 := Tryz.func154.trans (congrArg some (by kernel_rfl))
 t0 := Tryz.underlying0
 a0 := Tryz.isAgg0
 z0 := Tryz.sizeOf0
 v0 := Tryz.zeroValue0
 t3 := Tryz.underlying3
 a3 := Tryz.isAgg3
 z3 := Tryz.sizeOf3
 v3 := Tryz.zeroValue3
 t4 := Tryz.underlying4
 a4 := Tryz.isAgg4
 z4 := Tryz.sizeOf4
 v4 := Tryz.zeroValue4
 t5 := Tryz.underlying5
 a5 := Tryz.isAgg5
 z5 := Tryz.sizeOf5
 v5 := Tryz.zeroValue5
 t21 := Tryz.underlying21
 a21 := Tryz.isAgg21
 z21 := Tryz.sizeOf21
 v21 := Tryz.zeroValue21
 t37 := Tryz.underlying121
 a37 := Tryz.isAgg121
 z37 := Tryz.sizeOf121
 v37 := Tryz.zeroValue121
 t40 := Tryz.underlying133
 a40 := Tryz.isAgg133
 z40 := Tryz.sizeOf133
 v40 := Tryz.zeroValue133
 t46 := Tryz.underlying26
 a46 := Tryz.isAgg26
 z46 := Tryz.sizeOf26
 v46 := Tryz.zeroValue26
 t49 := Tryz.underlying187
 a49 := Tryz.isAgg187
 z49 := Tryz.sizeOf187
 v49 := Tryz.zeroValue187
 t51 := Tryz.underlying98
 a51 := Tryz.isAgg98
 z51 := Tryz.sizeOf98
 v51 := Tryz.zeroValue98
 t105 := Tryz.underlying155
 a105 := Tryz.isAgg155
 z105 := Tryz.sizeOf155
 v105 := Tryz.zeroValue155
 t119 := Tryz.underlying134
 a119 := Tryz.isAgg134
 z119 := Tryz.sizeOf134
 t138 := Tryz.underlying210
 a138 := Tryz.isAgg210
 z138 := Tryz.sizeOf210
 v138 := Tryz.zeroValue210
 t139 := Tryz.underlying211
 a139 := Tryz.isAgg211
 z139 := Tryz.sizeOf211
 v139 := Tryz.zeroValue211
 t141 := Tryz.underlying153
 a141 := Tryz.isAgg153
 z141 := Tryz.sizeOf153
 v141 := Tryz.zeroValue153
 t193 := Tryz.underlying183
 a193 := Tryz.isAgg183
 z193 := Tryz.sizeOf183
 v193 := Tryz.zeroValue183
 t194 := Tryz.underlying184
 a194 := Tryz.isAgg184
 z194 := Tryz.sizeOf184
 v194 := Tryz.zeroValue184
 t196 := Tryz.underlying186
 a196 := Tryz.isAgg186
 z196 := Tryz.sizeOf186
 v196 := Tryz.zeroValue186
 t198 := Tryz.underlying189
 a198 := Tryz.isAgg189
 z198 := Tryz.sizeOf189
 v198 := Tryz.zeroValue189
 t201 := Tryz.underlying192
 a201 := Tryz.isAgg192
 z201 := Tryz.sizeOf192
 v201 := Tryz.zeroValue192
 t226 := Tryz.underlying207
 a226 := Tryz.isAgg207
 z226 := Tryz.sizeOf207
 v226 := Tryz.zeroValue207
 t227 := Tryz.underlying208
 a227 := Tryz.isAgg208
 z227 := Tryz.sizeOf208
 v227 := Tryz.zeroValue208
 g2 := by kernel_rfl
 g3 := by kernel_rfl
 g4 := by kernel_rfl
 g6 := by kernel_rfl
 gNamed := by kernel_rfl }
open Go.RowKit in
theorem Tryz.bytes_TrimSpace (b o n c : Nat) (xs : List Int) (w : World) (hx : xs.length = n) (hnc : n ≤ c) (hbig : n ≤ 9223372036854775807) (hc : ∀ i, i < n → w.cell? ⟨b, o + i, none⟩ = some (.int .u8 (xs.getD i 0))) (hascii : ∀ i, i < n → 0 ≤ xs.getD i 0 ∧ xs.getD i 0 < 128) (htab : Lib.TabIs Tryz.prog w "bytes.asciiSpace" .u8 Lib.asciiSpaceTab) :
  Calls Tryz.prog 109 #[.slice (some ⟨b, o, none⟩) n c] w fun e w' => e = .returned (Lib.bytesTrimSpace b o c (Lib.bytesOf xs)) ∧ w' = w := Any.bytes_TrimSpace Tryz.laysbs188 b o n c xs w hx hnc hbig hc hascii htab
end Go.Proofs
end
