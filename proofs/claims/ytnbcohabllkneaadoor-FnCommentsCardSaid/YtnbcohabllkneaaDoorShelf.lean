/- The library's functions that this seat's code calls, each by its contract: laid by the kit's shelf in plain words over this seat's program; each theorem says its own conditions. -/
/-
  DERIVED: THE SHELF's CONTRACTS AT THIS DUMP, IN PLAIN WORDS (tools/lay-plain.mjs out of 'TrydShelf.lean', which tools/lay-shelf.mjs wrote): THE SAME DECLARATIONS UNDER THE SAME NAMES: 'import', 'namespace', 'open', 'def', 'theorem' AND NOTHING ELSE: no command of the shelf's: FOR A HAND-IN. Each laying: the table of numbers ('.._ren') and one theorem, a field a fact of the dump's own or the kernel's comparison; each contract: ONE APPLICATION.
-/
import Derived.Shelf.Strings.TrimSpace
import Derived.Shelf.Small.Utf8
import Derived.Shelf.Unicode.Latin
import Derived.Shelf.Unicode.Decode
import Derived.Shelf.Unicode.DecodeSlow
import Derived.Shelf.Unicode.DecodeAny
import Derived.Shelf.Unicode.Is16White
import Derived.Shelf.Unicode.IsSpaceAny
import Derived.Shelf.Unicode.DecodeLast
import Derived.Shelf.Unicode.Is16Any
import Derived.Shelf.Unicode.Is32Any
import Derived.Shelf.Unicode.ExclAny
import Derived.Test.YtnbcohabllkneaaDoorProg
namespace Go.Proofs
open Go.Shelf
def Tryd.lays163_ren : Go.Shelf.Ren := ⟨fun | 163 => 20 | 237 => 22 | 199 => 23 | 238 => 24 | 272 => 27 | 261 => 28 | 273 => 29 | 197 => 30 | 315 => 31 | 311 => 32 | 312 => 33 | 271 => 34 | 260 => 35 | 120 => 36 | n => n, fun | 9 => 9 | 37 => 33 | 3 => 3 | 0 => 0 | 5 => 5 | 4 => 4 | 40 => 35 | 119 => 36 | 21 => 21 | 51 => 38 | 141 => 40 | 105 => 42 | 196 => 47 | 193 => 44 | 198 => 50 | 49 => 48 | 194 => 45 | 201 => 53 | 226 => 55 | 46 => 56 | 227 => 57 | 139 => 60 | 138 => 59 | n => n, fun | 0 => 0 | 6 => 1 | 3 => 2 | 4 => 3 | n => n⟩
theorem Tryd.lays163 : Go.Proofs.Lays.n163 Tryd.prog Tryd.lays163_ren := {
  mixed := by kernel_rfl
  f120 := Tryd.func36.trans (congrArg some (by kernel_rfl))
  f163 := Tryd.func20.trans (congrArg some (by kernel_rfl))
  f197 := Tryd.func30.trans (congrArg some (by kernel_rfl))
  f199 := Tryd.func23.trans (congrArg some (by kernel_rfl))
  f237 := Tryd.func22.trans (congrArg some (by kernel_rfl))
  f238 := Tryd.func24.trans (congrArg some (by kernel_rfl))
  f260 := Tryd.func35.trans (congrArg some (by kernel_rfl))
  f261 := Tryd.func28.trans (congrArg some (by kernel_rfl))
  f271 := Tryd.func34.trans (congrArg some (by kernel_rfl))
  f272 := Tryd.func27.trans (congrArg some (by kernel_rfl))
  f273 := Tryd.func29.trans (congrArg some (by kernel_rfl))
  f311 := Tryd.func32.trans (congrArg some (by kernel_rfl))
  f312 := Tryd.func33.trans (congrArg some (by kernel_rfl))
  f315 := Tryd.func31.trans (congrArg some (by kernel_rfl))
  t0 := Tryd.underlying0
  a0 := Tryd.isAgg0
  z0 := Tryd.sizeOf0
  v0 := Tryd.zeroValue0
  t3 := Tryd.underlying3
  a3 := Tryd.isAgg3
  z3 := Tryd.sizeOf3
  v3 := Tryd.zeroValue3
  t4 := Tryd.underlying4
  a4 := Tryd.isAgg4
  z4 := Tryd.sizeOf4
  v4 := Tryd.zeroValue4
  t5 := Tryd.underlying5
  a5 := Tryd.isAgg5
  z5 := Tryd.sizeOf5
  v5 := Tryd.zeroValue5
  t9 := Tryd.underlying9
  a9 := Tryd.isAgg9
  z9 := Tryd.sizeOf9
  v9 := Tryd.zeroValue9
  t21 := Tryd.underlying21
  a21 := Tryd.isAgg21
  z21 := Tryd.sizeOf21
  v21 := Tryd.zeroValue21
  t37 := Tryd.underlying33
  a37 := Tryd.isAgg33
  z37 := Tryd.sizeOf33
  v37 := Tryd.zeroValue33
  t40 := Tryd.underlying35
  a40 := Tryd.isAgg35
  z40 := Tryd.sizeOf35
  v40 := Tryd.zeroValue35
  t46 := Tryd.underlying56
  a46 := Tryd.isAgg56
  z46 := Tryd.sizeOf56
  v46 := Tryd.zeroValue56
  t49 := Tryd.underlying48
  a49 := Tryd.isAgg48
  z49 := Tryd.sizeOf48
  v49 := Tryd.zeroValue48
  t51 := Tryd.underlying38
  a51 := Tryd.isAgg38
  z51 := Tryd.sizeOf38
  v51 := Tryd.zeroValue38
  t105 := Tryd.underlying42
  a105 := Tryd.isAgg42
  z105 := Tryd.sizeOf42
  v105 := Tryd.zeroValue42
  t119 := Tryd.underlying36
  a119 := Tryd.isAgg36
  z119 := Tryd.sizeOf36
  t138 := Tryd.underlying59
  a138 := Tryd.isAgg59
  z138 := Tryd.sizeOf59
  v138 := Tryd.zeroValue59
  t139 := Tryd.underlying60
  a139 := Tryd.isAgg60
  z139 := Tryd.sizeOf60
  v139 := Tryd.zeroValue60
  t141 := Tryd.underlying40
  a141 := Tryd.isAgg40
  z141 := Tryd.sizeOf40
  v141 := Tryd.zeroValue40
  t193 := Tryd.underlying44
  a193 := Tryd.isAgg44
  z193 := Tryd.sizeOf44
  v193 := Tryd.zeroValue44
  t194 := Tryd.underlying45
  a194 := Tryd.isAgg45
  z194 := Tryd.sizeOf45
  v194 := Tryd.zeroValue45
  t196 := Tryd.underlying47
  a196 := Tryd.isAgg47
  z196 := Tryd.sizeOf47
  v196 := Tryd.zeroValue47
  t198 := Tryd.underlying50
  a198 := Tryd.isAgg50
  z198 := Tryd.sizeOf50
  v198 := Tryd.zeroValue50
  t201 := Tryd.underlying53
  a201 := Tryd.isAgg53
  z201 := Tryd.sizeOf53
  v201 := Tryd.zeroValue53
  t226 := Tryd.underlying55
  a226 := Tryd.isAgg55
  z226 := Tryd.sizeOf55
  v226 := Tryd.zeroValue55
  t227 := Tryd.underlying57
  a227 := Tryd.isAgg57
  z227 := Tryd.sizeOf57
  v227 := Tryd.zeroValue57
  g0 := by kernel_rfl
  g3 := by kernel_rfl
  g4 := by kernel_rfl
  g6 := by kernel_rfl }
theorem Tryd.Space_Extra_163 : Space.Extra Tryd.prog Tryd.lays163_ren := {
  gNamed := by kernel_rfl }
open Go.RowKit in
theorem Tryd.strings_TrimSpace (s : ByteArray) (w : World) (hs : s.size ≤ 9223372036854775807) (hascii : ∀ (j : Nat) b, s.data.toList[j]? = some b → b.toNat < 128) (htab : Lib.TabIs Tryd.prog w "strings.asciiSpace" .u8 Lib.asciiSpaceTab) :
    Calls Tryd.prog 20 #[.string s] w fun e w' => e = .returned (.string ⟨(Lib.trimSpace s.data.toList).toArray⟩) ∧ w' = Lib.bytesWorld w 5 s := Any.strings_TrimSpace Tryd.lays163 Tryd.Space_Extra_163 s w hs hascii htab
def Tryd.lays120_ren : Go.Shelf.Ren := ⟨fun | 120 => 36 | n => n, fun | 5 => 5 | 4 => 4 | n => n, fun | n => n⟩
theorem Tryd.lays120 : Go.Proofs.Lays.n120 Tryd.prog Tryd.lays120_ren := {
  mixed := by kernel_rfl
  f120 := Tryd.func36.trans (congrArg some (by kernel_rfl))
  t4 := Tryd.underlying4
  a4 := Tryd.isAgg4
  z4 := Tryd.sizeOf4
  v4 := Tryd.zeroValue4
  t5 := Tryd.underlying5
  a5 := Tryd.isAgg5
  z5 := Tryd.sizeOf5
  v5 := Tryd.zeroValue5 }
/-- utf8.RuneStart: "RuneStart reports whether the byte could be the first byte of an encoded, possibly invalid rune. Second and subsequent bytes always have the top two bits set to 10.": IT RETURNS 'Lib.runeStart b'; the world is as it was. ('h0', 'h1': b is a byte: a caller has it of every byte that it was handed.) (LAID: no walk: one application.) -/
theorem Tryd.utf8_RuneStart (b : Int) (w : World) (h0 : 0 ≤ b) (h1 : b < 256) :
    Calls Tryd.prog 36 #[.int .u8 b] w fun e w' => e = .returned (.bool (Lib.runeStart b)) ∧ w' = w := Any.utf8_RuneStart Tryd.lays120 b w h0 h1
def Tryd.lays199_ren : Go.Shelf.Ren := ⟨fun | 199 => 23 | 261 => 28 | 311 => 32 | 312 => 33 | n => n, fun | 21 => 21 | 4 => 4 | 51 => 38 | 141 => 40 | 0 => 0 | 196 => 47 | 193 => 44 | 3 => 3 | 198 => 50 | 49 => 48 | 194 => 45 | 201 => 53 | 226 => 55 | 46 => 56 | 227 => 57 | n => n, fun | 6 => 1 | n => n⟩
theorem Tryd.lays199 : Go.Proofs.Lays.n199 Tryd.prog Tryd.lays199_ren := {
  mixed := by kernel_rfl
  f199 := Tryd.func23.trans (congrArg some (by kernel_rfl))
  f261 := Tryd.func28.trans (congrArg some (by kernel_rfl))
  f311 := Tryd.func32.trans (congrArg some (by kernel_rfl))
  f312 := Tryd.func33.trans (congrArg some (by kernel_rfl))
  t0 := Tryd.underlying0
  a0 := Tryd.isAgg0
  z0 := Tryd.sizeOf0
  v0 := Tryd.zeroValue0
  t3 := Tryd.underlying3
  a3 := Tryd.isAgg3
  z3 := Tryd.sizeOf3
  v3 := Tryd.zeroValue3
  t4 := Tryd.underlying4
  a4 := Tryd.isAgg4
  z4 := Tryd.sizeOf4
  v4 := Tryd.zeroValue4
  t21 := Tryd.underlying21
  a21 := Tryd.isAgg21
  z21 := Tryd.sizeOf21
  v21 := Tryd.zeroValue21
  t46 := Tryd.underlying56
  a46 := Tryd.isAgg56
  z46 := Tryd.sizeOf56
  v46 := Tryd.zeroValue56
  t49 := Tryd.underlying48
  a49 := Tryd.isAgg48
  z49 := Tryd.sizeOf48
  v49 := Tryd.zeroValue48
  t51 := Tryd.underlying38
  a51 := Tryd.isAgg38
  z51 := Tryd.sizeOf38
  v51 := Tryd.zeroValue38
  t141 := Tryd.underlying40
  a141 := Tryd.isAgg40
  z141 := Tryd.sizeOf40
  v141 := Tryd.zeroValue40
  t193 := Tryd.underlying44
  a193 := Tryd.isAgg44
  z193 := Tryd.sizeOf44
  v193 := Tryd.zeroValue44
  t194 := Tryd.underlying45
  a194 := Tryd.isAgg45
  z194 := Tryd.sizeOf45
  v194 := Tryd.zeroValue45
  t196 := Tryd.underlying47
  a196 := Tryd.isAgg47
  z196 := Tryd.sizeOf47
  v196 := Tryd.zeroValue47
  t198 := Tryd.underlying50
  a198 := Tryd.isAgg50
  z198 := Tryd.sizeOf50
  v198 := Tryd.zeroValue50
  t201 := Tryd.underlying53
  a201 := Tryd.isAgg53
  z201 := Tryd.sizeOf53
  v201 := Tryd.zeroValue53
  t226 := Tryd.underlying55
  a226 := Tryd.isAgg55
  z226 := Tryd.sizeOf55
  v226 := Tryd.zeroValue55
  t227 := Tryd.underlying57
  a227 := Tryd.isAgg57
  z227 := Tryd.sizeOf57
  v227 := Tryd.zeroValue57
  g6 := by kernel_rfl }
open Go.RowKit Go.Lib in
theorem Tryd.unicode_IsSpace (r : Int) (w : World) (h0 : 0 ≤ r) (h : r ≤ 255) :
    Calls Tryd.prog 23 #[.int .i32 r] w fun e w' => e = .returned (.bool (Lib.isSpaceL r)) ∧ w' = w := Any.unicode_IsSpace Tryd.lays199 r w h0 h
def Tryd.lays197_ren : Go.Shelf.Ren := ⟨fun | 197 => 30 | 260 => 35 | n => n, fun | 9 => 9 | 21 => 21 | 3 => 3 | 4 => 4 | 5 => 5 | 105 => 42 | 119 => 36 | 0 => 0 | 46 => 56 | 139 => 60 | 138 => 59 | n => n, fun | 3 => 2 | 4 => 3 | n => n⟩
theorem Tryd.lays197 : Go.Proofs.Lays.n197 Tryd.prog Tryd.lays197_ren := {
  mixed := by kernel_rfl
  f197 := Tryd.func30.trans (congrArg some (by kernel_rfl))
  f260 := Tryd.func35.trans (congrArg some (by kernel_rfl))
  t0 := Tryd.underlying0
  a0 := Tryd.isAgg0
  z0 := Tryd.sizeOf0
  v0 := Tryd.zeroValue0
  t3 := Tryd.underlying3
  a3 := Tryd.isAgg3
  z3 := Tryd.sizeOf3
  v3 := Tryd.zeroValue3
  t4 := Tryd.underlying4
  a4 := Tryd.isAgg4
  z4 := Tryd.sizeOf4
  v4 := Tryd.zeroValue4
  t5 := Tryd.underlying5
  a5 := Tryd.isAgg5
  z5 := Tryd.sizeOf5
  v5 := Tryd.zeroValue5
  t9 := Tryd.underlying9
  a9 := Tryd.isAgg9
  z9 := Tryd.sizeOf9
  v9 := Tryd.zeroValue9
  t21 := Tryd.underlying21
  a21 := Tryd.isAgg21
  z21 := Tryd.sizeOf21
  v21 := Tryd.zeroValue21
  t46 := Tryd.underlying56
  a46 := Tryd.isAgg56
  z46 := Tryd.sizeOf56
  v46 := Tryd.zeroValue56
  t105 := Tryd.underlying42
  a105 := Tryd.isAgg42
  z105 := Tryd.sizeOf42
  v105 := Tryd.zeroValue42
  t119 := Tryd.underlying36
  a119 := Tryd.isAgg36
  z119 := Tryd.sizeOf36
  t138 := Tryd.underlying59
  a138 := Tryd.isAgg59
  z138 := Tryd.sizeOf59
  v138 := Tryd.zeroValue59
  t139 := Tryd.underlying60
  a139 := Tryd.isAgg60
  z139 := Tryd.sizeOf60
  v139 := Tryd.zeroValue60
  g3 := by kernel_rfl
  g4 := by kernel_rfl }
open Go.RowKit Go.Lib in
/-- unicode/utf8.DecodeRuneInString: "DecodeRuneInString is like DecodeRune but its input is a string.": ("DecodeRune unpacks the first UTF-8 encoding in p and returns the rune and its width in bytes."): WHERE s BEGINS WITH AN ASCII BYTE x: (x, 1). (LAID: no walk: one application.) -/
theorem Tryd.utf8_DecodeRuneInString_ascii (s : ByteArray) (x : UInt8) (w : World) (h0 : s.data.toList[0]? = some x) (hx : x.toNat < 128) :
    Calls Tryd.prog 30 #[.string s] w fun e w' => e = .returned (.tuple #[.int .i32 x.toNat, .int .i64 1]) ∧ w' = w := Any.utf8_DecodeRuneInString_ascii Tryd.lays197 s x w h0 hx
def Tryd.lays260_ren : Go.Shelf.Ren := ⟨fun | 260 => 35 | n => n, fun | 9 => 9 | 21 => 21 | 3 => 3 | 4 => 4 | 5 => 5 | 119 => 36 | 0 => 0 | 46 => 56 | 139 => 60 | 138 => 59 | n => n, fun | 3 => 2 | 4 => 3 | n => n⟩
theorem Tryd.lays260 : Go.Proofs.Lays.n260 Tryd.prog Tryd.lays260_ren := {
  mixed := by kernel_rfl
  f260 := Tryd.func35.trans (congrArg some (by kernel_rfl))
  t0 := Tryd.underlying0
  a0 := Tryd.isAgg0
  z0 := Tryd.sizeOf0
  v0 := Tryd.zeroValue0
  t3 := Tryd.underlying3
  a3 := Tryd.isAgg3
  z3 := Tryd.sizeOf3
  v3 := Tryd.zeroValue3
  t4 := Tryd.underlying4
  a4 := Tryd.isAgg4
  z4 := Tryd.sizeOf4
  v4 := Tryd.zeroValue4
  t5 := Tryd.underlying5
  a5 := Tryd.isAgg5
  z5 := Tryd.sizeOf5
  v5 := Tryd.zeroValue5
  t9 := Tryd.underlying9
  a9 := Tryd.isAgg9
  z9 := Tryd.sizeOf9
  v9 := Tryd.zeroValue9
  t21 := Tryd.underlying21
  a21 := Tryd.isAgg21
  z21 := Tryd.sizeOf21
  v21 := Tryd.zeroValue21
  t46 := Tryd.underlying56
  a46 := Tryd.isAgg56
  z46 := Tryd.sizeOf56
  v46 := Tryd.zeroValue56
  t119 := Tryd.underlying36
  a119 := Tryd.isAgg36
  z119 := Tryd.sizeOf36
  t138 := Tryd.underlying59
  a138 := Tryd.isAgg59
  z138 := Tryd.sizeOf59
  v138 := Tryd.zeroValue59
  t139 := Tryd.underlying60
  a139 := Tryd.isAgg60
  z139 := Tryd.sizeOf60
  v139 := Tryd.zeroValue60
  g3 := by kernel_rfl
  g4 := by kernel_rfl }
open Go.RowKit Go.Lib in
theorem Tryd.utf8_decodeRuneInStringSlow (s : ByteArray) (w : World) (hT : Lib.Utf8Tabs 2 3 w) :
    Calls Tryd.prog 35 #[.string s] w fun e w' => e = .returned (.tuple #[.int .i32 (Lib.decodeGo s).1, .int .i64 (Lib.decodeGo s).2]) ∧ Below w.heap.size w w' := Any.utf8_decodeRuneInStringSlow Tryd.lays260 s w hT
open Go.RowKit Go.Lib in
/-- **unicode/utf8.DecodeRuneInString AT EVERY STRING.** (LAID: no walk: one application.) -/
theorem Tryd.utf8_DecodeRuneInString (s : ByteArray) (w : World) (hT : Lib.Utf8Tabs 2 3 w) :
    Calls Tryd.prog 30 #[.string s] w fun e w' => e = .returned (.tuple #[.int .i32 (Lib.decodeGo s).1, .int .i64 (Lib.decodeGo s).2]) ∧ Below w.heap.size w w' := Any.utf8_DecodeRuneInString Tryd.lays197 s w hT
def Tryd.lays311_ren : Go.Shelf.Ren := ⟨fun | 311 => 32 | n => n, fun | 193 => 44 | 49 => 48 | 4 => 4 | 3 => 3 | 0 => 0 | 226 => 55 | 198 => 50 | 46 => 56 | n => n, fun | n => n⟩
theorem Tryd.lays311 : Go.Proofs.Lays.n311 Tryd.prog Tryd.lays311_ren := {
  mixed := by kernel_rfl
  f311 := Tryd.func32.trans (congrArg some (by kernel_rfl))
  t0 := Tryd.underlying0
  a0 := Tryd.isAgg0
  z0 := Tryd.sizeOf0
  v0 := Tryd.zeroValue0
  t3 := Tryd.underlying3
  a3 := Tryd.isAgg3
  z3 := Tryd.sizeOf3
  v3 := Tryd.zeroValue3
  t4 := Tryd.underlying4
  a4 := Tryd.isAgg4
  z4 := Tryd.sizeOf4
  v4 := Tryd.zeroValue4
  t46 := Tryd.underlying56
  a46 := Tryd.isAgg56
  z46 := Tryd.sizeOf56
  v46 := Tryd.zeroValue56
  t49 := Tryd.underlying48
  a49 := Tryd.isAgg48
  z49 := Tryd.sizeOf48
  v49 := Tryd.zeroValue48
  t193 := Tryd.underlying44
  a193 := Tryd.isAgg44
  z193 := Tryd.sizeOf44
  v193 := Tryd.zeroValue44
  t198 := Tryd.underlying50
  a198 := Tryd.isAgg50
  z198 := Tryd.sizeOf50
  v198 := Tryd.zeroValue50
  t226 := Tryd.underlying55
  a226 := Tryd.isAgg55
  z226 := Tryd.sizeOf55
  v226 := Tryd.zeroValue55 }
open Go.RowKit Go.Lib in
theorem Tryd.unicode_is16_white (R oR : Nat) (z : Nat) (w : World) (hz : z < 65536) (hz0 : 255 < z) (c6 : w.cell? ⟨R, oR + 6, none⟩ = some (.int .u16 160)) (c7 : w.cell? ⟨R, oR + 7, none⟩ = some (.int .u16 5760)) (c8 : w.cell? ⟨R, oR + 8, none⟩ = some (.int .u16 5600)) (c9 : w.cell? ⟨R, oR + 9, none⟩ = some (.int .u16 8192)) (c10 : w.cell? ⟨R, oR + 10, none⟩ = some (.int .u16 8202)) (c11 : w.cell? ⟨R, oR + 11, none⟩ = some (.int .u16 1)) (c12 : w.cell? ⟨R, oR + 12, none⟩ = some (.int .u16 8232)) (c13 : w.cell? ⟨R, oR + 13, none⟩ = some (.int .u16 8233)) (c14 : w.cell? ⟨R, oR + 14, none⟩ = some (.int .u16 1)) (c15 : w.cell? ⟨R, oR + 15, none⟩ = some (.int .u16 8239)) (c16 : w.cell? ⟨R, oR + 16, none⟩ = some (.int .u16 8287)) (c17 : w.cell? ⟨R, oR + 17, none⟩ = some (.int .u16 48)) (c18 : w.cell? ⟨R, oR + 18, none⟩ = some (.int .u16 12288)) (c19 : w.cell? ⟨R, oR + 19, none⟩ = some (.int .u16 12288)) (c20 : w.cell? ⟨R, oR + 20, none⟩ = some (.int .u16 1)) :
    Calls Tryd.prog 32 #[.slice (some ⟨R, oR + 6, none⟩) 5 5, .int .u16 z] w fun e w' => e = .returned (.bool (Lib.isSpaceR z)) ∧ Below w.heap.size w w' := Any.unicode_is16_white Tryd.lays311 R oR z w hz hz0 c6 c7 c8 c9 c10 c11 c12 c13 c14 c15 c16 c17 c18 c19 c20
def Tryd.lays261_ren : Go.Shelf.Ren := ⟨fun | 261 => 28 | 311 => 32 | 312 => 33 | n => n, fun | 141 => 40 | 21 => 21 | 4 => 4 | 0 => 0 | 196 => 47 | 193 => 44 | 3 => 3 | 51 => 38 | 198 => 50 | 49 => 48 | 194 => 45 | 201 => 53 | 226 => 55 | 46 => 56 | 227 => 57 | n => n, fun | n => n⟩
theorem Tryd.lays261 : Go.Proofs.Lays.n261 Tryd.prog Tryd.lays261_ren := {
  mixed := by kernel_rfl
  f261 := Tryd.func28.trans (congrArg some (by kernel_rfl))
  f311 := Tryd.func32.trans (congrArg some (by kernel_rfl))
  f312 := Tryd.func33.trans (congrArg some (by kernel_rfl))
  t0 := Tryd.underlying0
  a0 := Tryd.isAgg0
  z0 := Tryd.sizeOf0
  v0 := Tryd.zeroValue0
  t3 := Tryd.underlying3
  a3 := Tryd.isAgg3
  z3 := Tryd.sizeOf3
  v3 := Tryd.zeroValue3
  t4 := Tryd.underlying4
  a4 := Tryd.isAgg4
  z4 := Tryd.sizeOf4
  v4 := Tryd.zeroValue4
  t21 := Tryd.underlying21
  a21 := Tryd.isAgg21
  z21 := Tryd.sizeOf21
  v21 := Tryd.zeroValue21
  t46 := Tryd.underlying56
  a46 := Tryd.isAgg56
  z46 := Tryd.sizeOf56
  v46 := Tryd.zeroValue56
  t49 := Tryd.underlying48
  a49 := Tryd.isAgg48
  z49 := Tryd.sizeOf48
  v49 := Tryd.zeroValue48
  t51 := Tryd.underlying38
  a51 := Tryd.isAgg38
  z51 := Tryd.sizeOf38
  v51 := Tryd.zeroValue38
  t141 := Tryd.underlying40
  a141 := Tryd.isAgg40
  z141 := Tryd.sizeOf40
  v141 := Tryd.zeroValue40
  t193 := Tryd.underlying44
  a193 := Tryd.isAgg44
  z193 := Tryd.sizeOf44
  v193 := Tryd.zeroValue44
  t194 := Tryd.underlying45
  a194 := Tryd.isAgg45
  z194 := Tryd.sizeOf45
  v194 := Tryd.zeroValue45
  t196 := Tryd.underlying47
  a196 := Tryd.isAgg47
  z196 := Tryd.sizeOf47
  v196 := Tryd.zeroValue47
  t198 := Tryd.underlying50
  a198 := Tryd.isAgg50
  z198 := Tryd.sizeOf50
  v198 := Tryd.zeroValue50
  t201 := Tryd.underlying53
  a201 := Tryd.isAgg53
  z201 := Tryd.sizeOf53
  v201 := Tryd.zeroValue53
  t226 := Tryd.underlying55
  a226 := Tryd.isAgg55
  z226 := Tryd.sizeOf55
  v226 := Tryd.zeroValue55
  t227 := Tryd.underlying57
  a227 := Tryd.isAgg57
  z227 := Tryd.sizeOf57
  v227 := Tryd.zeroValue57 }
open Go.RowKit Go.Lib in
/-- unicode.isExcludingLatin(White_Space, r), r beyond U+00FF or negative. (LAID: no walk: one application.) -/
theorem Tryd.unicode_isExcludingLatin_white (T oT R oR : Nat) (r : Int) (w : World) (hlo : -2147483648 ≤ r) (hhi : r ≤ 2147483647) (hr : r < 0 ∨ 255 < r) (h2 : w.cell? ⟨T, oT, none⟩ = some (.slice (some ⟨R, oR, none⟩) 7 7)) (h3 : w.cell? ⟨T, oT + 1, none⟩ = some (.slice none 0 0)) (h4 : w.cell? ⟨T, oT + 2, none⟩ = some (.int .i64 2)) (h5 : ∀ i, i < 21 → w.cell? ⟨R, oR + i, none⟩ = some (.int .u16 (whiteT.getD i 0))) :
    Calls Tryd.prog 28 #[.pointer (some ⟨T, oT, none⟩), .int .i32 r] w fun e w' => e = .returned (.bool (Lib.isSpaceZ r)) ∧ Below w.heap.size w w' := Any.unicode_isExcludingLatin_white Tryd.lays261 T oT R oR r w hlo hhi hr h2 h3 h4 h5
open Go.RowKit Go.Lib in
/-- **unicode.IsSpace AT EVERY int32.** (LAID: no walk: one application.) -/
theorem Tryd.unicode_IsSpace_any (r : Int) (w : World) (hlo : -2147483648 ≤ r) (hhi : r ≤ 2147483647) (hW : Lib.WhiteTab 1 w) :
    Calls Tryd.prog 23 #[.int .i32 r] w fun e w' => e = .returned (.bool (Lib.isSpaceZ r)) ∧ Below w.heap.size w w' := Any.unicode_IsSpace_any Tryd.lays199 r w hlo hhi hW
def Tryd.lays271_ren : Go.Shelf.Ren := ⟨fun | 271 => 34 | 120 => 36 | 197 => 30 | 260 => 35 | n => n, fun | 9 => 9 | 21 => 21 | 3 => 3 | 4 => 4 | 5 => 5 | 105 => 42 | 119 => 36 | 0 => 0 | 46 => 56 | 139 => 60 | 138 => 59 | n => n, fun | 3 => 2 | 4 => 3 | n => n⟩
theorem Tryd.lays271 : Go.Proofs.Lays.n271 Tryd.prog Tryd.lays271_ren := {
  mixed := by kernel_rfl
  f120 := Tryd.func36.trans (congrArg some (by kernel_rfl))
  f197 := Tryd.func30.trans (congrArg some (by kernel_rfl))
  f260 := Tryd.func35.trans (congrArg some (by kernel_rfl))
  f271 := Tryd.func34.trans (congrArg some (by kernel_rfl))
  t0 := Tryd.underlying0
  a0 := Tryd.isAgg0
  z0 := Tryd.sizeOf0
  v0 := Tryd.zeroValue0
  t3 := Tryd.underlying3
  a3 := Tryd.isAgg3
  z3 := Tryd.sizeOf3
  v3 := Tryd.zeroValue3
  t4 := Tryd.underlying4
  a4 := Tryd.isAgg4
  z4 := Tryd.sizeOf4
  v4 := Tryd.zeroValue4
  t5 := Tryd.underlying5
  a5 := Tryd.isAgg5
  z5 := Tryd.sizeOf5
  v5 := Tryd.zeroValue5
  t9 := Tryd.underlying9
  a9 := Tryd.isAgg9
  z9 := Tryd.sizeOf9
  v9 := Tryd.zeroValue9
  t21 := Tryd.underlying21
  a21 := Tryd.isAgg21
  z21 := Tryd.sizeOf21
  v21 := Tryd.zeroValue21
  t46 := Tryd.underlying56
  a46 := Tryd.isAgg56
  z46 := Tryd.sizeOf56
  v46 := Tryd.zeroValue56
  t105 := Tryd.underlying42
  a105 := Tryd.isAgg42
  z105 := Tryd.sizeOf42
  v105 := Tryd.zeroValue42
  t119 := Tryd.underlying36
  a119 := Tryd.isAgg36
  z119 := Tryd.sizeOf36
  t138 := Tryd.underlying59
  a138 := Tryd.isAgg59
  z138 := Tryd.sizeOf59
  v138 := Tryd.zeroValue59
  t139 := Tryd.underlying60
  a139 := Tryd.isAgg60
  z139 := Tryd.sizeOf60
  v139 := Tryd.zeroValue60
  g3 := by kernel_rfl
  g4 := by kernel_rfl }
open Go.RowKit Go.Lib in
/-- **unicode/utf8.DecodeLastRuneInString AT EVERY STRING.** (LAID: no walk: one application.) -/
theorem Tryd.utf8_DecodeLastRuneInString (s : ByteArray) (w : World) (hs : s.size ≤ 9223372036854775807) (hT : Lib.Utf8Tabs 2 3 w) :
    Calls Tryd.prog 34 #[.string s] w fun e w' => e = .returned (.tuple #[.int .i32 (Lib.decodeLastL s.data.toList).1, .int .i64 (Lib.decodeLastL s.data.toList).2]) ∧ Below w.heap.size w w' := Any.utf8_DecodeLastRuneInString Tryd.lays271 s w hs hT
open Go.RowKit Go.Lib in
theorem Tryd.unicode_is16_any (T : Array Rg) (R oR cap : Nat) (z : Nat) (w : World) (hz : z < 65536) (hT : RgTab .u16 R oR T w) (hok : RgOk 65536 T) (hn : T.size ≤ 1000000000) :
    Calls Tryd.prog 32 #[.slice (some ⟨R, oR, none⟩) T.size cap, .int .u16 z] w fun e w' => e = .returned (.bool (is16Go T z)) ∧ ∃ q, w' = w.drewN q := Any.unicode_is16_any Tryd.lays311 T R oR cap z w hz hT hok hn
def Tryd.lays312_ren : Go.Shelf.Ren := ⟨fun | 312 => 33 | n => n, fun | 194 => 45 | 51 => 38 | 4 => 4 | 3 => 3 | 0 => 0 | 227 => 57 | 201 => 53 | 46 => 56 | n => n, fun | n => n⟩
theorem Tryd.lays312 : Go.Proofs.Lays.n312 Tryd.prog Tryd.lays312_ren := {
  mixed := by kernel_rfl
  f312 := Tryd.func33.trans (congrArg some (by kernel_rfl))
  t0 := Tryd.underlying0
  a0 := Tryd.isAgg0
  z0 := Tryd.sizeOf0
  v0 := Tryd.zeroValue0
  t3 := Tryd.underlying3
  a3 := Tryd.isAgg3
  z3 := Tryd.sizeOf3
  v3 := Tryd.zeroValue3
  t4 := Tryd.underlying4
  a4 := Tryd.isAgg4
  z4 := Tryd.sizeOf4
  v4 := Tryd.zeroValue4
  t46 := Tryd.underlying56
  a46 := Tryd.isAgg56
  z46 := Tryd.sizeOf56
  v46 := Tryd.zeroValue56
  t51 := Tryd.underlying38
  a51 := Tryd.isAgg38
  z51 := Tryd.sizeOf38
  v51 := Tryd.zeroValue38
  t194 := Tryd.underlying45
  a194 := Tryd.isAgg45
  z194 := Tryd.sizeOf45
  v194 := Tryd.zeroValue45
  t201 := Tryd.underlying53
  a201 := Tryd.isAgg53
  z201 := Tryd.sizeOf53
  v201 := Tryd.zeroValue53
  t227 := Tryd.underlying57
  a227 := Tryd.isAgg57
  z227 := Tryd.sizeOf57
  v227 := Tryd.zeroValue57 }
open Go.RowKit Go.Lib in
theorem Tryd.unicode_is32_any (T : Array Rg) (R oR cap : Nat) (z : Nat) (w : World) (hz : z < 4294967296) (hT : RgTab .u32 R oR T w) (hok : RgOk 4294967296 T) (hn : T.size ≤ 1000000000) :
    Calls Tryd.prog 33 #[.slice (some ⟨R, oR, none⟩) T.size cap, .int .u32 z] w fun e w' => e = .returned (.bool (is32Go T z)) ∧ Below w.heap.size w w' := Any.unicode_is32_any Tryd.lays312 T R oR cap z w hz hT hok hn
open Go.RowKit Go.Lib in
theorem Tryd.unicode_isExcludingLatin_any (Tb oT : Nat) (T : RTab) (r : Int) (w : World) (hlo : -2147483648 ≤ r) (hhi : r ≤ 2147483647) (hA : RTabAt Tb oT T w) (hok : RTabOk T) :
    Calls Tryd.prog 28 #[.pointer (some ⟨Tb, oT, none⟩), .int .i32 r] w fun e w' => e = .returned (.bool (exclGo T r)) ∧ Below w.heap.size w w' := Any.unicode_isExcludingLatin_any Tryd.lays261 Tb oT T r w hlo hhi hA hok
end Go.Proofs
