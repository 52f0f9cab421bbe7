/- The library's functions that this seat's code calls, each by its contract: laid by the kit's shelf in plain words over this seat's program; each theorem says its own conditions. -/
/-
  DERIVED: THE SHELF's CONTRACTS AT THIS DUMP, IN PLAIN WORDS (tools/lay-plain.mjs out of 'TryShelf.lean', which tools/lay-shelf.mjs wrote): THE SAME DECLARATIONS UNDER THE SAME NAMES: 'import', 'namespace', 'open', 'def', 'theorem' AND NOTHING ELSE: no command of the shelf's: FOR A HAND-IN. Each laying: the table of numbers ('.._ren') and one theorem, a field a fact of the dump's own or the kernel's comparison; each contract: ONE APPLICATION.
-/
import Derived.Shelf.Strings.Builder1
import Derived.Shelf.Strings.Builder2
import Derived.Shelf.Strings.OnBuilder
import Derived.Shelf.Small.Bits
import Derived.Shelf.Small.Wraps
import Derived.Shelf.Strings.BuilderF
import Derived.Shelf.Strings.BuilderK
import Derived.Shelf.Strings.Builder2Cap
import Derived.Shelf.Strconv.Itoa0
import Derived.Shelf.Sort.Plain
import Derived.Ground.GgsProg
import Derived.Shelf.GgSortFunc.Insertion
import Derived.Shelf.GgSortFunc.Small
import Derived.Shelf.GgSortFunc.InsertionK
import Derived.Shelf.GgSortFunc.SmallK
import Derived.Shelf.GgSortFunc.Compose
import Derived.Shelf.GgSortFunc.LotD
import Derived.Shelf.GgSortFunc.Pivot
import Derived.Shelf.GgSortFunc.Partition
import Derived.Shelf.GgSortFunc.Pdq
import Derived.Shelf.GgSortFunc.Whole
import Derived.Shelf.Strings.BuilderCap
import Derived.Ground.Names2Prog
import Derived.Shelf.Slices.SearchI
import Derived.Shelf.Slices.In.SortNone
import Derived.Shelf.Slices.In.SortNone2
import Derived.Shelf.SlSortFunc.Xorshift
import Derived.Shelf.SlSortFunc.SiftDown
import Derived.Shelf.SlSortFunc.HeapSort
import Derived.Shelf.SlSortFunc.PartialInsertion
import Derived.Test.YthmkbojkhoaolaaProg
namespace Go.Proofs
open Go.Shelf
def Try.lays169_ren : Go.Shelf.Ren := ⟨fun | 169 => 55 | n => n, fun | 70 => 46 | 9 => 9 | 0 => 0 | 72 => 49 | 37 => 47 | 127 => 73 | 3 => 3 | 5 => 5 | n => n, fun | n => n⟩
theorem Try.lays169 : Go.Proofs.Lays.n169 Try.prog Try.lays169_ren := {
  mixed := by kernel_rfl
  f169 := Try.func55.trans (congrArg some (by kernel_rfl))
  t0 := Try.underlying0
  a0 := Try.isAgg0
  z0 := Try.sizeOf0
  v0 := Try.zeroValue0
  t3 := Try.underlying3
  a3 := Try.isAgg3
  z3 := Try.sizeOf3
  v3 := Try.zeroValue3
  t9 := Try.underlying9
  a9 := Try.isAgg9
  z9 := Try.sizeOf9
  v9 := Try.zeroValue9
  t37 := Try.underlying47
  a37 := Try.isAgg47
  z37 := Try.sizeOf47
  v37 := Try.zeroValue47
  t70 := Try.underlying46
  a70 := Try.isAgg46
  z70 := Try.sizeOf46
  v70 := Try.zeroValue46
  t72 := Try.underlying49
  a72 := Try.isAgg49
  z72 := Try.sizeOf49
  v72 := Try.zeroValue49
  t127 := Try.underlying73
  a127 := Try.isAgg73
  z127 := Try.sizeOf73
  v127 := Try.zeroValue73 }
theorem Try.Builder_Extra_169 : Builder.Extra Try.prog Try.lays169_ren := {
  sizeBuilder := by kernel_rfl
  liesBuilder := by kernel_rfl
  t5 := Try.underlying5
  a5 := Try.isAgg5
  z5 := Try.sizeOf5
  v5 := Try.zeroValue5
  infoByte := by kernel_rfl
  cellsByte := by kernel_rfl
  sizeByte := by kernel_rfl
  neB5 := by decide }
open Go.RowKit in
/-- (*strings.Builder).String: "String returns the accumulated string.": OF A BUILDER THAT HOLDS AT LEAST ONE BYTE. ✋ THE MODEL FREEZES THOSE BYTES IN THE BUFFER (unsafe.String): a later write INTO them ends the model's run without an answer; a later append BEHIND them goes on. The statement's order of evaluation is drawn: one draw. (LAID: no walk: one application.) -/
theorem Try.Builder_String (B b : Nat) (l : List UInt8) (w : World) (h : Lib.IsBuilder 49 5 B b (Lib.byteCells l) w) (h0 : l ≠ []) :
    Calls Try.prog 55 #[.pointer (some ⟨b, 0, none⟩)] w fun e w' => e = .returned (.string ⟨l.toArray⟩) ∧ Below B w w' := Any.Builder_String Try.lays169 Try.Builder_Extra_169 B b l w h h0
open Go.RowKit in
/-- (*strings.Builder).String OF A BUILDER THAT HOLDS NO BYTE: the empty string. (Its buffer is nil, or a row of which it has taken nothing yet; where that row has NO capacity the model lays one new block for unsafe.SliceData's 'some address'.) One draw. (LAID: no walk: one application.) -/
theorem Try.Builder_String_empty (B b : Nat) (w : World) (h : Lib.IsBuilder 49 5 B b [] w) (hBw : B ≤ w.heap.size) :
    Calls Try.prog 55 #[.pointer (some ⟨b, 0, none⟩)] w fun e w' => e = .returned (.string ⟨#[]⟩) ∧ Below B w w' := Any.Builder_String_empty Try.lays169 Try.Builder_Extra_169 B b w h hBw
open Go.RowKit in
/-- (*strings.Builder).String: "String returns the accumulated string.": WHATEVER THE BUILDER HOLDS. (LAID: no walk: one application.) -/
theorem Try.Builder_String_any (B b : Nat) (l : List UInt8) (w : World) (h : Lib.IsBuilder 49 5 B b (Lib.byteCells l) w) (hBw : B ≤ w.heap.size) :
    Calls Try.prog 55 #[.pointer (some ⟨b, 0, none⟩)] w fun e w' => e = .returned (.string ⟨l.toArray⟩) ∧ Below B w w' := Any.Builder_String_any Try.lays169 Try.Builder_Extra_169 B b l w h hBw
def Try.lays241_ren : Go.Shelf.Ren := ⟨fun | 241 => 66 | 277 => 105 | n => n, fun | 70 => 46 | 3 => 3 | 0 => 0 | 72 => 49 | 37 => 47 | 5 => 5 | n => n, fun | n => n⟩
theorem Try.lays241 : Go.Proofs.Lays.n241 Try.prog Try.lays241_ren := {
  mixed := by kernel_rfl
  f241 := Try.func66.trans (congrArg some (by kernel_rfl))
  f277 := Try.func105.trans (congrArg some (by kernel_rfl))
  t0 := Try.underlying0
  a0 := Try.isAgg0
  z0 := Try.sizeOf0
  v0 := Try.zeroValue0
  t3 := Try.underlying3
  a3 := Try.isAgg3
  z3 := Try.sizeOf3
  v3 := Try.zeroValue3
  t37 := Try.underlying47
  a37 := Try.isAgg47
  z37 := Try.sizeOf47
  v37 := Try.zeroValue47
  t70 := Try.underlying46
  a70 := Try.isAgg46
  z70 := Try.sizeOf46
  v70 := Try.zeroValue46
  t72 := Try.underlying49
  a72 := Try.isAgg49
  z72 := Try.sizeOf49
  v72 := Try.zeroValue49 }
theorem Try.Builder_Extra_241 : Builder.Extra Try.prog Try.lays241_ren := {
  sizeBuilder := by kernel_rfl
  liesBuilder := by kernel_rfl
  t5 := Try.underlying5
  a5 := Try.isAgg5
  z5 := Try.sizeOf5
  v5 := Try.zeroValue5
  infoByte := by kernel_rfl
  cellsByte := by kernel_rfl
  sizeByte := by kernel_rfl
  neB5 := by decide }
open Go.RowKit in
/-- (*strings.Builder).grow (no doc but "grow copies the buffer to a new, larger buffer so that there are at least n bytes of capacity beyond len(b.buf)."): AT A BUILDER WITHOUT A BUFFER: a new row of whatever bytes for its buffer, none of them its own yet. Three draws. (LAID: no walk: one application.) -/
theorem Try.Builder_grow_fresh (B b n : Nat) (w : World) (hB : B ≤ b) (hbk : w.heap[b]? = some (.cells #[.pointer (some ⟨b, 0, none⟩), .slice none 0 0] 49 (0, 0))) (hBw : B ≤ w.heap.size) (hn : n ≤ 281474976710656) :
    Calls Try.prog 66 #[.pointer (some ⟨b, 0, none⟩), .int .i64 n] w fun e w' => e = .returned (.tuple #[]) ∧ (Lib.BuilderAt 49 5 B b (.pointer (some ⟨b, 0, none⟩)) [] w' ∧ Below B w w') := Any.Builder_grow_fresh Try.lays241 Try.Builder_Extra_241 B b n w hB hbk hBw hn
def Try.lays165_ren : Go.Shelf.Ren := ⟨fun | 165 => 53 | 240 => 65 | 241 => 66 | 276 => 104 | 277 => 105 | n => n, fun | 70 => 46 | 3 => 3 | 0 => 0 | 4 => 4 | 9 => 9 | 20 => 20 | 72 => 49 | 37 => 47 | 164 => 56 | 5 => 5 | n => n, fun | n => n⟩
theorem Try.lays165 : Go.Proofs.Lays.n165 Try.prog Try.lays165_ren := {
  mixed := by kernel_rfl
  f165 := Try.func53.trans (congrArg some (by kernel_rfl))
  f240 := Try.func65.trans (congrArg some (by kernel_rfl))
  f241 := Try.func66.trans (congrArg some (by kernel_rfl))
  f276 := Try.func104.trans (congrArg some (by kernel_rfl))
  f277 := Try.func105.trans (congrArg some (by kernel_rfl))
  t0 := Try.underlying0
  a0 := Try.isAgg0
  z0 := Try.sizeOf0
  v0 := Try.zeroValue0
  t3 := Try.underlying3
  a3 := Try.isAgg3
  z3 := Try.sizeOf3
  v3 := Try.zeroValue3
  t4 := Try.underlying4
  a4 := Try.isAgg4
  z4 := Try.sizeOf4
  v4 := Try.zeroValue4
  t9 := Try.underlying9
  a9 := Try.isAgg9
  z9 := Try.sizeOf9
  v9 := Try.zeroValue9
  t20 := Try.underlying20
  a20 := Try.isAgg20
  z20 := Try.sizeOf20
  v20 := Try.zeroValue20
  t37 := Try.underlying47
  a37 := Try.isAgg47
  z37 := Try.sizeOf47
  v37 := Try.zeroValue47
  t70 := Try.underlying46
  a70 := Try.isAgg46
  z70 := Try.sizeOf46
  v70 := Try.zeroValue46
  t72 := Try.underlying49
  a72 := Try.isAgg49
  z72 := Try.sizeOf49
  v72 := Try.zeroValue49
  t164 := Try.underlying56
  a164 := Try.isAgg56
  z164 := Try.sizeOf56
  v164 := Try.zeroValue56 }
theorem Try.Builder_Extra_165 : Builder.Extra Try.prog Try.lays165_ren := {
  sizeBuilder := by kernel_rfl
  liesBuilder := by kernel_rfl
  t5 := Try.underlying5
  a5 := Try.isAgg5
  z5 := Try.sizeOf5
  v5 := Try.zeroValue5
  infoByte := by kernel_rfl
  cellsByte := by kernel_rfl
  sizeByte := by kernel_rfl
  neB5 := by decide }
open Go.RowKit in
/-- (*strings.Builder).Grow AT A BUILDER THAT HAS NOT BEEN WRITTEN ('var b strings.Builder; b.Grow(n)'): "Grow grows b's capacity, if necessary, to guarantee space for another n bytes.": it holds no byte behind it as before it. (LAID: no walk: one application.) -/
theorem Try.Builder_Grow_fresh (B b n : Nat) (w : World) (hB : B ≤ b) (hbk : w.heap[b]? = some (.cells #[.pointer none, .slice none 0 0] 49 (0, 0))) (hBw : B ≤ w.heap.size) (hn : n ≤ 281474976710656) :
    Calls Try.prog 53 #[.pointer (some ⟨b, 0, none⟩), .int .i64 n] w fun e w' => e = .returned (.tuple #[]) ∧ (Lib.BuilderAt 49 5 B b (.pointer (some ⟨b, 0, none⟩)) [] w' ∧ Below B w w') := Any.Builder_Grow_fresh Try.lays165 Try.Builder_Extra_165 B b n w hB hbk hBw hn
def Try.lays156_ren : Go.Shelf.Ren := ⟨fun | 156 => 46 | 165 => 53 | 166 => 54 | 169 => 55 | 240 => 65 | 241 => 66 | 276 => 104 | 277 => 105 | n => n, fun | 31 => 22 | 9 => 9 | 3 => 3 | 4 => 4 | 0 => 0 | 20 => 20 | 72 => 49 | 76 => 53 | 70 => 46 | 37 => 47 | 75 => 52 | 127 => 73 | 164 => 56 | 5 => 5 | 80 => 55 | n => n, fun | n => n⟩
theorem Try.lays156 : Go.Proofs.Lays.n156 Try.prog Try.lays156_ren := {
  mixed := by kernel_rfl
  f156 := Try.func46.trans (congrArg some (by kernel_rfl))
  f165 := Try.func53.trans (congrArg some (by kernel_rfl))
  f166 := Try.func54.trans (congrArg some (by kernel_rfl))
  f169 := Try.func55.trans (congrArg some (by kernel_rfl))
  f240 := Try.func65.trans (congrArg some (by kernel_rfl))
  f241 := Try.func66.trans (congrArg some (by kernel_rfl))
  f276 := Try.func104.trans (congrArg some (by kernel_rfl))
  f277 := Try.func105.trans (congrArg some (by kernel_rfl))
  t0 := Try.underlying0
  a0 := Try.isAgg0
  z0 := Try.sizeOf0
  v0 := Try.zeroValue0
  t3 := Try.underlying3
  a3 := Try.isAgg3
  z3 := Try.sizeOf3
  v3 := Try.zeroValue3
  t4 := Try.underlying4
  a4 := Try.isAgg4
  z4 := Try.sizeOf4
  v4 := Try.zeroValue4
  t9 := Try.underlying9
  a9 := Try.isAgg9
  z9 := Try.sizeOf9
  v9 := Try.zeroValue9
  t20 := Try.underlying20
  a20 := Try.isAgg20
  z20 := Try.sizeOf20
  v20 := Try.zeroValue20
  t31 := Try.underlying22
  a31 := Try.isAgg22
  z31 := Try.sizeOf22
  v31 := Try.zeroValue22
  t37 := Try.underlying47
  a37 := Try.isAgg47
  z37 := Try.sizeOf47
  v37 := Try.zeroValue47
  t70 := Try.underlying46
  a70 := Try.isAgg46
  z70 := Try.sizeOf46
  v70 := Try.zeroValue46
  t72 := Try.underlying49
  a72 := Try.isAgg49
  z72 := Try.sizeOf49
  v72 := Try.zeroValue49
  t75 := Try.underlying52
  a75 := Try.isAgg52
  z75 := Try.sizeOf52
  v75 := Try.zeroValue52
  t76 := Try.underlying53
  a76 := Try.isAgg53
  z76 := Try.sizeOf53
  v76 := Try.zeroValue53
  t127 := Try.underlying73
  a127 := Try.isAgg73
  z127 := Try.sizeOf73
  v127 := Try.zeroValue73
  t164 := Try.underlying56
  a164 := Try.isAgg56
  z164 := Try.sizeOf56
  v164 := Try.zeroValue56 }
theorem Try.Builder_Extra_156 : Builder.Extra Try.prog Try.lays156_ren := {
  sizeBuilder := by kernel_rfl
  liesBuilder := by kernel_rfl
  t5 := Try.underlying5
  a5 := Try.isAgg5
  z5 := Try.sizeOf5
  v5 := Try.zeroValue5
  infoByte := by kernel_rfl
  cellsByte := by kernel_rfl
  sizeByte := by kernel_rfl
  neB5 := by decide }
open Go.RowKit in
/-- No element: the empty string; the world is as it was. (Whatever the slice's address and capacity: a nil slice too.) (LAID: no walk: one application.) -/
theorem Try.strings_Join_none (a : Option Addr) (c : Nat) (sep : ByteArray) (w : World) :
    Calls Try.prog 46 #[.slice a 0 c, .string sep] w fun e w' => e = .returned (.string ⟨#[]⟩) ∧ w' = w := Any.strings_Join_none Try.lays156 Try.Builder_Extra_156 a c sep w
open Go.RowKit in
/-- strings.Join: "Join concatenates the elements of its first argument to create a single string. The separator string sep is placed between elements in the resulting string.": HOWEVER MANY ELEMENTS. Below the heap's end the world is as it was. (LAID: no walk: one application.) -/
theorem Try.strings_Join (bk o c : Nat) (xs : List ByteArray) (sep : ByteArray) (w : World) (hcells : ∀ (j : Nat) x, xs[j]? = some x → w.cell? ⟨bk, o + j, none⟩ = some (.string x)) (hbk : bk < w.heap.size) (hN : xs.length ≤ 140737488355328) (hcap : xs.length ≤ c) (hlen : (Lib.join (xs.map (·.data.toList)) sep.data.toList).length ≤ 140737488355328) :
    Calls Try.prog 46 #[.slice (some ⟨bk, o, none⟩) xs.length c, .string sep] w fun e w' => e = .returned (.string ⟨(Lib.join (xs.map (·.data.toList)) sep.data.toList).toArray⟩) ∧ Below w.heap.size w w' := Any.strings_Join Try.lays156 Try.Builder_Extra_156 bk o c xs sep w hcells hbk hN hcap hlen
def Try.lays128_ren : Go.Shelf.Ren := ⟨fun | 128 => 76 | n => n, fun | 51 => 78 | 3 => 3 | 4 => 4 | 46 => 65 | 5 => 5 | 9 => 9 | n => n, fun | n => n⟩
theorem Try.lays128 : Go.Proofs.Lays.n128 Try.prog Try.lays128_ren := {
  mixed := by kernel_rfl
  f128 := Try.func76.trans (congrArg some (by kernel_rfl))
  t3 := Try.underlying3
  a3 := Try.isAgg3
  z3 := Try.sizeOf3
  v3 := Try.zeroValue3
  t4 := Try.underlying4
  a4 := Try.isAgg4
  z4 := Try.sizeOf4
  v4 := Try.zeroValue4
  t5 := Try.underlying5
  a5 := Try.isAgg5
  z5 := Try.sizeOf5
  v5 := Try.zeroValue5
  t9 := Try.underlying9
  a9 := Try.isAgg9
  z9 := Try.sizeOf9
  v9 := Try.zeroValue9
  t46 := Try.underlying65
  a46 := Try.isAgg65
  z46 := Try.sizeOf65
  v46 := Try.zeroValue65
  t51 := Try.underlying78
  a51 := Try.isAgg78
  z51 := Try.sizeOf78
  v51 := Try.zeroValue78 }
/-- bits.Len32: "Len32 returns the minimum number of bits required to represent x; the result is 0 for x == 0.": IT RETURNS 'Lib.bitLen x'; the world is as it was. ('h0', 'h1': x is a uint32.) (LAID: no walk: one application.) -/
theorem Try.bits_Len32 (x : Int) (w : World) (h0 : 0 ≤ x) (h1 : x ≤ 4294967295) :
    Calls Try.prog 76 #[.int .u32 x] w fun e w' => e = .returned (.int .i64 (Lib.bitLen x.toNat)) ∧ w' = w := Any.bits_Len32 Try.lays128 x w h0 h1
def Try.lays125_ren : Go.Shelf.Ren := ⟨fun | 125 => 59 | 128 => 76 | 129 => 77 | n => n, fun | 46 => 65 | 3 => 3 | 51 => 78 | 53 => 80 | 4 => 4 | 5 => 5 | 9 => 9 | n => n, fun | n => n⟩
theorem Try.lays125 : Go.Proofs.Lays.n125 Try.prog Try.lays125_ren := {
  mixed := by kernel_rfl
  f125 := Try.func59.trans (congrArg some (by kernel_rfl))
  f128 := Try.func76.trans (congrArg some (by kernel_rfl))
  f129 := Try.func77.trans (congrArg some (by kernel_rfl))
  t3 := Try.underlying3
  a3 := Try.isAgg3
  z3 := Try.sizeOf3
  v3 := Try.zeroValue3
  t4 := Try.underlying4
  a4 := Try.isAgg4
  z4 := Try.sizeOf4
  v4 := Try.zeroValue4
  t5 := Try.underlying5
  a5 := Try.isAgg5
  z5 := Try.sizeOf5
  v5 := Try.zeroValue5
  t9 := Try.underlying9
  a9 := Try.isAgg9
  z9 := Try.sizeOf9
  v9 := Try.zeroValue9
  t46 := Try.underlying65
  a46 := Try.isAgg65
  z46 := Try.sizeOf65
  v46 := Try.zeroValue65
  t51 := Try.underlying78
  a51 := Try.isAgg78
  z51 := Try.sizeOf78
  v51 := Try.zeroValue78
  t53 := Try.underlying80
  a53 := Try.isAgg80
  z53 := Try.sizeOf80
  v53 := Try.zeroValue80 }
/-- bits.Len: "Len returns the minimum number of bits required to represent x; the result is 0 for x == 0.": IT RETURNS 'Lib.bitLen x'; the world is as it was. (A uint has 64 bits in the model.) ITS CALLEE bits.Len64 IS MET BY ITS OWN CONTRACT OFF THE SHELF (lay that first). (LAID: no walk: one application.) -/
theorem Try.bits_Len (x : Int) (w : World) (h0 : 0 ≤ x) (h1 : x ≤ 18446744073709551615) :
    Calls Try.prog 59 #[.int .u64 x] w fun e w' => e = .returned (.int .i64 (Lib.bitLen x.toNat)) ∧ w' = w := Any.bits_Len Try.lays125 x w h0 h1
def Try.lays215_ren : Go.Shelf.Ren := ⟨fun | 215 => 120 | n => n, fun | 3 => 3 | 4 => 4 | n => n, fun | n => n⟩
theorem Try.lays215 : Go.Proofs.Lays.n215 Try.prog Try.lays215_ren := {
  mixed := by kernel_rfl
  f215 := Try.func120.trans (congrArg some (by kernel_rfl))
  t3 := Try.underlying3
  a3 := Try.isAgg3
  z3 := Try.sizeOf3
  v3 := Try.zeroValue3
  t4 := Try.underlying4
  a4 := Try.isAgg4
  z4 := Try.sizeOf4
  v4 := Try.zeroValue4 }
open Go.RowKit in
/-- cmp.isNaN at int: 'x != x': false. (LAID: no walk: one application.) -/
theorem Try.cmp_isNaN_int (x : Int) (w : World) :
    Calls Try.prog 120 #[.int .i64 x] w fun e w' => e = .returned (.bool false) ∧ w' = w := Any.cmp_isNaN_int Try.lays215 x w
open Go.RowKit in
/-- (*strings.Builder).String: "String returns the accumulated string.": OF A BUILDER THAT HOLDS AT LEAST ONE BYTE. ✋ THE MODEL FREEZES THOSE BYTES IN THE BUFFER (unsafe.String): a later write INTO them ends the model's run without an answer; a later append BEHIND them goes on. The statement's order of evaluation is drawn: one draw. THE FORM '_f': IT SAYS BESIDES THAT THE BUILDER IS A BUILDER STILL ('Lib.IsBuilderF', the same bytes): SO IT CAN BE WRITTEN ON: 'b.WriteString(b.String()[:k])'. (LAID: no walk: one application.) -/
theorem Try.Builder_String_f (B b : Nat) (l : List UInt8) (w : World) (h : Lib.IsBuilderF 49 5 B b (Lib.byteCells l) w) (h0 : l ≠ []) :
    Calls Try.prog 55 #[.pointer (some ⟨b, 0, none⟩)] w fun e w' => e = .returned (.string ⟨l.toArray⟩) ∧ (Lib.IsBuilderF 49 5 B b (Lib.byteCells l) w' ∧ Below B w w') := Any.Builder_String_f Try.lays169 Try.Builder_Extra_169 B b l w h h0
open Go.RowKit in
/-- (*strings.Builder).String OF A BUILDER THAT HOLDS NO BYTE: the empty string; THE FORM '_f': a builder still. (LAID: no walk: one application.) -/
theorem Try.Builder_String_empty_f (B b : Nat) (w : World) (h : Lib.IsBuilderF 49 5 B b [] w) (hBw : B ≤ w.heap.size) :
    Calls Try.prog 55 #[.pointer (some ⟨b, 0, none⟩)] w fun e w' => e = .returned (.string ⟨#[]⟩) ∧ (Lib.IsBuilderF 49 5 B b [] w' ∧ Below B w w') := Any.Builder_String_empty_f Try.lays169 Try.Builder_Extra_169 B b w h hBw
open Go.RowKit in
/-- (*strings.Builder).String: "String returns the accumulated string.": WHATEVER THE BUILDER HOLDS; THE FORM '_f': OF A BUILDER THAT MAY HAVE BEEN READ BEFORE; AND IT IS A BUILDER STILL, holding the same bytes: it can be written on. (LAID: no walk: one application.) -/
theorem Try.Builder_String_any_f (B b : Nat) (l : List UInt8) (w : World) (h : Lib.IsBuilderF 49 5 B b (Lib.byteCells l) w) (hBw : B ≤ w.heap.size) :
    Calls Try.prog 55 #[.pointer (some ⟨b, 0, none⟩)] w fun e w' => e = .returned (.string ⟨l.toArray⟩) ∧ (Lib.IsBuilderF 49 5 B b (Lib.byteCells l) w' ∧ Below B w w') := Any.Builder_String_any_f Try.lays169 Try.Builder_Extra_169 B b l w h hBw
open Go.RowKit in
/-- (*strings.Builder).String: "String returns the accumulated string.": OF A BUILDER THAT HOLDS AT LEAST ONE BYTE. ✋ THE MODEL FREEZES THOSE BYTES IN THE BUFFER (unsafe.String): a later write INTO them ends the model's run without an answer; a later append BEHIND them goes on. The statement's order of evaluation is drawn: one draw. THE FORM '_k': OVER 'Lib.IsBuilderF' (a builder that 'String()' may have read), AND WITH THE FRAME THAT REACHES ABOVE THE BUILDER: 'Lib.OthersKept': every block that is not b and is no row of uint8's stands as it stood: the iterator of a range among them. (LAID: no walk: one application.) -/
theorem Try.Builder_String_k (B b : Nat) (l : List UInt8) (w : World) (h : Lib.IsBuilderF 49 5 B b (Lib.byteCells l) w) (h0 : l ≠ []) :
    Calls Try.prog 55 #[.pointer (some ⟨b, 0, none⟩)] w fun e w' => e = .returned (.string ⟨l.toArray⟩) ∧ (Lib.IsBuilderF 49 5 B b (Lib.byteCells l) w' ∧ Below B w w' ∧ Lib.OthersKept 5 (some b) w w') := Any.Builder_String_k Try.lays169 Try.Builder_Extra_169 B b l w h h0
open Go.RowKit in
/-- (*strings.Builder).String OF A BUILDER THAT HOLDS NO BYTE: the empty string; THE FORM '_k': OVER 'Lib.IsBuilderF' (a builder that 'String()' may have read), AND WITH THE FRAME THAT REACHES ABOVE THE BUILDER: 'Lib.OthersKept': every block that is not b and is no row of uint8's stands as it stood: the iterator of a range among them. (LAID: no walk: one application.) -/
theorem Try.Builder_String_empty_k (B b : Nat) (w : World) (h : Lib.IsBuilderF 49 5 B b [] w) (hBw : B ≤ w.heap.size) :
    Calls Try.prog 55 #[.pointer (some ⟨b, 0, none⟩)] w fun e w' => e = .returned (.string ⟨#[]⟩) ∧ (Lib.IsBuilderF 49 5 B b [] w' ∧ Below B w w' ∧ Lib.OthersKept 5 (some b) w w') := Any.Builder_String_empty_k Try.lays169 Try.Builder_Extra_169 B b w h hBw
open Go.RowKit in
/-- (*strings.Builder).String: "String returns the accumulated string.": WHATEVER THE BUILDER HOLDS; THE FORM '_k': OVER 'Lib.IsBuilderF' (a builder that 'String()' may have read), AND WITH THE FRAME THAT REACHES ABOVE THE BUILDER: 'Lib.OthersKept': every block that is not b and is no row of uint8's stands as it stood: the iterator of a range among them. (LAID: no walk: one application.) -/
theorem Try.Builder_String_any_k (B b : Nat) (l : List UInt8) (w : World) (h : Lib.IsBuilderF 49 5 B b (Lib.byteCells l) w) (hBw : B ≤ w.heap.size) :
    Calls Try.prog 55 #[.pointer (some ⟨b, 0, none⟩)] w fun e w' => e = .returned (.string ⟨l.toArray⟩) ∧ (Lib.IsBuilderF 49 5 B b (Lib.byteCells l) w' ∧ Below B w w' ∧ Lib.OthersKept 5 (some b) w w') := Any.Builder_String_any_k Try.lays169 Try.Builder_Extra_169 B b l w h hBw
open Go.RowKit in
/-- (*strings.Builder).grow (no doc but "grow copies the buffer to a new, larger buffer so that there are at least n bytes of capacity beyond len(b.buf)."): AT A BUILDER WITHOUT A BUFFER: a new row of whatever bytes for its buffer, none of them its own yet. Three draws. (LAID: no walk: one application.) -/
theorem Try.Builder_grow_fresh_cap (B b n : Nat) (w : World) (hB : B ≤ b) (hbk : w.heap[b]? = some (.cells #[.pointer (some ⟨b, 0, none⟩), .slice none 0 0] 49 (0, 0))) (hBw : B ≤ w.heap.size) (hn : n ≤ 281474976710656) :
    Calls Try.prog 66 #[.pointer (some ⟨b, 0, none⟩), .int .i64 n] w fun e w' => e = .returned (.tuple #[]) ∧ (Lib.BuilderAt 49 5 B b (.pointer (some ⟨b, 0, none⟩)) [] w' ∧ Below B w w') ∧ ∃ p cap, w'.cell? ⟨b, 1, none⟩ = some (.slice p 0 cap) ∧ n ≤ cap := Any.Builder_grow_fresh_cap Try.lays241 Try.Builder_Extra_241 B b n w hB hbk hBw hn
open Go.RowKit in
/-- (*strings.Builder).Grow AT A BUILDER THAT HAS NOT BEEN WRITTEN ('var b strings.Builder; b.Grow(n)'): "Grow grows b's capacity, if necessary, to guarantee space for another n bytes.": it holds no byte behind it as before it. (LAID: no walk: one application.) -/
theorem Try.Builder_Grow_fresh_cap (B b n : Nat) (w : World) (hB : B ≤ b) (hbk : w.heap[b]? = some (.cells #[.pointer none, .slice none 0 0] 49 (0, 0))) (hBw : B ≤ w.heap.size) (hn : n ≤ 281474976710656) :
    Calls Try.prog 53 #[.pointer (some ⟨b, 0, none⟩), .int .i64 n] w fun e w' => e = .returned (.tuple #[]) ∧ (Lib.BuilderAt 49 5 B b (.pointer (some ⟨b, 0, none⟩)) [] w' ∧ Below B w w') ∧ ∃ p cap, w'.cell? ⟨b, 1, none⟩ = some (.slice p 0 cap) ∧ n ≤ cap := Any.Builder_Grow_fresh_cap Try.lays165 Try.Builder_Extra_165 B b n w hB hbk hBw hn
def Try.lays129_ren : Go.Shelf.Ren := ⟨fun | 129 => 77 | n => n, fun | 53 => 80 | 3 => 3 | 4 => 4 | 46 => 65 | 5 => 5 | 9 => 9 | n => n, fun | n => n⟩
theorem Try.lays129 : Go.Proofs.Lays.n129 Try.prog Try.lays129_ren := {
  mixed := by kernel_rfl
  f129 := Try.func77.trans (congrArg some (by kernel_rfl))
  t3 := Try.underlying3
  a3 := Try.isAgg3
  z3 := Try.sizeOf3
  v3 := Try.zeroValue3
  t4 := Try.underlying4
  a4 := Try.isAgg4
  z4 := Try.sizeOf4
  v4 := Try.zeroValue4
  t5 := Try.underlying5
  a5 := Try.isAgg5
  z5 := Try.sizeOf5
  v5 := Try.zeroValue5
  t9 := Try.underlying9
  a9 := Try.isAgg9
  z9 := Try.sizeOf9
  v9 := Try.zeroValue9
  t46 := Try.underlying65
  a46 := Try.isAgg65
  z46 := Try.sizeOf65
  v46 := Try.zeroValue65
  t53 := Try.underlying80
  a53 := Try.isAgg80
  z53 := Try.sizeOf80
  v53 := Try.zeroValue80 }
/-- bits.Len64: "Len64 returns the minimum number of bits required to represent x; the result is 0 for x == 0.": IT RETURNS 'Lib.bitLen x'; the world is as it was. ('h0', 'h1': x is a uint64.) (LAID: no walk: one application.) -/
theorem Try.bits_Len64 (x : Int) (w : World) (h0 : 0 ≤ x) (h1 : x ≤ 18446744073709551615) :
    Calls Try.prog 77 #[.int .u64 x] w fun e w' => e = .returned (.int .i64 (Lib.bitLen x.toNat)) ∧ w' = w := Any.bits_Len64 Try.lays129 x w h0 h1
def Try.lays189_ren : Go.Shelf.Ren := ⟨fun | 189 => 52 | 125 => 59 | 257 => 64 | 128 => 76 | 129 => 77 | 294 => 95 | 295 => 96 | 296 => 97 | 297 => 98 | 298 => 99 | 299 => 100 | 216 => 101 | 300 => 102 | 301 => 103 | 328 => 117 | 329 => 112 | 330 => 113 | 331 => 118 | 332 => 119 | 215 => 120 | 343 => 123 | n => n, fun | 28 => 23 | 3 => 3 | 46 => 65 | 0 => 0 | 51 => 78 | 53 => 80 | 4 => 4 | 183 => 91 | 182 => 90 | 131 => 87 | 5 => 5 | 9 => 9 | 218 => 109 | 222 => 107 | 228 => 119 | 229 => 117 | n => n, fun | n => n⟩
theorem Try.lays189 : Go.Proofs.Lays.n189 Try.prog Try.lays189_ren := {
  mixed := by kernel_rfl
  f125 := Try.func59.trans (congrArg some (by kernel_rfl))
  f128 := Try.func76.trans (congrArg some (by kernel_rfl))
  f129 := Try.func77.trans (congrArg some (by kernel_rfl))
  f189 := Try.func52.trans (congrArg some (by kernel_rfl))
  f215 := Try.func120.trans (congrArg some (by kernel_rfl))
  f216 := Try.func101.trans (congrArg some (by kernel_rfl))
  f257 := Try.func64.trans (congrArg some (by kernel_rfl))
  f294 := Try.func95.trans (congrArg some (by kernel_rfl))
  f295 := Try.func96.trans (congrArg some (by kernel_rfl))
  f296 := Try.func97.trans (congrArg some (by kernel_rfl))
  f297 := Try.func98.trans (congrArg some (by kernel_rfl))
  f298 := Try.func99.trans (congrArg some (by kernel_rfl))
  f299 := Try.func100.trans (congrArg some (by kernel_rfl))
  f300 := Try.func102.trans (congrArg some (by kernel_rfl))
  f301 := Try.func103.trans (congrArg some (by kernel_rfl))
  f328 := Try.func117.trans (congrArg some (by kernel_rfl))
  f329 := Try.func112.trans (congrArg some (by kernel_rfl))
  f330 := Try.func113.trans (congrArg some (by kernel_rfl))
  f331 := Try.func118.trans (congrArg some (by kernel_rfl))
  f332 := Try.func119.trans (congrArg some (by kernel_rfl))
  f343 := Try.func123.trans (congrArg some (by kernel_rfl))
  t0 := Try.underlying0
  a0 := Try.isAgg0
  z0 := Try.sizeOf0
  v0 := Try.zeroValue0
  t3 := Try.underlying3
  a3 := Try.isAgg3
  z3 := Try.sizeOf3
  v3 := Try.zeroValue3
  t4 := Try.underlying4
  a4 := Try.isAgg4
  z4 := Try.sizeOf4
  v4 := Try.zeroValue4
  t5 := Try.underlying5
  a5 := Try.isAgg5
  z5 := Try.sizeOf5
  v5 := Try.zeroValue5
  t9 := Try.underlying9
  a9 := Try.isAgg9
  z9 := Try.sizeOf9
  v9 := Try.zeroValue9
  t28 := Try.underlying23
  a28 := Try.isAgg23
  z28 := Try.sizeOf23
  v28 := Try.zeroValue23
  t46 := Try.underlying65
  a46 := Try.isAgg65
  z46 := Try.sizeOf65
  v46 := Try.zeroValue65
  t51 := Try.underlying78
  a51 := Try.isAgg78
  z51 := Try.sizeOf78
  v51 := Try.zeroValue78
  t53 := Try.underlying80
  a53 := Try.isAgg80
  z53 := Try.sizeOf80
  v53 := Try.zeroValue80
  t131 := Try.underlying87
  a131 := Try.isAgg87
  z131 := Try.sizeOf87
  v131 := Try.zeroValue87
  t182 := Try.underlying90
  a182 := Try.isAgg90
  z182 := Try.sizeOf90
  v182 := Try.zeroValue90
  t183 := Try.underlying91
  a183 := Try.isAgg91
  z183 := Try.sizeOf91
  v183 := Try.zeroValue91
  t218 := Try.underlying109
  a218 := Try.isAgg109
  z218 := Try.sizeOf109
  v218 := Try.zeroValue109
  t222 := Try.underlying107
  a222 := Try.isAgg107
  z222 := Try.sizeOf107
  v222 := Try.zeroValue107
  t228 := Try.underlying119
  a228 := Try.isAgg119
  z228 := Try.sizeOf119
  v228 := Try.zeroValue119
  t229 := Try.underlying117
  a229 := Try.isAgg117
  z229 := Try.sizeOf117
  v229 := Try.zeroValue117 }
open Go.Sort Go.RowKit in
theorem Try.slices_Sort_int (blk off cap : Nat) (zs : List Int) (w : World) (hH : Holds (Value.int .i64) w blk off zs.toArray) (hblk : blk < w.heap.size) (hsz : zs.length < 4611686018427387904) :
    Calls Try.prog 52 #[.slice (some ⟨blk, off, none⟩) zs.length cap] w fun e w' =>
      e = .returned (.tuple #[]) ∧ ∃ n os, w' = grow (putRow (Value.int .i64) (Sort.ahead w n) blk off (zs.mergeSort fun x y => decide (x ≤ y)).toArray) os := Any.slices_Sort_int Try.lays189 blk off cap zs w hH hblk hsz
def Try.lays191_ren : Go.Shelf.Ren := ⟨fun | 191 => 45 | 189 => 52 | 125 => 59 | 257 => 64 | 128 => 76 | 129 => 77 | 294 => 95 | 295 => 96 | 296 => 97 | 297 => 98 | 298 => 99 | 299 => 100 | 216 => 101 | 300 => 102 | 301 => 103 | 328 => 117 | 329 => 112 | 330 => 113 | 331 => 118 | 332 => 119 | 215 => 120 | 343 => 123 | n => n, fun | 28 => 23 | 0 => 0 | 3 => 3 | 46 => 65 | 51 => 78 | 53 => 80 | 4 => 4 | 183 => 91 | 182 => 90 | 131 => 87 | 5 => 5 | 9 => 9 | 218 => 109 | 222 => 107 | 228 => 119 | 229 => 117 | n => n, fun | n => n⟩
theorem Try.lays191 : Go.Proofs.Lays.n191 Try.prog Try.lays191_ren := {
  mixed := by kernel_rfl
  f125 := Try.func59.trans (congrArg some (by kernel_rfl))
  f128 := Try.func76.trans (congrArg some (by kernel_rfl))
  f129 := Try.func77.trans (congrArg some (by kernel_rfl))
  f189 := Try.func52.trans (congrArg some (by kernel_rfl))
  f191 := Try.func45.trans (congrArg some (by kernel_rfl))
  f215 := Try.func120.trans (congrArg some (by kernel_rfl))
  f216 := Try.func101.trans (congrArg some (by kernel_rfl))
  f257 := Try.func64.trans (congrArg some (by kernel_rfl))
  f294 := Try.func95.trans (congrArg some (by kernel_rfl))
  f295 := Try.func96.trans (congrArg some (by kernel_rfl))
  f296 := Try.func97.trans (congrArg some (by kernel_rfl))
  f297 := Try.func98.trans (congrArg some (by kernel_rfl))
  f298 := Try.func99.trans (congrArg some (by kernel_rfl))
  f299 := Try.func100.trans (congrArg some (by kernel_rfl))
  f300 := Try.func102.trans (congrArg some (by kernel_rfl))
  f301 := Try.func103.trans (congrArg some (by kernel_rfl))
  f328 := Try.func117.trans (congrArg some (by kernel_rfl))
  f329 := Try.func112.trans (congrArg some (by kernel_rfl))
  f330 := Try.func113.trans (congrArg some (by kernel_rfl))
  f331 := Try.func118.trans (congrArg some (by kernel_rfl))
  f332 := Try.func119.trans (congrArg some (by kernel_rfl))
  f343 := Try.func123.trans (congrArg some (by kernel_rfl))
  t0 := Try.underlying0
  a0 := Try.isAgg0
  z0 := Try.sizeOf0
  v0 := Try.zeroValue0
  t3 := Try.underlying3
  a3 := Try.isAgg3
  z3 := Try.sizeOf3
  v3 := Try.zeroValue3
  t4 := Try.underlying4
  a4 := Try.isAgg4
  z4 := Try.sizeOf4
  v4 := Try.zeroValue4
  t5 := Try.underlying5
  a5 := Try.isAgg5
  z5 := Try.sizeOf5
  v5 := Try.zeroValue5
  t9 := Try.underlying9
  a9 := Try.isAgg9
  z9 := Try.sizeOf9
  v9 := Try.zeroValue9
  t28 := Try.underlying23
  a28 := Try.isAgg23
  z28 := Try.sizeOf23
  v28 := Try.zeroValue23
  t46 := Try.underlying65
  a46 := Try.isAgg65
  z46 := Try.sizeOf65
  v46 := Try.zeroValue65
  t51 := Try.underlying78
  a51 := Try.isAgg78
  z51 := Try.sizeOf78
  v51 := Try.zeroValue78
  t53 := Try.underlying80
  a53 := Try.isAgg80
  z53 := Try.sizeOf80
  v53 := Try.zeroValue80
  t131 := Try.underlying87
  a131 := Try.isAgg87
  z131 := Try.sizeOf87
  v131 := Try.zeroValue87
  t182 := Try.underlying90
  a182 := Try.isAgg90
  z182 := Try.sizeOf90
  v182 := Try.zeroValue90
  t183 := Try.underlying91
  a183 := Try.isAgg91
  z183 := Try.sizeOf91
  v183 := Try.zeroValue91
  t218 := Try.underlying109
  a218 := Try.isAgg109
  z218 := Try.sizeOf109
  v218 := Try.zeroValue109
  t222 := Try.underlying107
  a222 := Try.isAgg107
  z222 := Try.sizeOf107
  v222 := Try.zeroValue107
  t228 := Try.underlying119
  a228 := Try.isAgg119
  z228 := Try.sizeOf119
  v228 := Try.zeroValue119
  t229 := Try.underlying117
  a229 := Try.isAgg117
  z229 := Try.sizeOf117
  v229 := Try.zeroValue117 }
open Go.Sort Go.RowKit in
theorem Try.sort_Ints (blk off cap : Nat) (zs : List Int) (w : World) (hH : Holds (Value.int .i64) w blk off zs.toArray) (hblk : blk < w.heap.size) (hsz : zs.length < 4611686018427387904) :
    Calls Try.prog 45 #[.slice (some ⟨blk, off, none⟩) zs.length cap] w fun e w' =>
      e = .returned (.tuple #[]) ∧ ∃ n os, w' = grow (putRow (Value.int .i64) (Sort.ahead w n) blk off (zs.mergeSort fun x y => decide (x ≤ y)).toArray) os := Any.sort_Ints Try.lays191 blk off cap zs w hH hblk hsz
def Try.lays190_ren : Go.Shelf.Ren := ⟨fun | 190 => 51 | 125 => 59 | 258 => 63 | 128 => 76 | 129 => 77 | 302 => 86 | 303 => 87 | 304 => 88 | 305 => 89 | 306 => 90 | 307 => 91 | 308 => 92 | 309 => 93 | 310 => 94 | 333 => 111 | 329 => 112 | 330 => 113 | 334 => 114 | 335 => 115 | 336 => 116 | 344 => 122 | n => n, fun | 31 => 22 | 9 => 9 | 3 => 3 | 46 => 65 | 0 => 0 | 51 => 78 | 53 => 80 | 4 => 4 | 183 => 91 | 182 => 90 | 131 => 87 | 5 => 5 | 218 => 109 | 222 => 107 | 228 => 119 | 229 => 117 | n => n, fun | n => n⟩
theorem Try.lays190 : Go.Proofs.Lays.n190 Try.prog Try.lays190_ren := {
  mixed := by kernel_rfl
  f125 := Try.func59.trans (congrArg some (by kernel_rfl))
  f128 := Try.func76.trans (congrArg some (by kernel_rfl))
  f129 := Try.func77.trans (congrArg some (by kernel_rfl))
  f190 := Try.func51.trans (congrArg some (by kernel_rfl))
  f258 := Try.func63.trans (congrArg some (by kernel_rfl))
  f302 := Try.func86.trans (congrArg some (by kernel_rfl))
  f303 := Try.func87.trans (congrArg some (by kernel_rfl))
  f304 := Try.func88.trans (congrArg some (by kernel_rfl))
  f305 := Try.func89.trans (congrArg some (by kernel_rfl))
  f306 := Try.func90.trans (congrArg some (by kernel_rfl))
  f307 := Try.func91.trans (congrArg some (by kernel_rfl))
  f308 := Try.func92.trans (congrArg some (by kernel_rfl))
  f309 := Try.func93.trans (congrArg some (by kernel_rfl))
  f310 := Try.func94.trans (congrArg some (by kernel_rfl))
  f329 := Try.func112.trans (congrArg some (by kernel_rfl))
  f330 := Try.func113.trans (congrArg some (by kernel_rfl))
  f333 := Try.func111.trans (congrArg some (by kernel_rfl))
  f334 := Try.func114.trans (congrArg some (by kernel_rfl))
  f335 := Try.func115.trans (congrArg some (by kernel_rfl))
  f336 := Try.func116.trans (congrArg some (by kernel_rfl))
  f344 := Try.func122.trans (congrArg some (by kernel_rfl))
  t0 := Try.underlying0
  a0 := Try.isAgg0
  z0 := Try.sizeOf0
  v0 := Try.zeroValue0
  t3 := Try.underlying3
  a3 := Try.isAgg3
  z3 := Try.sizeOf3
  v3 := Try.zeroValue3
  t4 := Try.underlying4
  a4 := Try.isAgg4
  z4 := Try.sizeOf4
  v4 := Try.zeroValue4
  t5 := Try.underlying5
  a5 := Try.isAgg5
  z5 := Try.sizeOf5
  v5 := Try.zeroValue5
  t9 := Try.underlying9
  a9 := Try.isAgg9
  z9 := Try.sizeOf9
  v9 := Try.zeroValue9
  t31 := Try.underlying22
  a31 := Try.isAgg22
  z31 := Try.sizeOf22
  v31 := Try.zeroValue22
  t46 := Try.underlying65
  a46 := Try.isAgg65
  z46 := Try.sizeOf65
  v46 := Try.zeroValue65
  t51 := Try.underlying78
  a51 := Try.isAgg78
  z51 := Try.sizeOf78
  v51 := Try.zeroValue78
  t53 := Try.underlying80
  a53 := Try.isAgg80
  z53 := Try.sizeOf80
  v53 := Try.zeroValue80
  t131 := Try.underlying87
  a131 := Try.isAgg87
  z131 := Try.sizeOf87
  v131 := Try.zeroValue87
  t182 := Try.underlying90
  a182 := Try.isAgg90
  z182 := Try.sizeOf90
  v182 := Try.zeroValue90
  t183 := Try.underlying91
  a183 := Try.isAgg91
  z183 := Try.sizeOf91
  v183 := Try.zeroValue91
  t218 := Try.underlying109
  a218 := Try.isAgg109
  z218 := Try.sizeOf109
  v218 := Try.zeroValue109
  t222 := Try.underlying107
  a222 := Try.isAgg107
  z222 := Try.sizeOf107
  v222 := Try.zeroValue107
  t228 := Try.underlying119
  a228 := Try.isAgg119
  z228 := Try.sizeOf119
  v228 := Try.zeroValue119
  t229 := Try.underlying117
  a229 := Try.isAgg117
  z229 := Try.sizeOf117
  v229 := Try.zeroValue117 }
open Go.Sort Go.RowKit in
theorem Try.slices_Sort_string (blk off cap : Nat) (ss : List (List UInt8)) (w : World) (hH : Holds encStr w blk off ss.toArray) (hblk : blk < w.heap.size) (hsz : ss.length < 4611686018427387904) :
    Calls Try.prog 51 #[.slice (some ⟨blk, off, none⟩) ss.length cap] w fun e w' =>
      e = .returned (.tuple #[]) ∧ ∃ n os, w' = grow (putRow encStr (Sort.ahead w n) blk off (ss.mergeSort fun x y => decide (x ≤ y)).toArray) os := Any.slices_Sort_string Try.lays190 blk off cap ss w hH hblk hsz
def Try.lays192_ren : Go.Shelf.Ren := ⟨fun | 192 => 44 | 190 => 51 | 125 => 59 | 258 => 63 | 128 => 76 | 129 => 77 | 302 => 86 | 303 => 87 | 304 => 88 | 305 => 89 | 306 => 90 | 307 => 91 | 308 => 92 | 309 => 93 | 310 => 94 | 333 => 111 | 329 => 112 | 330 => 113 | 334 => 114 | 335 => 115 | 336 => 116 | 344 => 122 | n => n, fun | 31 => 22 | 0 => 0 | 9 => 9 | 3 => 3 | 46 => 65 | 51 => 78 | 53 => 80 | 4 => 4 | 183 => 91 | 182 => 90 | 131 => 87 | 5 => 5 | 218 => 109 | 222 => 107 | 228 => 119 | 229 => 117 | n => n, fun | n => n⟩
theorem Try.lays192 : Go.Proofs.Lays.n192 Try.prog Try.lays192_ren := {
  mixed := by kernel_rfl
  f125 := Try.func59.trans (congrArg some (by kernel_rfl))
  f128 := Try.func76.trans (congrArg some (by kernel_rfl))
  f129 := Try.func77.trans (congrArg some (by kernel_rfl))
  f190 := Try.func51.trans (congrArg some (by kernel_rfl))
  f192 := Try.func44.trans (congrArg some (by kernel_rfl))
  f258 := Try.func63.trans (congrArg some (by kernel_rfl))
  f302 := Try.func86.trans (congrArg some (by kernel_rfl))
  f303 := Try.func87.trans (congrArg some (by kernel_rfl))
  f304 := Try.func88.trans (congrArg some (by kernel_rfl))
  f305 := Try.func89.trans (congrArg some (by kernel_rfl))
  f306 := Try.func90.trans (congrArg some (by kernel_rfl))
  f307 := Try.func91.trans (congrArg some (by kernel_rfl))
  f308 := Try.func92.trans (congrArg some (by kernel_rfl))
  f309 := Try.func93.trans (congrArg some (by kernel_rfl))
  f310 := Try.func94.trans (congrArg some (by kernel_rfl))
  f329 := Try.func112.trans (congrArg some (by kernel_rfl))
  f330 := Try.func113.trans (congrArg some (by kernel_rfl))
  f333 := Try.func111.trans (congrArg some (by kernel_rfl))
  f334 := Try.func114.trans (congrArg some (by kernel_rfl))
  f335 := Try.func115.trans (congrArg some (by kernel_rfl))
  f336 := Try.func116.trans (congrArg some (by kernel_rfl))
  f344 := Try.func122.trans (congrArg some (by kernel_rfl))
  t0 := Try.underlying0
  a0 := Try.isAgg0
  z0 := Try.sizeOf0
  v0 := Try.zeroValue0
  t3 := Try.underlying3
  a3 := Try.isAgg3
  z3 := Try.sizeOf3
  v3 := Try.zeroValue3
  t4 := Try.underlying4
  a4 := Try.isAgg4
  z4 := Try.sizeOf4
  v4 := Try.zeroValue4
  t5 := Try.underlying5
  a5 := Try.isAgg5
  z5 := Try.sizeOf5
  v5 := Try.zeroValue5
  t9 := Try.underlying9
  a9 := Try.isAgg9
  z9 := Try.sizeOf9
  v9 := Try.zeroValue9
  t31 := Try.underlying22
  a31 := Try.isAgg22
  z31 := Try.sizeOf22
  v31 := Try.zeroValue22
  t46 := Try.underlying65
  a46 := Try.isAgg65
  z46 := Try.sizeOf65
  v46 := Try.zeroValue65
  t51 := Try.underlying78
  a51 := Try.isAgg78
  z51 := Try.sizeOf78
  v51 := Try.zeroValue78
  t53 := Try.underlying80
  a53 := Try.isAgg80
  z53 := Try.sizeOf80
  v53 := Try.zeroValue80
  t131 := Try.underlying87
  a131 := Try.isAgg87
  z131 := Try.sizeOf87
  v131 := Try.zeroValue87
  t182 := Try.underlying90
  a182 := Try.isAgg90
  z182 := Try.sizeOf90
  v182 := Try.zeroValue90
  t183 := Try.underlying91
  a183 := Try.isAgg91
  z183 := Try.sizeOf91
  v183 := Try.zeroValue91
  t218 := Try.underlying109
  a218 := Try.isAgg109
  z218 := Try.sizeOf109
  v218 := Try.zeroValue109
  t222 := Try.underlying107
  a222 := Try.isAgg107
  z222 := Try.sizeOf107
  v222 := Try.zeroValue107
  t228 := Try.underlying119
  a228 := Try.isAgg119
  z228 := Try.sizeOf119
  v228 := Try.zeroValue119
  t229 := Try.underlying117
  a229 := Try.isAgg117
  z229 := Try.sizeOf117
  v229 := Try.zeroValue117 }
open Go.Sort Go.RowKit in
theorem Try.sort_Strings (blk off cap : Nat) (ss : List (List UInt8)) (w : World) (hH : Holds encStr w blk off ss.toArray) (hblk : blk < w.heap.size) (hsz : ss.length < 4611686018427387904) :
    Calls Try.prog 44 #[.slice (some ⟨blk, off, none⟩) ss.length cap] w fun e w' =>
      e = .returned (.tuple #[]) ∧ ∃ n os, w' = grow (putRow encStr (Sort.ahead w n) blk off (ss.mergeSort fun x y => decide (x ≤ y)).toArray) os := Any.sort_Strings Try.lays192 blk off cap ss w hH hblk hsz
def Try.laysGg26_ren : Go.Shelf.Ren := ⟨fun | 26 => 78 | n => n, fun | 44 => 68 | 3 => 3 | 0 => 0 | 4 => 4 | 26 => 44 | 37 => 61 | n => n, fun | n => n⟩
theorem Try.laysGg26 : Go.Proofs.LaysGg.n26 Try.prog Try.laysGg26_ren := {
  mixed := by kernel_rfl
  f26 := Try.func78.trans (congrArg some (by kernel_rfl))
  t0 := Try.underlying0
  a0 := Try.isAgg0
  z0 := Try.sizeOf0
  v0 := Try.zeroValue0
  i0 := by kernel_rfl
  t3 := Try.underlying3
  a3 := Try.isAgg3
  z3 := Try.sizeOf3
  v3 := Try.zeroValue3
  i3 := by kernel_rfl
  t4 := Try.underlying4
  a4 := Try.isAgg4
  z4 := Try.sizeOf4
  v4 := Try.zeroValue4
  i4 := by kernel_rfl
  t26 := Try.underlying44
  a26 := Try.isAgg44
  z26 := Try.sizeOf44
  v26 := Try.zeroValue44
  i26 := by kernel_rfl
  t37 := Try.underlying61
  a37 := Try.isAgg61
  z37 := Try.sizeOf61
  v37 := Try.zeroValue61
  i37 := by kernel_rfl
  t44 := Try.underlying68
  a44 := Try.isAgg68
  z44 := Try.sizeOf68
  v44 := Try.zeroValue68
  i44 := by kernel_rfl }
open Go.RowKit Go.Lib Go.Sort in
theorem Try.insertionSort_func_one {α : Type} [Inhabited α] (enc : α → Value) (lt : α → α → Bool) (g : Nat) (lb : Array Value) (sf : Nat) (sb : Array Value) (blk off a b : Nat) (d : Array α) (w : World) (eg : ∀ args w, (callFunc g args).run Try.prog w = .ok (.enter g args) w) (hless : LessReads Try.prog g lb enc lt blk off d.size w) (hswap : SwapSwaps Try.prog sf sb enc blk off d.size) (hH : Holds enc w blk off d) (hblk : blk < w.heap.size) (hab : a ≤ b) (hb : b ≤ d.size) (hsz : d.size < 4611686018427387904) :
    Calls Try.prog 78 #[.agg #[.func (.func g) #[] lb, .func (.func sf) #[] sb], .int .i64 a, .int .i64 b] w fun e w' =>
      e = .returned (.tuple #[]) ∧ ∃ n, w' = putRow enc (Sort.ahead (w.alloc (.cells #[.func (.func g) #[] lb, .func (.func sf) #[] sb] 68)) n) blk off (Sort.insertionSort lt d a b) := Any.insertionSort_func_one Try.laysGg26 enc lt g lb sf sb blk off a b d w eg hless hswap hH hblk hab hb hsz
def Try.laysGg14_ren : Go.Shelf.Ren := ⟨fun | 14 => 60 | 26 => 78 | 27 => 79 | 28 => 80 | 29 => 81 | 30 => 82 | 31 => 83 | 32 => 84 | 33 => 85 | 34 => 106 | 35 => 107 | 36 => 108 | 37 => 109 | 38 => 110 | 13 => 59 | 39 => 121 | 24 => 76 | 25 => 77 | n => n, fun | 44 => 68 | 3 => 3 | 0 => 0 | 4 => 4 | 54 => 83 | 53 => 82 | 26 => 44 | 58 => 87 | 37 => 61 | 60 => 103 | 41 => 65 | 51 => 80 | 64 => 107 | 66 => 116 | 67 => 117 | 49 => 78 | 5 => 5 | 9 => 9 | n => n, fun | n => n⟩
theorem Try.laysGg14 : Go.Proofs.LaysGg.n14 Try.prog Try.laysGg14_ren := {
  mixed := by kernel_rfl
  f13 := Try.func59.trans (congrArg some (by kernel_rfl))
  f14 := Try.func60.trans (congrArg some (by kernel_rfl))
  f24 := Try.func76.trans (congrArg some (by kernel_rfl))
  f25 := Try.func77.trans (congrArg some (by kernel_rfl))
  f26 := Try.func78.trans (congrArg some (by kernel_rfl))
  f27 := Try.func79.trans (congrArg some (by kernel_rfl))
  f28 := Try.func80.trans (congrArg some (by kernel_rfl))
  f29 := Try.func81.trans (congrArg some (by kernel_rfl))
  f30 := Try.func82.trans (congrArg some (by kernel_rfl))
  f31 := Try.func83.trans (congrArg some (by kernel_rfl))
  f32 := Try.func84.trans (congrArg some (by kernel_rfl))
  f33 := Try.func85.trans (congrArg some (by kernel_rfl))
  f34 := Try.func106.trans (congrArg some (by kernel_rfl))
  f35 := Try.func107.trans (congrArg some (by kernel_rfl))
  f36 := Try.func108.trans (congrArg some (by kernel_rfl))
  f37 := Try.func109.trans (congrArg some (by kernel_rfl))
  f38 := Try.func110.trans (congrArg some (by kernel_rfl))
  f39 := Try.func121.trans (congrArg some (by kernel_rfl))
  t0 := Try.underlying0
  a0 := Try.isAgg0
  z0 := Try.sizeOf0
  v0 := Try.zeroValue0
  i0 := by kernel_rfl
  t3 := Try.underlying3
  a3 := Try.isAgg3
  z3 := Try.sizeOf3
  v3 := Try.zeroValue3
  i3 := by kernel_rfl
  t4 := Try.underlying4
  a4 := Try.isAgg4
  z4 := Try.sizeOf4
  v4 := Try.zeroValue4
  i4 := by kernel_rfl
  t5 := Try.underlying5
  a5 := Try.isAgg5
  z5 := Try.sizeOf5
  v5 := Try.zeroValue5
  i5 := by kernel_rfl
  t9 := Try.underlying9
  a9 := Try.isAgg9
  z9 := Try.sizeOf9
  v9 := Try.zeroValue9
  i9 := by kernel_rfl
  t26 := Try.underlying44
  a26 := Try.isAgg44
  z26 := Try.sizeOf44
  v26 := Try.zeroValue44
  i26 := by kernel_rfl
  t37 := Try.underlying61
  a37 := Try.isAgg61
  z37 := Try.sizeOf61
  v37 := Try.zeroValue61
  i37 := by kernel_rfl
  t41 := Try.underlying65
  a41 := Try.isAgg65
  z41 := Try.sizeOf65
  v41 := Try.zeroValue65
  i41 := by kernel_rfl
  t44 := Try.underlying68
  a44 := Try.isAgg68
  z44 := Try.sizeOf68
  v44 := Try.zeroValue68
  i44 := by kernel_rfl
  t49 := Try.underlying78
  a49 := Try.isAgg78
  z49 := Try.sizeOf78
  v49 := Try.zeroValue78
  i49 := by kernel_rfl
  t51 := Try.underlying80
  a51 := Try.isAgg80
  z51 := Try.sizeOf80
  v51 := Try.zeroValue80
  i51 := by kernel_rfl
  t53 := Try.underlying82
  a53 := Try.isAgg82
  z53 := Try.sizeOf82
  v53 := Try.zeroValue82
  i53 := by kernel_rfl
  t54 := Try.underlying83
  a54 := Try.isAgg83
  z54 := Try.sizeOf83
  v54 := Try.zeroValue83
  i54 := by kernel_rfl
  t58 := Try.underlying87
  a58 := Try.isAgg87
  z58 := Try.sizeOf87
  v58 := Try.zeroValue87
  i58 := by kernel_rfl
  t60 := Try.underlying103
  a60 := Try.isAgg103
  z60 := Try.sizeOf103
  v60 := Try.zeroValue103
  i60 := by kernel_rfl
  t64 := Try.underlying107
  a64 := Try.isAgg107
  z64 := Try.sizeOf107
  v64 := Try.zeroValue107
  i64 := by kernel_rfl
  t66 := Try.underlying116
  a66 := Try.isAgg116
  z66 := Try.sizeOf116
  v66 := Try.zeroValue116
  i66 := by kernel_rfl
  t67 := Try.underlying117
  a67 := Try.isAgg117
  z67 := Try.sizeOf117
  v67 := Try.zeroValue117
  i67 := by kernel_rfl }
open Go.RowKit Go.Lib Go.Sort in
/-- sort.pdqsort_func AT A RANGE OF AT MOST 12. (LAID: no walk: one application.) -/
theorem Try.pdqsort_func_small {α : Type} [Inhabited α] (enc : α → Value) (lt : α → α → Bool) (g : Nat) (lb : Array Value) (sf : Nat) (sb : Array Value) (blk off a b : Nat) (lim : Int) (d : Array α) (w : World) (eg : ∀ args w, (callFunc g args).run Try.prog w = .ok (.enter g args) w) (hless : LessReads Try.prog g lb enc lt blk off d.size w) (hswap : SwapSwaps Try.prog sf sb enc blk off d.size) (hH : Holds enc w blk off d) (hblk : blk < w.heap.size) (hab : a ≤ b) (hb : b ≤ d.size) (hsz : d.size < 4611686018427387904) (h12 : b - a ≤ 12) :
    Calls Try.prog 60 #[.agg #[.func (.func g) #[] lb, .func (.func sf) #[] sb], .int .i64 a, .int .i64 b, .int .i64 lim] w fun e w' =>
      e = .returned (.tuple #[]) ∧ ∃ n, w' = putRow enc (Sort.ahead ((w.alloc (.cells #[.func (.func g) #[] lb, .func (.func sf) #[] sb] 68)).alloc (.cells #[.func (.func g) #[] lb, .func (.func sf) #[] sb] 68)) n) blk off (Sort.insertionSort lt d a b) := Any.pdqsort_func_small Try.laysGg14 enc lt g lb sf sb blk off a b lim d w eg hless hswap hH hblk hab hb hsz h12
def Try.laysGg6_ren : Go.Shelf.Ren := ⟨fun | 6 => 47 | 10 => 56 | 11 => 57 | 12 => 58 | 13 => 59 | 14 => 60 | 24 => 76 | 25 => 77 | 26 => 78 | 27 => 79 | 28 => 80 | 29 => 81 | 30 => 82 | 31 => 83 | 32 => 84 | 33 => 85 | 34 => 106 | 35 => 107 | 36 => 108 | 37 => 109 | 38 => 110 | 39 => 121 | n => n, fun | 20 => 20 | 26 => 44 | 35 => 59 | 0 => 0 | 37 => 61 | 3 => 3 | 41 => 65 | 44 => 68 | 49 => 78 | 51 => 80 | 4 => 4 | 54 => 83 | 53 => 82 | 58 => 87 | 5 => 5 | 9 => 9 | 60 => 103 | 64 => 107 | 66 => 116 | 67 => 117 | 17 => 17 | 32 => 56 | 33 => 57 | 82 => 133 | 12 => 12 | 75 => 127 | 76 => 128 | 77 => 129 | 78 => 73 | 79 => 130 | 80 => 131 | n => n, fun | n => n⟩
theorem Try.laysGg6 : Go.Proofs.LaysGg.n6 Try.prog Try.laysGg6_ren := {
  mixed := by kernel_rfl
  f6 := Try.func47.trans (congrArg some (by kernel_rfl))
  f10 := Try.func56.trans (congrArg some (by kernel_rfl))
  f11 := Try.func57.trans (congrArg some (by kernel_rfl))
  f12 := Try.func58.trans (congrArg some (by kernel_rfl))
  f13 := Try.func59.trans (congrArg some (by kernel_rfl))
  f14 := Try.func60.trans (congrArg some (by kernel_rfl))
  f24 := Try.func76.trans (congrArg some (by kernel_rfl))
  f25 := Try.func77.trans (congrArg some (by kernel_rfl))
  f26 := Try.func78.trans (congrArg some (by kernel_rfl))
  f27 := Try.func79.trans (congrArg some (by kernel_rfl))
  f28 := Try.func80.trans (congrArg some (by kernel_rfl))
  f29 := Try.func81.trans (congrArg some (by kernel_rfl))
  f30 := Try.func82.trans (congrArg some (by kernel_rfl))
  f31 := Try.func83.trans (congrArg some (by kernel_rfl))
  f32 := Try.func84.trans (congrArg some (by kernel_rfl))
  f33 := Try.func85.trans (congrArg some (by kernel_rfl))
  f34 := Try.func106.trans (congrArg some (by kernel_rfl))
  f35 := Try.func107.trans (congrArg some (by kernel_rfl))
  f36 := Try.func108.trans (congrArg some (by kernel_rfl))
  f37 := Try.func109.trans (congrArg some (by kernel_rfl))
  f38 := Try.func110.trans (congrArg some (by kernel_rfl))
  f39 := Try.func121.trans (congrArg some (by kernel_rfl))
  t0 := Try.underlying0
  a0 := Try.isAgg0
  z0 := Try.sizeOf0
  v0 := Try.zeroValue0
  i0 := by kernel_rfl
  t3 := Try.underlying3
  a3 := Try.isAgg3
  z3 := Try.sizeOf3
  v3 := Try.zeroValue3
  i3 := by kernel_rfl
  t4 := Try.underlying4
  a4 := Try.isAgg4
  z4 := Try.sizeOf4
  v4 := Try.zeroValue4
  i4 := by kernel_rfl
  t5 := Try.underlying5
  a5 := Try.isAgg5
  z5 := Try.sizeOf5
  v5 := Try.zeroValue5
  i5 := by kernel_rfl
  t9 := Try.underlying9
  a9 := Try.isAgg9
  z9 := Try.sizeOf9
  v9 := Try.zeroValue9
  i9 := by kernel_rfl
  t12 := Try.underlying12
  a12 := Try.isAgg12
  z12 := Try.sizeOf12
  v12 := Try.zeroValue12
  i12 := by kernel_rfl
  t17 := Try.underlying17
  a17 := Try.isAgg17
  z17 := Try.sizeOf17
  v17 := Try.zeroValue17
  i17 := by kernel_rfl
  t20 := Try.underlying20
  a20 := Try.isAgg20
  z20 := Try.sizeOf20
  v20 := Try.zeroValue20
  i20 := by kernel_rfl
  t26 := Try.underlying44
  a26 := Try.isAgg44
  z26 := Try.sizeOf44
  v26 := Try.zeroValue44
  i26 := by kernel_rfl
  t32 := Try.underlying56
  a32 := Try.isAgg56
  z32 := Try.sizeOf56
  v32 := Try.zeroValue56
  i32 := by kernel_rfl
  t33 := Try.underlying57
  a33 := Try.isAgg57
  z33 := Try.sizeOf57
  v33 := Try.zeroValue57
  i33 := by kernel_rfl
  t35 := Try.underlying59
  a35 := Try.isAgg59
  z35 := Try.sizeOf59
  v35 := Try.zeroValue59
  i35 := by kernel_rfl
  t37 := Try.underlying61
  a37 := Try.isAgg61
  z37 := Try.sizeOf61
  v37 := Try.zeroValue61
  i37 := by kernel_rfl
  t41 := Try.underlying65
  a41 := Try.isAgg65
  z41 := Try.sizeOf65
  v41 := Try.zeroValue65
  i41 := by kernel_rfl
  t44 := Try.underlying68
  a44 := Try.isAgg68
  z44 := Try.sizeOf68
  v44 := Try.zeroValue68
  i44 := by kernel_rfl
  t49 := Try.underlying78
  a49 := Try.isAgg78
  z49 := Try.sizeOf78
  v49 := Try.zeroValue78
  i49 := by kernel_rfl
  t51 := Try.underlying80
  a51 := Try.isAgg80
  z51 := Try.sizeOf80
  v51 := Try.zeroValue80
  i51 := by kernel_rfl
  t53 := Try.underlying82
  a53 := Try.isAgg82
  z53 := Try.sizeOf82
  v53 := Try.zeroValue82
  i53 := by kernel_rfl
  t54 := Try.underlying83
  a54 := Try.isAgg83
  z54 := Try.sizeOf83
  v54 := Try.zeroValue83
  i54 := by kernel_rfl
  t58 := Try.underlying87
  a58 := Try.isAgg87
  z58 := Try.sizeOf87
  v58 := Try.zeroValue87
  i58 := by kernel_rfl
  t60 := Try.underlying103
  a60 := Try.isAgg103
  z60 := Try.sizeOf103
  v60 := Try.zeroValue103
  i60 := by kernel_rfl
  t64 := Try.underlying107
  a64 := Try.isAgg107
  z64 := Try.sizeOf107
  v64 := Try.zeroValue107
  i64 := by kernel_rfl
  t66 := Try.underlying116
  a66 := Try.isAgg116
  z66 := Try.sizeOf116
  v66 := Try.zeroValue116
  i66 := by kernel_rfl
  t67 := Try.underlying117
  a67 := Try.isAgg117
  z67 := Try.sizeOf117
  v67 := Try.zeroValue117
  i67 := by kernel_rfl
  t75 := Try.underlying127
  a75 := Try.isAgg127
  z75 := Try.sizeOf127
  v75 := Try.zeroValue127
  i75 := by kernel_rfl
  t76 := Try.underlying128
  a76 := Try.isAgg128
  z76 := Try.sizeOf128
  v76 := Try.zeroValue128
  i76 := by kernel_rfl
  t77 := Try.underlying129
  a77 := Try.isAgg129
  z77 := Try.sizeOf129
  v77 := Try.zeroValue129
  i77 := by kernel_rfl
  t78 := Try.underlying73
  a78 := Try.isAgg73
  z78 := Try.sizeOf73
  v78 := Try.zeroValue73
  i78 := by kernel_rfl
  t79 := Try.underlying130
  a79 := Try.isAgg130
  z79 := Try.sizeOf130
  v79 := Try.zeroValue130
  i79 := by kernel_rfl
  t80 := Try.underlying131
  a80 := Try.isAgg131
  z80 := Try.sizeOf131
  v80 := Try.zeroValue131
  i80 := by kernel_rfl
  t82 := Try.underlying133
  a82 := Try.isAgg133
  z82 := Try.sizeOf133
  v82 := Try.zeroValue133
  i82 := by kernel_rfl }
open Go.RowKit Go.Lib Go.Sort in
theorem Try.insertionSort_func_cells {α : Type} [Inhabited α] (enc : α → List Value) (k : Nat) (hk : ∀ x, (enc x).length = k) (lt : α → α → Bool) (g : Nat) (lb : Array Value) (sf : Nat) (sb : Array Value) (blk off a b : Nat) (d : Array α) (w : World) (eg : ∀ args w, (callFunc g args).run Try.prog w = .ok (.enter g args) w) (hless : LessReadsK Try.prog g lb enc k lt blk off d.size w) (hswap : SwapSwapsK Try.prog sf sb enc k blk off d.size) (hH : HoldsK enc k w blk off d) (hblk : blk < w.heap.size) (hab : a ≤ b) (hb : b ≤ d.size) (hsz : d.size < 4611686018427387904) :
    Calls Try.prog 78 #[.agg #[.func (.func g) #[] lb, .func (.func sf) #[] sb], .int .i64 a, .int .i64 b] w fun e w' =>
      e = .returned (.tuple #[]) ∧ ∃ n, w' = putRowK enc k (Sort.ahead (w.alloc (.cells #[.func (.func g) #[] lb, .func (.func sf) #[] sb] 68)) n) blk off (Sort.insertionSort lt d a b) := Any.insertionSort_func_cells Try.laysGg26 enc k hk lt g lb sf sb blk off a b d w eg hless hswap hH hblk hab hb hsz
open Go.RowKit Go.Lib Go.Sort in
/-- sort.pdqsort_func AT A RANGE OF AT MOST 12. (LAID: no walk: one application.) -/
theorem Try.pdqsort_func_small_cells {α : Type} [Inhabited α] (enc : α → List Value) (k : Nat) (hk : ∀ x, (enc x).length = k) (lt : α → α → Bool) (g : Nat) (lb : Array Value) (sf : Nat) (sb : Array Value) (blk off a b : Nat) (lim : Int) (d : Array α) (w : World) (eg : ∀ args w, (callFunc g args).run Try.prog w = .ok (.enter g args) w) (hless : LessReadsK Try.prog g lb enc k lt blk off d.size w) (hswap : SwapSwapsK Try.prog sf sb enc k blk off d.size) (hH : HoldsK enc k w blk off d) (hblk : blk < w.heap.size) (hab : a ≤ b) (hb : b ≤ d.size) (hsz : d.size < 4611686018427387904) (h12 : b - a ≤ 12) :
    Calls Try.prog 60 #[.agg #[.func (.func g) #[] lb, .func (.func sf) #[] sb], .int .i64 a, .int .i64 b, .int .i64 lim] w fun e w' =>
      e = .returned (.tuple #[]) ∧ ∃ n, w' = putRowK enc k (Sort.ahead ((w.alloc (.cells #[.func (.func g) #[] lb, .func (.func sf) #[] sb] 68)).alloc (.cells #[.func (.func g) #[] lb, .func (.func sf) #[] sb] 68)) n) blk off (Sort.insertionSort lt d a b) := Any.pdqsort_func_small_cells Try.laysGg14 enc k hk lt g lb sf sb blk off a b lim d w eg hless hswap hH hblk hab hb hsz h12
open Go.RowKit Go.Lib Go.Sort in
/-- sort.insertionSort_func, from a world to a 'sortWorld' of it. (LAID: no walk: one application.) -/
theorem Try.insertionSort_func_w {α : Type} [Inhabited α] (enc : α → Value) (lt : α → α → Bool) (g : Nat) (lb : Array Value) (sf : Nat) (sb : Array Value) (blk off a b : Nat) (d : Array α) (w : World) (eg : ∀ args w, (callFunc g args).run Try.prog w = .ok (.enter g args) w) (hless : LessReads Try.prog g lb enc lt blk off d.size w) (hswap : SwapSwaps Try.prog sf sb enc blk off d.size) (hH : Holds enc w blk off d) (hblk : blk < w.heap.size) (hab : a ≤ b) (hb : b ≤ d.size) (hsz : d.size < 4611686018427387904) :
    Calls Try.prog 78 #[.agg #[.func (.func g) #[] lb, .func (.func sf) #[] sb], .int .i64 a, .int .i64 b] w fun e w' => e = .returned (.tuple #[]) ∧ ∃ n os, w' = sortWorld enc w blk off n (Sort.insertionSort lt d a b) os := Any.insertionSort_func_w Try.laysGg26 enc lt g lb sf sb blk off a b d w eg hless hswap hH hblk hab hb hsz
def Try.laysGg30_ren : Go.Shelf.Ren := ⟨fun | 30 => 82 | n => n, fun | 44 => 68 | 3 => 3 | 0 => 0 | 4 => 4 | 37 => 61 | 26 => 44 | n => n, fun | n => n⟩
theorem Try.laysGg30 : Go.Proofs.LaysGg.n30 Try.prog Try.laysGg30_ren := {
  mixed := by kernel_rfl
  f30 := Try.func82.trans (congrArg some (by kernel_rfl))
  t0 := Try.underlying0
  a0 := Try.isAgg0
  z0 := Try.sizeOf0
  v0 := Try.zeroValue0
  i0 := by kernel_rfl
  t3 := Try.underlying3
  a3 := Try.isAgg3
  z3 := Try.sizeOf3
  v3 := Try.zeroValue3
  i3 := by kernel_rfl
  t4 := Try.underlying4
  a4 := Try.isAgg4
  z4 := Try.sizeOf4
  v4 := Try.zeroValue4
  i4 := by kernel_rfl
  t26 := Try.underlying44
  a26 := Try.isAgg44
  z26 := Try.sizeOf44
  v26 := Try.zeroValue44
  i26 := by kernel_rfl
  t37 := Try.underlying61
  a37 := Try.isAgg61
  z37 := Try.sizeOf61
  v37 := Try.zeroValue61
  i37 := by kernel_rfl
  t44 := Try.underlying68
  a44 := Try.isAgg68
  z44 := Try.sizeOf68
  v44 := Try.zeroValue68
  i44 := by kernel_rfl }
open Go.RowKit Go.Lib Go.Sort in
theorem Try.reverseRange_func_one {α : Type} [Inhabited α] (enc : α → Value) (lf : Fn) (la lb : Array Value) (sf : Nat) (sb : Array Value) (blk off a b : Nat) (d : Array α) (w : World) (hswap : SwapSwaps Try.prog sf sb enc blk off d.size) (hH : Holds enc w blk off d) (hblk : blk < w.heap.size) (hab : a ≤ b) (hb : b ≤ d.size) (hsz : d.size < 4611686018427387904) :
    Calls Try.prog 82 #[.agg #[.func lf la lb, .func (.func sf) #[] sb], .int .i64 a, .int .i64 b] w fun e w' => e = .returned (.tuple #[]) ∧ ∃ n, w' = putRow enc (Sort.ahead (w.alloc (.cells #[.func lf la lb, .func (.func sf) #[] sb] 68)) n) blk off (reverseRange d a b) := Any.reverseRange_func_one Try.laysGg30 enc lf la lb sf sb blk off a b d w hswap hH hblk hab hb hsz
open Go.RowKit Go.Lib Go.Sort in
/-- sort.reverseRange_func, from a world to a 'sortWorld' of it. (LAID: no walk: one application.) -/
theorem Try.reverseRange_func_w {α : Type} [Inhabited α] (enc : α → Value) (lf : Fn) (la lb : Array Value) (sf : Nat) (sb : Array Value) (blk off a b : Nat) (d : Array α) (w : World) (hswap : SwapSwaps Try.prog sf sb enc blk off d.size) (hH : Holds enc w blk off d) (hblk : blk < w.heap.size) (hab : a ≤ b) (hb : b ≤ d.size) (hsz : d.size < 4611686018427387904) :
    Calls Try.prog 82 #[.agg #[.func lf la lb, .func (.func sf) #[] sb], .int .i64 a, .int .i64 b] w fun e w' => e = .returned (.tuple #[]) ∧ ∃ n os, w' = sortWorld enc w blk off n (reverseRange d a b) os := Any.reverseRange_func_w Try.laysGg30 enc lf la lb sf sb blk off a b d w hswap hH hblk hab hb hsz
def Try.laysGg39_ren : Go.Shelf.Ren := ⟨fun | 39 => 121 | n => n, fun | 44 => 68 | 3 => 3 | 64 => 107 | 0 => 0 | 26 => 44 | 4 => 4 | 37 => 61 | n => n, fun | n => n⟩
theorem Try.laysGg39 : Go.Proofs.LaysGg.n39 Try.prog Try.laysGg39_ren := {
  mixed := by kernel_rfl
  f39 := Try.func121.trans (congrArg some (by kernel_rfl))
  t0 := Try.underlying0
  a0 := Try.isAgg0
  z0 := Try.sizeOf0
  v0 := Try.zeroValue0
  i0 := by kernel_rfl
  t3 := Try.underlying3
  a3 := Try.isAgg3
  z3 := Try.sizeOf3
  v3 := Try.zeroValue3
  i3 := by kernel_rfl
  t4 := Try.underlying4
  a4 := Try.isAgg4
  z4 := Try.sizeOf4
  v4 := Try.zeroValue4
  i4 := by kernel_rfl
  t26 := Try.underlying44
  a26 := Try.isAgg44
  z26 := Try.sizeOf44
  v26 := Try.zeroValue44
  i26 := by kernel_rfl
  t37 := Try.underlying61
  a37 := Try.isAgg61
  z37 := Try.sizeOf61
  v37 := Try.zeroValue61
  i37 := by kernel_rfl
  t44 := Try.underlying68
  a44 := Try.isAgg68
  z44 := Try.sizeOf68
  v44 := Try.zeroValue68
  i44 := by kernel_rfl
  t64 := Try.underlying107
  a64 := Try.isAgg107
  z64 := Try.sizeOf107
  v64 := Try.zeroValue107
  i64 := by kernel_rfl }
open Go.RowKit Go.Lib Go.Sort in
theorem Try.order2_func {α : Type} [Inhabited α] (enc : α → Value) (lt : α → α → Bool) (g : Nat) (lb : Array Value) (sfn : Fn) (sa sb : Array Value) (blk off : Nat) (w0 W : World) (d : Array α) (a b cb co s : Nat) (eg : ∀ args w, (callFunc g args).run Try.prog w = .ok (.enter g args) w) (hL : LessReads Try.prog g lb enc lt blk off d.size w0) (hW : SW enc w0 blk off d W) (ha : a < d.size) (hb : b < d.size) (hS : Holds (Value.int .i64) W cb co (one s)) (hcb : cb < W.heap.size) (hs : s < 4611686018427387904) :
    Calls Try.prog 121 #[.agg #[.func (.func g) #[] lb, .func sfn sa sb], .int .i64 a, .int .i64 b, .pointer (some ⟨cb, co, none⟩)] W fun e w' =>
      e = .returned (.tuple #[.int .i64 (order2 lt d a b s).1, .int .i64 (order2 lt d a b s).2.1]) ∧ ∃ n os, w' = sortWorld (Value.int .i64) W cb co n (one (order2 lt d a b s).2.2) os := Any.order2_func Try.laysGg39 enc lt g lb sfn sa sb blk off w0 W d a b cb co s eg hL hW ha hb hS hcb hs
def Try.laysGg38_ren : Go.Shelf.Ren := ⟨fun | 38 => 110 | 39 => 121 | n => n, fun | 44 => 68 | 3 => 3 | 64 => 107 | 0 => 0 | 67 => 117 | 26 => 44 | 4 => 4 | 37 => 61 | n => n, fun | n => n⟩
theorem Try.laysGg38 : Go.Proofs.LaysGg.n38 Try.prog Try.laysGg38_ren := {
  mixed := by kernel_rfl
  f38 := Try.func110.trans (congrArg some (by kernel_rfl))
  f39 := Try.func121.trans (congrArg some (by kernel_rfl))
  t0 := Try.underlying0
  a0 := Try.isAgg0
  z0 := Try.sizeOf0
  v0 := Try.zeroValue0
  i0 := by kernel_rfl
  t3 := Try.underlying3
  a3 := Try.isAgg3
  z3 := Try.sizeOf3
  v3 := Try.zeroValue3
  i3 := by kernel_rfl
  t4 := Try.underlying4
  a4 := Try.isAgg4
  z4 := Try.sizeOf4
  v4 := Try.zeroValue4
  i4 := by kernel_rfl
  t26 := Try.underlying44
  a26 := Try.isAgg44
  z26 := Try.sizeOf44
  v26 := Try.zeroValue44
  i26 := by kernel_rfl
  t37 := Try.underlying61
  a37 := Try.isAgg61
  z37 := Try.sizeOf61
  v37 := Try.zeroValue61
  i37 := by kernel_rfl
  t44 := Try.underlying68
  a44 := Try.isAgg68
  z44 := Try.sizeOf68
  v44 := Try.zeroValue68
  i44 := by kernel_rfl
  t64 := Try.underlying107
  a64 := Try.isAgg107
  z64 := Try.sizeOf107
  v64 := Try.zeroValue107
  i64 := by kernel_rfl
  t67 := Try.underlying117
  a67 := Try.isAgg117
  z67 := Try.sizeOf117
  v67 := Try.zeroValue117
  i67 := by kernel_rfl }
open Go.RowKit Go.Lib Go.Sort in
theorem Try.median_func {α : Type} [Inhabited α] (enc : α → Value) (lt : α → α → Bool) (g : Nat) (lb : Array Value) (sfn : Fn) (sa sb : Array Value) (blk off : Nat) (w0 W : World) (d : Array α) (a b c cb co s : Nat) (eg : ∀ args w, (callFunc g args).run Try.prog w = .ok (.enter g args) w) (hL : LessReads Try.prog g lb enc lt blk off d.size w0) (hW : SW enc w0 blk off d W) (ha : a < d.size) (hb : b < d.size) (hc : c < d.size) (hS : Holds (Value.int .i64) W cb co (one s)) (hcb0 : w0.heap.size ≤ cb) (hcb : cb < W.heap.size) (hs : s + 3 < 4611686018427387904) :
    Calls Try.prog 110 #[.agg #[.func (.func g) #[] lb, .func sfn sa sb], .int .i64 a, .int .i64 b, .int .i64 c, .pointer (some ⟨cb, co, none⟩)] W fun e w' =>
      e = .returned (.int .i64 (median lt d a b c s).1) ∧ ∃ n os, w' = sortWorld (Value.int .i64) W cb co n (one (median lt d a b c s).2) os := Any.median_func Try.laysGg38 enc lt g lb sfn sa sb blk off w0 W d a b c cb co s eg hL hW ha hb hc hS hcb0 hcb hs
def Try.laysGg37_ren : Go.Shelf.Ren := ⟨fun | 37 => 109 | 38 => 110 | 39 => 121 | n => n, fun | 44 => 68 | 3 => 3 | 64 => 107 | 0 => 0 | 67 => 117 | 26 => 44 | 4 => 4 | 37 => 61 | n => n, fun | n => n⟩
theorem Try.laysGg37 : Go.Proofs.LaysGg.n37 Try.prog Try.laysGg37_ren := {
  mixed := by kernel_rfl
  f37 := Try.func109.trans (congrArg some (by kernel_rfl))
  f38 := Try.func110.trans (congrArg some (by kernel_rfl))
  f39 := Try.func121.trans (congrArg some (by kernel_rfl))
  t0 := Try.underlying0
  a0 := Try.isAgg0
  z0 := Try.sizeOf0
  v0 := Try.zeroValue0
  i0 := by kernel_rfl
  t3 := Try.underlying3
  a3 := Try.isAgg3
  z3 := Try.sizeOf3
  v3 := Try.zeroValue3
  i3 := by kernel_rfl
  t4 := Try.underlying4
  a4 := Try.isAgg4
  z4 := Try.sizeOf4
  v4 := Try.zeroValue4
  i4 := by kernel_rfl
  t26 := Try.underlying44
  a26 := Try.isAgg44
  z26 := Try.sizeOf44
  v26 := Try.zeroValue44
  i26 := by kernel_rfl
  t37 := Try.underlying61
  a37 := Try.isAgg61
  z37 := Try.sizeOf61
  v37 := Try.zeroValue61
  i37 := by kernel_rfl
  t44 := Try.underlying68
  a44 := Try.isAgg68
  z44 := Try.sizeOf68
  v44 := Try.zeroValue68
  i44 := by kernel_rfl
  t64 := Try.underlying107
  a64 := Try.isAgg107
  z64 := Try.sizeOf107
  v64 := Try.zeroValue107
  i64 := by kernel_rfl
  t67 := Try.underlying117
  a67 := Try.isAgg117
  z67 := Try.sizeOf117
  v67 := Try.zeroValue117
  i67 := by kernel_rfl }
open Go.RowKit Go.Lib Go.Sort in
theorem Try.medianAdjacent_func {α : Type} [Inhabited α] (enc : α → Value) (lt : α → α → Bool) (g : Nat) (lb : Array Value) (sfn : Fn) (sa sb : Array Value) (blk off : Nat) (w0 W : World) (d : Array α) (a cb co s : Nat) (eg : ∀ args w, (callFunc g args).run Try.prog w = .ok (.enter g args) w) (hL : LessReads Try.prog g lb enc lt blk off d.size w0) (hW : SW enc w0 blk off d W) (ha1 : 1 ≤ a) (ha2 : a + 1 < d.size) (hsz : d.size < 4611686018427387904) (hS : Holds (Value.int .i64) W cb co (one s)) (hcb0 : w0.heap.size ≤ cb) (hcb : cb < W.heap.size) (hs : s + 3 < 4611686018427387904) :
    Calls Try.prog 109 #[.agg #[.func (.func g) #[] lb, .func sfn sa sb], .int .i64 a, .pointer (some ⟨cb, co, none⟩)] W fun e w' =>
      e = .returned (.int .i64 (medianAdjacent lt d a s).1) ∧ ∃ n os, w' = sortWorld (Value.int .i64) W cb co n (one (medianAdjacent lt d a s).2) os := Any.medianAdjacent_func Try.laysGg37 enc lt g lb sfn sa sb blk off w0 W d a cb co s eg hL hW ha1 ha2 hsz hS hcb0 hcb hs
def Try.laysGg29_ren : Go.Shelf.Ren := ⟨fun | 29 => 81 | 37 => 109 | 38 => 110 | 39 => 121 | n => n, fun | 44 => 68 | 3 => 3 | 53 => 82 | 0 => 0 | 4 => 4 | 64 => 107 | 67 => 117 | 26 => 44 | 37 => 61 | n => n, fun | n => n⟩
theorem Try.laysGg29 : Go.Proofs.LaysGg.n29 Try.prog Try.laysGg29_ren := {
  mixed := by kernel_rfl
  f29 := Try.func81.trans (congrArg some (by kernel_rfl))
  f37 := Try.func109.trans (congrArg some (by kernel_rfl))
  f38 := Try.func110.trans (congrArg some (by kernel_rfl))
  f39 := Try.func121.trans (congrArg some (by kernel_rfl))
  t0 := Try.underlying0
  a0 := Try.isAgg0
  z0 := Try.sizeOf0
  v0 := Try.zeroValue0
  i0 := by kernel_rfl
  t3 := Try.underlying3
  a3 := Try.isAgg3
  z3 := Try.sizeOf3
  v3 := Try.zeroValue3
  i3 := by kernel_rfl
  t4 := Try.underlying4
  a4 := Try.isAgg4
  z4 := Try.sizeOf4
  v4 := Try.zeroValue4
  i4 := by kernel_rfl
  t26 := Try.underlying44
  a26 := Try.isAgg44
  z26 := Try.sizeOf44
  v26 := Try.zeroValue44
  i26 := by kernel_rfl
  t37 := Try.underlying61
  a37 := Try.isAgg61
  z37 := Try.sizeOf61
  v37 := Try.zeroValue61
  i37 := by kernel_rfl
  t44 := Try.underlying68
  a44 := Try.isAgg68
  z44 := Try.sizeOf68
  v44 := Try.zeroValue68
  i44 := by kernel_rfl
  t53 := Try.underlying82
  a53 := Try.isAgg82
  z53 := Try.sizeOf82
  v53 := Try.zeroValue82
  i53 := by kernel_rfl
  t64 := Try.underlying107
  a64 := Try.isAgg107
  z64 := Try.sizeOf107
  v64 := Try.zeroValue107
  i64 := by kernel_rfl
  t67 := Try.underlying117
  a67 := Try.isAgg117
  z67 := Try.sizeOf117
  v67 := Try.zeroValue117
  i67 := by kernel_rfl }
open Go.RowKit Go.Lib Go.Sort in
/-- sort.choosePivot_func: THE LIBRARY's OWN TEXT COMPUTES 'Sort.choosePivot lt d a b'; the row is not turned; W is grown. (After Derived/Sort/Walk11.lean's 'So.choosePivot_int', row for row.) (LAID: no walk: one application.) -/
theorem Try.choosePivot_func {α : Type} [Inhabited α] (enc : α → Value) (lt : α → α → Bool) (g : Nat) (lb : Array Value) (sfn : Fn) (sa sb : Array Value) (blk off a b : Nat) (W : World) (d : Array α) (eg : ∀ args w, (callFunc g args).run Try.prog w = .ok (.enter g args) w) (hless : LessReads Try.prog g lb enc lt blk off d.size W) (hH : Holds enc W blk off d) (hab : a < b) (hb : b ≤ d.size) (hsz : d.size < 4611686018427387904) :
    Calls Try.prog 81 #[.agg #[.func (.func g) #[] lb, .func sfn sa sb], .int .i64 a, .int .i64 b] W fun e w' =>
      e = .returned (.tuple #[.int .i64 (choosePivot lt d a b).1, .int .i64 (hintCode (choosePivot lt d a b).2)]) ∧ ∃ n os, w' = grow (Sort.ahead W n) os := Any.choosePivot_func Try.laysGg29 enc lt g lb sfn sa sb blk off a b W d eg hless hH hab hb hsz
def Try.laysGg32_ren : Go.Shelf.Ren := ⟨fun | 32 => 84 | n => n, fun | 44 => 68 | 3 => 3 | 0 => 0 | 37 => 61 | 4 => 4 | 26 => 44 | n => n, fun | n => n⟩
theorem Try.laysGg32 : Go.Proofs.LaysGg.n32 Try.prog Try.laysGg32_ren := {
  mixed := by kernel_rfl
  f32 := Try.func84.trans (congrArg some (by kernel_rfl))
  t0 := Try.underlying0
  a0 := Try.isAgg0
  z0 := Try.sizeOf0
  v0 := Try.zeroValue0
  i0 := by kernel_rfl
  t3 := Try.underlying3
  a3 := Try.isAgg3
  z3 := Try.sizeOf3
  v3 := Try.zeroValue3
  i3 := by kernel_rfl
  t4 := Try.underlying4
  a4 := Try.isAgg4
  z4 := Try.sizeOf4
  v4 := Try.zeroValue4
  i4 := by kernel_rfl
  t26 := Try.underlying44
  a26 := Try.isAgg44
  z26 := Try.sizeOf44
  v26 := Try.zeroValue44
  i26 := by kernel_rfl
  t37 := Try.underlying61
  a37 := Try.isAgg61
  z37 := Try.sizeOf61
  v37 := Try.zeroValue61
  i37 := by kernel_rfl
  t44 := Try.underlying68
  a44 := Try.isAgg68
  z44 := Try.sizeOf68
  v44 := Try.zeroValue68
  i44 := by kernel_rfl }
open Go.RowKit Go.Lib Go.Sort in
theorem Try.partitionEqual_func_one {α : Type} [Inhabited α] (enc : α → Value) (lt : α → α → Bool) (g : Nat) (lb : Array Value) (sf : Nat) (sb : Array Value) (blk off a b pivot : Nat) (d : Array α) (W : World) (eg : ∀ args w, (callFunc g args).run Try.prog w = .ok (.enter g args) w) (hless : LessReads Try.prog g lb enc lt blk off d.size W) (hswap : SwapSwaps Try.prog sf sb enc blk off d.size) (hH : Holds enc W blk off d) (hblk : blk < W.heap.size) (hap : a ≤ pivot) (hpb : pivot < b) (hb : b ≤ d.size) (hsz : d.size < 4611686018427387904) :
    Calls Try.prog 84 #[.agg #[.func (.func g) #[] lb, .func (.func sf) #[] sb], .int .i64 a, .int .i64 b, .int .i64 pivot] W fun e w' =>
      e = .returned (.int .i64 (Sort.partitionEqual lt d a b pivot).1) ∧ ∃ n, w' = (putRow enc (W.alloc (.cells #[.func (.func g) #[] lb, .func (.func sf) #[] sb] 68)) blk off (Sort.partitionEqual lt d a b pivot).2).drewN n := Any.partitionEqual_func_one Try.laysGg32 enc lt g lb sf sb blk off a b pivot d W eg hless hswap hH hblk hap hpb hb hsz
def Try.laysGg33_ren : Go.Shelf.Ren := ⟨fun | 33 => 85 | n => n, fun | 44 => 68 | 3 => 3 | 4 => 4 | 0 => 0 | 37 => 61 | 26 => 44 | n => n, fun | n => n⟩
theorem Try.laysGg33 : Go.Proofs.LaysGg.n33 Try.prog Try.laysGg33_ren := {
  mixed := by kernel_rfl
  f33 := Try.func85.trans (congrArg some (by kernel_rfl))
  t0 := Try.underlying0
  a0 := Try.isAgg0
  z0 := Try.sizeOf0
  v0 := Try.zeroValue0
  i0 := by kernel_rfl
  t3 := Try.underlying3
  a3 := Try.isAgg3
  z3 := Try.sizeOf3
  v3 := Try.zeroValue3
  i3 := by kernel_rfl
  t4 := Try.underlying4
  a4 := Try.isAgg4
  z4 := Try.sizeOf4
  v4 := Try.zeroValue4
  i4 := by kernel_rfl
  t26 := Try.underlying44
  a26 := Try.isAgg44
  z26 := Try.sizeOf44
  v26 := Try.zeroValue44
  i26 := by kernel_rfl
  t37 := Try.underlying61
  a37 := Try.isAgg61
  z37 := Try.sizeOf61
  v37 := Try.zeroValue61
  i37 := by kernel_rfl
  t44 := Try.underlying68
  a44 := Try.isAgg68
  z44 := Try.sizeOf68
  v44 := Try.zeroValue68
  i44 := by kernel_rfl }
open Go.RowKit Go.Lib Go.Sort in
theorem Try.partition_func_one {α : Type} [Inhabited α] (enc : α → Value) (lt : α → α → Bool) (g : Nat) (lb : Array Value) (sf : Nat) (sb : Array Value) (blk off a b pivot : Nat) (d : Array α) (W : World) (eg : ∀ args w, (callFunc g args).run Try.prog w = .ok (.enter g args) w) (hless : LessReads Try.prog g lb enc lt blk off d.size W) (hswap : SwapSwaps Try.prog sf sb enc blk off d.size) (hH : Holds enc W blk off d) (hblk : blk < W.heap.size) (hap : a ≤ pivot) (hpb : pivot < b) (hb : b ≤ d.size) (hsz : d.size < 4611686018427387904) :
    Calls Try.prog 85 #[.agg #[.func (.func g) #[] lb, .func (.func sf) #[] sb], .int .i64 a, .int .i64 b, .int .i64 pivot] W fun e w' =>
      e = .returned (.tuple #[.int .i64 (Sort.partition lt d a b pivot).1, .bool (Sort.partition lt d a b pivot).2.1]) ∧ ∃ n, w' = (putRow enc (W.alloc (.cells #[.func (.func g) #[] lb, .func (.func sf) #[] sb] 68)) blk off (Sort.partition lt d a b pivot).2.2).drewN n := Any.partition_func_one Try.laysGg33 enc lt g lb sf sb blk off a b pivot d W eg hless hswap hH hblk hap hpb hb hsz
open Go.RowKit Go.Lib Go.Sort in
/-- sort.partitionEqual_func, from a world to a 'sortWorld' of it. (LAID: no walk: one application.) -/
theorem Try.partitionEqual_func_w {α : Type} [Inhabited α] (enc : α → Value) (lt : α → α → Bool) (g : Nat) (lb : Array Value) (sf : Nat) (sb : Array Value) (blk off a b pivot : Nat) (d : Array α) (W : World) (eg : ∀ args w, (callFunc g args).run Try.prog w = .ok (.enter g args) w) (hless : LessReads Try.prog g lb enc lt blk off d.size W) (hswap : SwapSwaps Try.prog sf sb enc blk off d.size) (hH : Holds enc W blk off d) (hblk : blk < W.heap.size) (hap : a ≤ pivot) (hpb : pivot < b) (hb : b ≤ d.size) (hsz : d.size < 4611686018427387904) :
    Calls Try.prog 84 #[.agg #[.func (.func g) #[] lb, .func (.func sf) #[] sb], .int .i64 a, .int .i64 b, .int .i64 pivot] W fun e w' => e = .returned (.int .i64 (Sort.partitionEqual lt d a b pivot).1) ∧ ∃ n os, w' = sortWorld enc W blk off n (Sort.partitionEqual lt d a b pivot).2 os := Any.partitionEqual_func_w Try.laysGg32 enc lt g lb sf sb blk off a b pivot d W eg hless hswap hH hblk hap hpb hb hsz
open Go.RowKit Go.Lib Go.Sort in
/-- sort.partition_func, from a world to a 'sortWorld' of it. (LAID: no walk: one application.) -/
theorem Try.partition_func_w {α : Type} [Inhabited α] (enc : α → Value) (lt : α → α → Bool) (g : Nat) (lb : Array Value) (sf : Nat) (sb : Array Value) (blk off a b pivot : Nat) (d : Array α) (W : World) (eg : ∀ args w, (callFunc g args).run Try.prog w = .ok (.enter g args) w) (hless : LessReads Try.prog g lb enc lt blk off d.size W) (hswap : SwapSwaps Try.prog sf sb enc blk off d.size) (hH : Holds enc W blk off d) (hblk : blk < W.heap.size) (hap : a ≤ pivot) (hpb : pivot < b) (hb : b ≤ d.size) (hsz : d.size < 4611686018427387904) :
    Calls Try.prog 85 #[.agg #[.func (.func g) #[] lb, .func (.func sf) #[] sb], .int .i64 a, .int .i64 b, .int .i64 pivot] W fun e w' => e = .returned (.tuple #[.int .i64 (Sort.partition lt d a b pivot).1, .bool (Sort.partition lt d a b pivot).2.1]) ∧ ∃ n os, w' = sortWorld enc W blk off n (Sort.partition lt d a b pivot).2.2 os := Any.partition_func_w Try.laysGg33 enc lt g lb sf sb blk off a b pivot d W eg hless hswap hH hblk hap hpb hb hsz
open Go.RowKit Go.Lib Go.Sort in
theorem Try.pdqsort_func_all {α : Type} [Inhabited α] (enc : α → Value) (lt : α → α → Bool) (hO : SWO lt) (g : Nat) (lb : Array Value) (sf : Nat) (sb : Array Value) (eg : ∀ args w, (callFunc g args).run Try.prog w = .ok (.enter g args) w) :
    ∀ (N blk off a b limit : Nat) (d : Array α) (w : World), b - a < N → LessReads Try.prog g lb enc lt blk off d.size w → SwapSwaps Try.prog sf sb enc blk off d.size → Holds enc w blk off d → blk < w.heap.size → a ≤ b → b ≤ d.size → d.size < 4611686018427387904 → limit < 4611686018427387904 → Below lt a b d →
    Calls Try.prog 60 #[.agg #[.func (.func g) #[] lb, .func (.func sf) #[] sb], .int .i64 a, .int .i64 b, .int .i64 limit] w fun e w' => e = .returned (.tuple #[]) ∧ At enc w blk off (pdq lt d a b limit true true) w' := Any.pdqsort_func_all Try.laysGg14 enc lt hO g lb sf sb eg
def Try.laysNm237_ren : Go.Shelf.Ren := ⟨fun | 37 => 120 | n => n, fun | 3 => 3 | 4 => 4 | n => n, fun | n => n⟩
theorem Try.laysNm237 : Go.Proofs.Lays2.n37 Try.prog Try.laysNm237_ren := {
  mixed := by kernel_rfl
  f37 := Try.func120.trans (congrArg some (by kernel_rfl))
  t3 := Try.underlying3
  a3 := Try.isAgg3
  z3 := Try.sizeOf3
  v3 := Try.zeroValue3
  t4 := Try.underlying4
  a4 := Try.isAgg4
  z4 := Try.sizeOf4
  v4 := Try.zeroValue4 }
open Go.RowKit Go.Lib in
/-- cmp.isNaN[int]: 'x != x': false. (LAID: no walk: one application.) -/
theorem Try.cmp_isNaN_int2 (x : Int) (w : World) :
    Calls Try.prog 120 #[.int .i64 x] w fun e w' => e = .returned (.bool false) ∧ w' = w := Any.cmp_isNaN_int2 Try.laysNm237 x w
def Try.laysNm231_ren : Go.Shelf.Ren := ⟨fun | 31 => 101 | 37 => 120 | n => n, fun | 3 => 3 | 4 => 4 | n => n, fun | n => n⟩
theorem Try.laysNm231 : Go.Proofs.Lays2.n31 Try.prog Try.laysNm231_ren := {
  mixed := by kernel_rfl
  f31 := Try.func101.trans (congrArg some (by kernel_rfl))
  f37 := Try.func120.trans (congrArg some (by kernel_rfl))
  t3 := Try.underlying3
  a3 := Try.isAgg3
  z3 := Try.sizeOf3
  v3 := Try.zeroValue3
  t4 := Try.underlying4
  a4 := Try.isAgg4
  z4 := Try.sizeOf4
  v4 := Try.zeroValue4 }
open Go.RowKit Go.Lib in
/-- cmp.Less[int]: "Less reports whether x is less than y.": 'x < y'; the world is as it was. (LAID: no walk: one application.) -/
theorem Try.cmp_Less_int2 (x y : Int) (w : World) :
    Calls Try.prog 101 #[.int .i64 x, .int .i64 y] w fun e w' => e = .returned (.bool (decide (x < y))) ∧ w' = w := Any.cmp_Less_int2 Try.laysNm231 x y w
open Go.RowKit Go.Sort in
/-- .. and plain. (LAID: no walk: one application.) -/
theorem Try.slices_Sort_string_none (p : Option Addr) (cap : Nat) (w : World) :
    Calls Try.prog 51 #[.slice p 0 cap] w fun e w' => e = .returned (.tuple #[]) ∧ w' = w := Any.slices_Sort_string_none Try.lays190 p cap w
open Go.RowKit Go.Sort in
/-- .. and plain. (LAID: no walk: one application.) -/
theorem Try.slices_Sort_int_none (p : Option Addr) (cap : Nat) (w : World) :
    Calls Try.prog 52 #[.slice p 0 cap] w fun e w' => e = .returned (.tuple #[]) ∧ w' = w := Any.slices_Sort_int_none Try.lays189 p cap w
open Go.RowKit Go.Sort in
/-- .. and plain. (LAID: no walk: one application.) -/
theorem Try.sort_Strings_none (p : Option Addr) (cap : Nat) (w : World) :
    Calls Try.prog 44 #[.slice p 0 cap] w fun e w' => e = .returned (.tuple #[]) ∧ w' = w := Any.sort_Strings_none Try.lays192 p cap w
open Go.RowKit Go.Sort in
/-- .. and plain. (LAID: no walk: one application.) -/
theorem Try.sort_Ints_none (p : Option Addr) (cap : Nat) (w : World) :
    Calls Try.prog 45 #[.slice p 0 cap] w fun e w' => e = .returned (.tuple #[]) ∧ w' = w := Any.sort_Ints_none Try.lays191 p cap w
def Try.laysGg36_ren : Go.Shelf.Ren := ⟨fun | 36 => 108 | n => n, fun | 66 => 116 | 51 => 80 | 0 => 0 | 60 => 103 | 41 => 65 | n => n, fun | n => n⟩
theorem Try.laysGg36 : Go.Proofs.LaysGg.n36 Try.prog Try.laysGg36_ren := {
  mixed := by kernel_rfl
  f36 := Try.func108.trans (congrArg some (by kernel_rfl))
  t0 := Try.underlying0
  a0 := Try.isAgg0
  z0 := Try.sizeOf0
  v0 := Try.zeroValue0
  i0 := by kernel_rfl
  t41 := Try.underlying65
  a41 := Try.isAgg65
  z41 := Try.sizeOf65
  v41 := Try.zeroValue65
  i41 := by kernel_rfl
  t51 := Try.underlying80
  a51 := Try.isAgg80
  z51 := Try.sizeOf80
  v51 := Try.zeroValue80
  i51 := by kernel_rfl
  t60 := Try.underlying103
  a60 := Try.isAgg103
  z60 := Try.sizeOf103
  v60 := Try.zeroValue103
  i60 := by kernel_rfl
  t66 := Try.underlying116
  a66 := Try.isAgg116
  z66 := Try.sizeOf116
  v66 := Try.zeroValue116
  i66 := by kernel_rfl }
open Go.RowKit Go.Lib Go.Sort in
/-- '*r ^= *r << 13; *r ^= *r >> 7; *r ^= *r << 17; return uint64(*r)': the cell holds 'xorNextN X' and that is handed back; three draws; nothing else turns. (LAID: no walk: one application.) -/
theorem Try.xorshift_Next (rb ro X : Nat) (hX : X < 18446744073709551616) (w : World) (hc : w.cell? ⟨rb, ro, none⟩ = some (.int .u64 X)) (hf : w.frozen? ⟨rb, ro, none⟩ = false) :
    Calls Try.prog 108 #[.pointer (some ⟨rb, ro, none⟩)] w fun e w' => e = .returned (.int .u64 (xorNextN X : Nat)) ∧ w' = (w.setCell ⟨rb, ro, none⟩ (.int .u64 (xorNextN X : Nat))).drewN 3 := Any.xorshift_Next Try.laysGg36 rb ro X hX w hc hf
def Try.laysGg35_ren : Go.Shelf.Ren := ⟨fun | 35 => 107 | 13 => 59 | 24 => 76 | 25 => 77 | n => n, fun | 3 => 3 | 41 => 65 | 49 => 78 | 51 => 80 | 4 => 4 | 5 => 5 | 9 => 9 | n => n, fun | n => n⟩
theorem Try.laysGg35 : Go.Proofs.LaysGg.n35 Try.prog Try.laysGg35_ren := {
  mixed := by kernel_rfl
  f13 := Try.func59.trans (congrArg some (by kernel_rfl))
  f24 := Try.func76.trans (congrArg some (by kernel_rfl))
  f25 := Try.func77.trans (congrArg some (by kernel_rfl))
  f35 := Try.func107.trans (congrArg some (by kernel_rfl))
  t3 := Try.underlying3
  a3 := Try.isAgg3
  z3 := Try.sizeOf3
  v3 := Try.zeroValue3
  i3 := by kernel_rfl
  t4 := Try.underlying4
  a4 := Try.isAgg4
  z4 := Try.sizeOf4
  v4 := Try.zeroValue4
  i4 := by kernel_rfl
  t5 := Try.underlying5
  a5 := Try.isAgg5
  z5 := Try.sizeOf5
  v5 := Try.zeroValue5
  i5 := by kernel_rfl
  t9 := Try.underlying9
  a9 := Try.isAgg9
  z9 := Try.sizeOf9
  v9 := Try.zeroValue9
  i9 := by kernel_rfl
  t41 := Try.underlying65
  a41 := Try.isAgg65
  z41 := Try.sizeOf65
  v41 := Try.zeroValue65
  i41 := by kernel_rfl
  t49 := Try.underlying78
  a49 := Try.isAgg78
  z49 := Try.sizeOf78
  v49 := Try.zeroValue78
  i49 := by kernel_rfl
  t51 := Try.underlying80
  a51 := Try.isAgg80
  z51 := Try.sizeOf80
  v51 := Try.zeroValue80
  i51 := by kernel_rfl }
open Go.RowKit Go.Lib Go.Sort in
/-- 'return 1 << bits.Len(uint(length))'. (LAID: no walk: one application.) -/
theorem Try.nextPowerOfTwo (n : Nat) (hn : n < 4611686018427387904) (w : World) :
    Calls Try.prog 107 #[.int .i64 n] w fun e w' => e = .returned (.int .u64 ((1 <<< bitsLen n : Nat) : Int)) ∧ w' = w := Any.nextPowerOfTwo Try.laysGg35 n hn w
def Try.laysGg34_ren : Go.Shelf.Ren := ⟨fun | 34 => 106 | n => n, fun | 44 => 68 | 3 => 3 | 0 => 0 | 4 => 4 | 26 => 44 | 37 => 61 | n => n, fun | n => n⟩
theorem Try.laysGg34 : Go.Proofs.LaysGg.n34 Try.prog Try.laysGg34_ren := {
  mixed := by kernel_rfl
  f34 := Try.func106.trans (congrArg some (by kernel_rfl))
  t0 := Try.underlying0
  a0 := Try.isAgg0
  z0 := Try.sizeOf0
  v0 := Try.zeroValue0
  i0 := by kernel_rfl
  t3 := Try.underlying3
  a3 := Try.isAgg3
  z3 := Try.sizeOf3
  v3 := Try.zeroValue3
  i3 := by kernel_rfl
  t4 := Try.underlying4
  a4 := Try.isAgg4
  z4 := Try.sizeOf4
  v4 := Try.zeroValue4
  i4 := by kernel_rfl
  t26 := Try.underlying44
  a26 := Try.isAgg44
  z26 := Try.sizeOf44
  v26 := Try.zeroValue44
  i26 := by kernel_rfl
  t37 := Try.underlying61
  a37 := Try.isAgg61
  z37 := Try.sizeOf61
  v37 := Try.zeroValue61
  i37 := by kernel_rfl
  t44 := Try.underlying68
  a44 := Try.isAgg68
  z44 := Try.sizeOf68
  v44 := Try.zeroValue68
  i44 := by kernel_rfl }
open Go.RowKit Go.Lib Go.Sort in
theorem Try.siftDown_func_one {α : Type} [Inhabited α] (enc : α → Value) (lt : α → α → Bool) (g : Nat) (lb : Array Value) (sf : Nat) (sb : Array Value) (blk off lo hi first : Nat) (d : Array α) (w : World) (eg : ∀ args w, (callFunc g args).run Try.prog w = .ok (.enter g args) w) (hless : LessReads Try.prog g lb enc lt blk off d.size w) (hswap : SwapSwaps Try.prog sf sb enc blk off d.size) (hH : Holds enc w blk off d) (hblk : blk < w.heap.size) (hlo : lo ≤ hi) (hb : first + hi ≤ d.size) (hsz : d.size < 4611686018427387904) :
    Calls Try.prog 106 #[.agg #[.func (.func g) #[] lb, .func (.func sf) #[] sb], .int .i64 lo, .int .i64 hi, .int .i64 first] w fun e w' =>
      e = .returned (.tuple #[]) ∧ ∃ n, w' = putRow enc (Sort.ahead (w.alloc (.cells #[.func (.func g) #[] lb, .func (.func sf) #[] sb] 68)) n) blk off (siftDown lt hi first lo d) := Any.siftDown_func_one Try.laysGg34 enc lt g lb sf sb blk off lo hi first d w eg hless hswap hH hblk hlo hb hsz
open Go.RowKit Go.Lib Go.Sort in
/-- sort.siftDown_func, from a world to a 'sortWorld' of it. (LAID: no walk: one application.) -/
theorem Try.siftDown_func_w {α : Type} [Inhabited α] (enc : α → Value) (lt : α → α → Bool) (g : Nat) (lb : Array Value) (sf : Nat) (sb : Array Value) (blk off lo hi first : Nat) (d : Array α) (w : World) (eg : ∀ args w, (callFunc g args).run Try.prog w = .ok (.enter g args) w) (hless : LessReads Try.prog g lb enc lt blk off d.size w) (hswap : SwapSwaps Try.prog sf sb enc blk off d.size) (hH : Holds enc w blk off d) (hblk : blk < w.heap.size) (hlo : lo ≤ hi) (hb : first + hi ≤ d.size) (hsz : d.size < 4611686018427387904) :
    Calls Try.prog 106 #[.agg #[.func (.func g) #[] lb, .func (.func sf) #[] sb], .int .i64 lo, .int .i64 hi, .int .i64 first] w fun e w' => e = .returned (.tuple #[]) ∧ ∃ n os, w' = sortWorld enc w blk off n (siftDown lt hi first lo d) os := Any.siftDown_func_w Try.laysGg34 enc lt g lb sf sb blk off lo hi first d w eg hless hswap hH hblk hlo hb hsz
def Try.laysGg27_ren : Go.Shelf.Ren := ⟨fun | 27 => 79 | 34 => 106 | n => n, fun | 44 => 68 | 3 => 3 | 0 => 0 | 4 => 4 | 37 => 61 | 26 => 44 | n => n, fun | n => n⟩
theorem Try.laysGg27 : Go.Proofs.LaysGg.n27 Try.prog Try.laysGg27_ren := {
  mixed := by kernel_rfl
  f27 := Try.func79.trans (congrArg some (by kernel_rfl))
  f34 := Try.func106.trans (congrArg some (by kernel_rfl))
  t0 := Try.underlying0
  a0 := Try.isAgg0
  z0 := Try.sizeOf0
  v0 := Try.zeroValue0
  i0 := by kernel_rfl
  t3 := Try.underlying3
  a3 := Try.isAgg3
  z3 := Try.sizeOf3
  v3 := Try.zeroValue3
  i3 := by kernel_rfl
  t4 := Try.underlying4
  a4 := Try.isAgg4
  z4 := Try.sizeOf4
  v4 := Try.zeroValue4
  i4 := by kernel_rfl
  t26 := Try.underlying44
  a26 := Try.isAgg44
  z26 := Try.sizeOf44
  v26 := Try.zeroValue44
  i26 := by kernel_rfl
  t37 := Try.underlying61
  a37 := Try.isAgg61
  z37 := Try.sizeOf61
  v37 := Try.zeroValue61
  i37 := by kernel_rfl
  t44 := Try.underlying68
  a44 := Try.isAgg68
  z44 := Try.sizeOf68
  v44 := Try.zeroValue68
  i44 := by kernel_rfl }
open Go.RowKit Go.Lib Go.Sort in
theorem Try.heapSort_func_w {α : Type} [Inhabited α] (enc : α → Value) (lt : α → α → Bool) (g : Nat) (lb : Array Value) (sf : Nat) (sb : Array Value) (blk off a b : Nat) (d : Array α) (w : World) (eg : ∀ args w, (callFunc g args).run Try.prog w = .ok (.enter g args) w) (hless : LessReads Try.prog g lb enc lt blk off d.size w) (hswap : SwapSwaps Try.prog sf sb enc blk off d.size) (hH : Holds enc w blk off d) (hblk : blk < w.heap.size) (hab : a ≤ b) (hb : b ≤ d.size) (hsz : d.size < 4611686018427387904) :
    Calls Try.prog 79 #[.agg #[.func (.func g) #[] lb, .func (.func sf) #[] sb], .int .i64 a, .int .i64 b] w fun e w' => e = .returned (.tuple #[]) ∧ ∃ n os, w' = sortWorld enc w blk off n (heapSort lt d a b) os := Any.heapSort_func_w Try.laysGg27 enc lt g lb sf sb blk off a b d w eg hless hswap hH hblk hab hb hsz
def Try.laysGg31_ren : Go.Shelf.Ren := ⟨fun | 31 => 83 | n => n, fun | 44 => 68 | 3 => 3 | 4 => 4 | 0 => 0 | 26 => 44 | 37 => 61 | n => n, fun | n => n⟩
theorem Try.laysGg31 : Go.Proofs.LaysGg.n31 Try.prog Try.laysGg31_ren := {
  mixed := by kernel_rfl
  f31 := Try.func83.trans (congrArg some (by kernel_rfl))
  t0 := Try.underlying0
  a0 := Try.isAgg0
  z0 := Try.sizeOf0
  v0 := Try.zeroValue0
  i0 := by kernel_rfl
  t3 := Try.underlying3
  a3 := Try.isAgg3
  z3 := Try.sizeOf3
  v3 := Try.zeroValue3
  i3 := by kernel_rfl
  t4 := Try.underlying4
  a4 := Try.isAgg4
  z4 := Try.sizeOf4
  v4 := Try.zeroValue4
  i4 := by kernel_rfl
  t26 := Try.underlying44
  a26 := Try.isAgg44
  z26 := Try.sizeOf44
  v26 := Try.zeroValue44
  i26 := by kernel_rfl
  t37 := Try.underlying61
  a37 := Try.isAgg61
  z37 := Try.sizeOf61
  v37 := Try.zeroValue61
  i37 := by kernel_rfl
  t44 := Try.underlying68
  a44 := Try.isAgg68
  z44 := Try.sizeOf68
  v44 := Try.zeroValue68
  i44 := by kernel_rfl }
open Go.RowKit Go.Lib Go.Sort in
theorem Try.partialInsertionSort_func_one {α : Type} [Inhabited α] (enc : α → Value) (lt : α → α → Bool) (g : Nat) (lb : Array Value) (sf : Nat) (sb : Array Value) (blk off a b : Nat) (d : Array α) (w : World) (eg : ∀ args w, (callFunc g args).run Try.prog w = .ok (.enter g args) w) (hless : LessReads Try.prog g lb enc lt blk off d.size w) (hswap : SwapSwaps Try.prog sf sb enc blk off d.size) (hH : Holds enc w blk off d) (hblk : blk < w.heap.size) (hab : a < b) (hb : b ≤ d.size) (hsz : d.size < 4611686018427387904) :
    Calls Try.prog 83 #[.agg #[.func (.func g) #[] lb, .func (.func sf) #[] sb], .int .i64 a, .int .i64 b] w fun e w' =>
      e = .returned (.bool (Sort.partialInsertionSort lt d a b).2) ∧ ∃ n, w' = putRow enc (Sort.ahead (w.alloc (.cells #[.func (.func g) #[] lb, .func (.func sf) #[] sb] 68)) n) blk off (Sort.partialInsertionSort lt d a b).1 := Any.partialInsertionSort_func_one Try.laysGg31 enc lt g lb sf sb blk off a b d w eg hless hswap hH hblk hab hb hsz
open Go.RowKit Go.Lib Go.Sort in
/-- sort.partialInsertionSort_func, from a world to a 'sortWorld' of it. (LAID: no walk: one application.) -/
theorem Try.partialInsertionSort_func_w {α : Type} [Inhabited α] (enc : α → Value) (lt : α → α → Bool) (g : Nat) (lb : Array Value) (sf : Nat) (sb : Array Value) (blk off a b : Nat) (d : Array α) (w : World) (eg : ∀ args w, (callFunc g args).run Try.prog w = .ok (.enter g args) w) (hless : LessReads Try.prog g lb enc lt blk off d.size w) (hswap : SwapSwaps Try.prog sf sb enc blk off d.size) (hH : Holds enc w blk off d) (hblk : blk < w.heap.size) (hab : a < b) (hb : b ≤ d.size) (hsz : d.size < 4611686018427387904) :
    Calls Try.prog 83 #[.agg #[.func (.func g) #[] lb, .func (.func sf) #[] sb], .int .i64 a, .int .i64 b] w fun e w' => e = .returned (.bool (Sort.partialInsertionSort lt d a b).2) ∧ ∃ n os, w' = sortWorld enc w blk off n (Sort.partialInsertionSort lt d a b).1 os := Any.partialInsertionSort_func_w Try.laysGg31 enc lt g lb sf sb blk off a b d w eg hless hswap hH hblk hab hb hsz
end Go.Proofs
