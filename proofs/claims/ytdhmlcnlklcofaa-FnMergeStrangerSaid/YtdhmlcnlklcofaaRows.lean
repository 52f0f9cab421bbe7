/-
  No cell of these rows narrows 'for every input' (looked for: loops, veiled, ifaces, maps, wideKeys, modest, calm, conditions, laid).
  DERIVED. THE GIVEN ROWS OF THIS SEAT. 11 by the template 'for every input the law returns true; each argument reads behind the call as it read before'; 0 by the template 'total and deterministic' (their statements: YtdhmlcnlklcofaaTotals.lean).
  GIVEN WITH THE SEED: the statements are not yours to turn. If you find one false, say at which input.
  Laid BY PROGRAM, IN A SANDBOX (cutbox-rows.mjs): the forced cells as the released guide's own fill.sh prints them over the translation 58ea40ba2513ee46… (all of the seat's roots in one cut). By AI agents, Wed Nov 11 2026. No macro, syntax, notation, axiom, sorry.
-/
import Derived.Test.YtdhmlcnlklcofaaChecked
import GoSem.Claim
import GoSem.ClaimJoined
import GoSem.ClaimMapViews
import Derived.JoinedTies
import Derived.KernelRfl
namespace Go.Proofs.Ytdhmlcnlklcofaa
/- THE CELL 'sum', in the pinned program and in every row, IS THE sha256 OF THE DUMP (.gsa) THAT YtdhmlcnlklcofaaProg.lean LOADS. Nothing in Lean hashes anything: it is a label: what it is worth is what the hold of that sum in a sandbox is worth. -/
noncomputable def Try.pinned : Pinned := { name := "ytdhmlcnlklcofaa", sum := "58ea40ba2513ee46cc73a3dc46cfe5c49705df50eeb537260ad07a12ade783d3", checked := Try.checked }
namespace Rows
def none {H : Type} : Left H := { results := [], args := [] }

/-- 'laws.FnCache': WHATEVER THE INPUT: true; the input reads as it did. -/
def fnCacheSpec : ChangeSpec := { name := "fnCache", fn := fun _ => fun
  | [d1, d2] => { results := [.lit (.bool true)], args := [d1, d2] }
  | _ => none }
def fnCacheRow : OpenClaim := { program := "ytdhmlcnlklcofaa", sum := "58ea40ba2513ee46cc73a3dc46cfe5c49705df50eeb537260ad07a12ade783d3", func := "pub-gatewarden/laws.FnCache", spec := "fnCache", apart := false }
def FnCacheSaid : Prop := fnCacheRow.holds Try.pinned (OpenSpec.ofChange fnCacheSpec)

/-- ITS FALSE NEIGHBOUR: 'it returns false'. Refute it at one input. -/
def fnCacheWrong : ChangeSpec := { name := "fnCache", fn := fun _ => fun
  | [d1, d2] => { results := [.lit (.bool false)], args := [d1, d2] }
  | _ => none }
def FnCacheWrongFalsely : Prop := fnCacheRow.holds Try.pinned (OpenSpec.ofChange fnCacheWrong)

/-- 'laws.FnCacheRoom': WHATEVER THE INPUT: true; the input reads as it did. -/
def fnCacheRoomSpec : ChangeSpec := { name := "fnCacheRoom", fn := fun _ => fun
  | [d1, d2, d3] => { results := [.lit (.bool true)], args := [d1, d2, d3] }
  | _ => none }
def fnCacheRoomRow : OpenClaim := { program := "ytdhmlcnlklcofaa", sum := "58ea40ba2513ee46cc73a3dc46cfe5c49705df50eeb537260ad07a12ade783d3", func := "pub-gatewarden/laws.FnCacheRoom", spec := "fnCacheRoom", apart := false }
def FnCacheRoomSaid : Prop := fnCacheRoomRow.holds Try.pinned (OpenSpec.ofChange fnCacheRoomSpec)

/-- ITS FALSE NEIGHBOUR: 'it returns false'. Refute it at one input. -/
def fnCacheRoomWrong : ChangeSpec := { name := "fnCacheRoom", fn := fun _ => fun
  | [d1, d2, d3] => { results := [.lit (.bool false)], args := [d1, d2, d3] }
  | _ => none }
def FnCacheRoomWrongFalsely : Prop := fnCacheRoomRow.holds Try.pinned (OpenSpec.ofChange fnCacheRoomWrong)

/-- 'laws.FnEscape': WHATEVER THE INPUT: true; the input reads as it did. -/
def fnEscapeSpec : ChangeSpec := { name := "fnEscape", fn := fun _ => fun
  | [d] => { results := [.lit (.bool true)], args := [d] }
  | _ => none }
def fnEscapeRow : OpenClaim := { program := "ytdhmlcnlklcofaa", sum := "58ea40ba2513ee46cc73a3dc46cfe5c49705df50eeb537260ad07a12ade783d3", func := "pub-gatewarden/laws.FnEscape", spec := "fnEscape", apart := false }
def FnEscapeSaid : Prop := fnEscapeRow.holds Try.pinned (OpenSpec.ofChange fnEscapeSpec)

/-- ITS FALSE NEIGHBOUR: 'it returns false'. Refute it at one input. -/
def fnEscapeWrong : ChangeSpec := { name := "fnEscape", fn := fun _ => fun
  | [d] => { results := [.lit (.bool false)], args := [d] }
  | _ => none }
def FnEscapeWrongFalsely : Prop := fnEscapeRow.holds Try.pinned (OpenSpec.ofChange fnEscapeWrong)

/-- 'laws.FnEscapeTwice': WHATEVER THE INPUT: true; the input reads as it did. -/
def fnEscapeTwiceSpec : ChangeSpec := { name := "fnEscapeTwice", fn := fun _ => fun
  | [d1, d2] => { results := [.lit (.bool true)], args := [d1, d2] }
  | _ => none }
def fnEscapeTwiceRow : OpenClaim := { program := "ytdhmlcnlklcofaa", sum := "58ea40ba2513ee46cc73a3dc46cfe5c49705df50eeb537260ad07a12ade783d3", func := "pub-gatewarden/laws.FnEscapeTwice", spec := "fnEscapeTwice", apart := false }
def FnEscapeTwiceSaid : Prop := fnEscapeTwiceRow.holds Try.pinned (OpenSpec.ofChange fnEscapeTwiceSpec)

/-- ITS FALSE NEIGHBOUR: 'it returns false'. Refute it at one input. -/
def fnEscapeTwiceWrong : ChangeSpec := { name := "fnEscapeTwice", fn := fun _ => fun
  | [d1, d2] => { results := [.lit (.bool false)], args := [d1, d2] }
  | _ => none }
def FnEscapeTwiceWrongFalsely : Prop := fnEscapeTwiceRow.holds Try.pinned (OpenSpec.ofChange fnEscapeTwiceWrong)

/-- 'laws.FnKeyGet': WHATEVER THE INPUT: true; the input reads as it did. -/
def fnKeyGetSpec : ChangeSpec := { name := "fnKeyGet", fn := fun _ => fun
  | [d1, d2] => { results := [.lit (.bool true)], args := [d1, d2] }
  | _ => none }
def fnKeyGetRow : OpenClaim := { program := "ytdhmlcnlklcofaa", sum := "58ea40ba2513ee46cc73a3dc46cfe5c49705df50eeb537260ad07a12ade783d3", func := "pub-gatewarden/laws.FnKeyGet", spec := "fnKeyGet", apart := false }
def FnKeyGetSaid : Prop := fnKeyGetRow.holds Try.pinned (OpenSpec.ofChange fnKeyGetSpec)

/-- ITS FALSE NEIGHBOUR: 'it returns false'. Refute it at one input. -/
def fnKeyGetWrong : ChangeSpec := { name := "fnKeyGet", fn := fun _ => fun
  | [d1, d2] => { results := [.lit (.bool false)], args := [d1, d2] }
  | _ => none }
def FnKeyGetWrongFalsely : Prop := fnKeyGetRow.holds Try.pinned (OpenSpec.ofChange fnKeyGetWrong)

/-- 'laws.FnKeyMatch': WHATEVER THE INPUT: true; the input reads as it did. -/
def fnKeyMatchSpec : ChangeSpec := { name := "fnKeyMatch", fn := fun _ => fun
  | [d1, d2] => { results := [.lit (.bool true)], args := [d1, d2] }
  | _ => none }
def fnKeyMatchRow : OpenClaim := { program := "ytdhmlcnlklcofaa", sum := "58ea40ba2513ee46cc73a3dc46cfe5c49705df50eeb537260ad07a12ade783d3", func := "pub-gatewarden/laws.FnKeyMatch", spec := "fnKeyMatch", apart := false }
def FnKeyMatchSaid : Prop := fnKeyMatchRow.holds Try.pinned (OpenSpec.ofChange fnKeyMatchSpec)

/-- ITS FALSE NEIGHBOUR: 'it returns false'. Refute it at one input. -/
def fnKeyMatchWrong : ChangeSpec := { name := "fnKeyMatch", fn := fun _ => fun
  | [d1, d2] => { results := [.lit (.bool false)], args := [d1, d2] }
  | _ => none }
def FnKeyMatchWrongFalsely : Prop := fnKeyMatchRow.holds Try.pinned (OpenSpec.ofChange fnKeyMatchWrong)

/-- 'laws.FnKeyParts': WHATEVER THE INPUT: true; the input reads as it did. -/
def fnKeyPartsSpec : ChangeSpec := { name := "fnKeyParts", fn := fun _ => fun
  | [d1, d2, d3] => { results := [.lit (.bool true)], args := [d1, d2, d3] }
  | _ => none }
def fnKeyPartsRow : OpenClaim := { program := "ytdhmlcnlklcofaa", sum := "58ea40ba2513ee46cc73a3dc46cfe5c49705df50eeb537260ad07a12ade783d3", func := "pub-gatewarden/laws.FnKeyParts", spec := "fnKeyParts", apart := false }
def FnKeyPartsSaid : Prop := fnKeyPartsRow.holds Try.pinned (OpenSpec.ofChange fnKeyPartsSpec)

/-- ITS FALSE NEIGHBOUR: 'it returns false'. Refute it at one input. -/
def fnKeyPartsWrong : ChangeSpec := { name := "fnKeyParts", fn := fun _ => fun
  | [d1, d2, d3] => { results := [.lit (.bool false)], args := [d1, d2, d3] }
  | _ => none }
def FnKeyPartsWrongFalsely : Prop := fnKeyPartsRow.holds Try.pinned (OpenSpec.ofChange fnKeyPartsWrong)

/-- 'laws.FnMerge': WHATEVER THE INPUT: true; the input reads as it did. -/
def fnMergeSpec : ChangeSpec := { name := "fnMerge", fn := fun _ => fun
  | [d1, d2, d3] => { results := [.lit (.bool true)], args := [d1, d2, d3] }
  | _ => none }
def fnMergeRow : OpenClaim := { program := "ytdhmlcnlklcofaa", sum := "58ea40ba2513ee46cc73a3dc46cfe5c49705df50eeb537260ad07a12ade783d3", func := "pub-gatewarden/laws.FnMerge", spec := "fnMerge", apart := false }
def FnMergeSaid : Prop := fnMergeRow.holds Try.pinned (OpenSpec.ofChange fnMergeSpec)

/-- ITS FALSE NEIGHBOUR: 'it returns false'. Refute it at one input. -/
def fnMergeWrong : ChangeSpec := { name := "fnMerge", fn := fun _ => fun
  | [d1, d2, d3] => { results := [.lit (.bool false)], args := [d1, d2, d3] }
  | _ => none }
def FnMergeWrongFalsely : Prop := fnMergeRow.holds Try.pinned (OpenSpec.ofChange fnMergeWrong)

/-- 'laws.FnMergeIdle': WHATEVER THE INPUT: true; the input reads as it did. -/
def fnMergeIdleSpec : ChangeSpec := { name := "fnMergeIdle", fn := fun _ => fun
  | [d1, d2, d3, d4, d5] => { results := [.lit (.bool true)], args := [d1, d2, d3, d4, d5] }
  | _ => none }
def fnMergeIdleRow : OpenClaim := { program := "ytdhmlcnlklcofaa", sum := "58ea40ba2513ee46cc73a3dc46cfe5c49705df50eeb537260ad07a12ade783d3", func := "pub-gatewarden/laws.FnMergeIdle", spec := "fnMergeIdle", apart := false }
def FnMergeIdleSaid : Prop := fnMergeIdleRow.holds Try.pinned (OpenSpec.ofChange fnMergeIdleSpec)

/-- ITS FALSE NEIGHBOUR: 'it returns false'. Refute it at one input. -/
def fnMergeIdleWrong : ChangeSpec := { name := "fnMergeIdle", fn := fun _ => fun
  | [d1, d2, d3, d4, d5] => { results := [.lit (.bool false)], args := [d1, d2, d3, d4, d5] }
  | _ => none }
def FnMergeIdleWrongFalsely : Prop := fnMergeIdleRow.holds Try.pinned (OpenSpec.ofChange fnMergeIdleWrong)

/-- 'laws.FnMergeStranger': WHATEVER THE INPUT: true; the input reads as it did. -/
def fnMergeStrangerSpec : ChangeSpec := { name := "fnMergeStranger", fn := fun _ => fun
  | [d1, d2, d3] => { results := [.lit (.bool true)], args := [d1, d2, d3] }
  | _ => none }
def fnMergeStrangerRow : OpenClaim := { program := "ytdhmlcnlklcofaa", sum := "58ea40ba2513ee46cc73a3dc46cfe5c49705df50eeb537260ad07a12ade783d3", func := "pub-gatewarden/laws.FnMergeStranger", spec := "fnMergeStranger", apart := false }
def FnMergeStrangerSaid : Prop := fnMergeStrangerRow.holds Try.pinned (OpenSpec.ofChange fnMergeStrangerSpec)

/-- ITS FALSE NEIGHBOUR: 'it returns false'. Refute it at one input. -/
def fnMergeStrangerWrong : ChangeSpec := { name := "fnMergeStranger", fn := fun _ => fun
  | [d1, d2, d3] => { results := [.lit (.bool false)], args := [d1, d2, d3] }
  | _ => none }
def FnMergeStrangerWrongFalsely : Prop := fnMergeStrangerRow.holds Try.pinned (OpenSpec.ofChange fnMergeStrangerWrong)

/-- 'laws.FnMergeWhich': WHATEVER THE INPUT: true; the input reads as it did. -/
def fnMergeWhichSpec : ChangeSpec := { name := "fnMergeWhich", fn := fun _ => fun
  | [d1, d2, d3] => { results := [.lit (.bool true)], args := [d1, d2, d3] }
  | _ => none }
def fnMergeWhichRow : OpenClaim := { program := "ytdhmlcnlklcofaa", sum := "58ea40ba2513ee46cc73a3dc46cfe5c49705df50eeb537260ad07a12ade783d3", func := "pub-gatewarden/laws.FnMergeWhich", spec := "fnMergeWhich", apart := false }
def FnMergeWhichSaid : Prop := fnMergeWhichRow.holds Try.pinned (OpenSpec.ofChange fnMergeWhichSpec)

/-- ITS FALSE NEIGHBOUR: 'it returns false'. Refute it at one input. -/
def fnMergeWhichWrong : ChangeSpec := { name := "fnMergeWhich", fn := fun _ => fun
  | [d1, d2, d3] => { results := [.lit (.bool false)], args := [d1, d2, d3] }
  | _ => none }
def FnMergeWhichWrongFalsely : Prop := fnMergeWhichRow.holds Try.pinned (OpenSpec.ofChange fnMergeWhichWrong)

/- THE SECOND FORM. 'bulk': how many values and letters a reading holds, each counted each time it is reached (what is shared counts as often as it is met; a slice's spare places count too). A statement '..UptoSaid' is the law's where the arguments, and the package variables that the reading takes, are together of bulk at most 1048576: NARROWER than '..Said'. Prove '..Said' where nothing that the law and all that it calls make is longer than what came in: it says more and counts as full. Else prove '..UptoSaid'. A law counts once. -/
mutual
def uptoBulk {H : Type} : DataW H → Nat
  | .lit (.string bytes) => bytes.length + 1
  | .lit _ => 1
  | .nil => 1
  | .ptr d => uptoBulk d + 1
  | .slice elems spare => uptoBulkAll elems + uptoBulkAll spare + 1
  | .agg parts => uptoBulkAll parts + 1
  | .iface _ d => uptoBulk d + 1
  | .map entries => uptoBulkEntries entries + 1
  | .held _ => 1
def uptoBulkAll {H : Type} : List (DataW H) → Nat
  | [] => 0
  | d :: r => uptoBulk d + uptoBulkAll r
def uptoBulkEntries {H : Type} : List (Lit × DataW H) → Nat
  | [] => 0
  | x :: r => uptoBulkEntry x + uptoBulkEntries r
def uptoBulkEntry {H : Type} : Lit × DataW H → Nat
  | (.string bytes, d) => bytes.length + uptoBulk d + 1
  | (_, d) => uptoBulk d + 1
 end
def uptoSmall : (H : Type) → List (DataW H) → Bool := fun _ ds => decide (uptoBulkAll ds ≤ 1048576)
def OpenSpec.upto (s : _root_.Go.ChangeSpec) : _root_.Go.OpenSpec := { _root_.Go.OpenSpec.ofChange s with cond := some uptoSmall }

/-- 'laws.FnCache', WHERE WHAT IT READS IS OF BULK AT MOST 1048576: true; the input reads as it did. -/
def fnCacheUptoRow : OpenClaim := { program := "ytdhmlcnlklcofaa", sum := "58ea40ba2513ee46cc73a3dc46cfe5c49705df50eeb537260ad07a12ade783d3", func := "pub-gatewarden/laws.FnCache", spec := "fnCache", apart := false, narrowed := true }
def FnCacheUptoSaid : Prop := fnCacheUptoRow.holds Try.pinned (OpenSpec.upto fnCacheSpec)

/-- 'laws.FnCacheRoom', WHERE WHAT IT READS IS OF BULK AT MOST 1048576: true; the input reads as it did. -/
def fnCacheRoomUptoRow : OpenClaim := { program := "ytdhmlcnlklcofaa", sum := "58ea40ba2513ee46cc73a3dc46cfe5c49705df50eeb537260ad07a12ade783d3", func := "pub-gatewarden/laws.FnCacheRoom", spec := "fnCacheRoom", apart := false, narrowed := true }
def FnCacheRoomUptoSaid : Prop := fnCacheRoomUptoRow.holds Try.pinned (OpenSpec.upto fnCacheRoomSpec)

/-- 'laws.FnEscape', WHERE WHAT IT READS IS OF BULK AT MOST 1048576: true; the input reads as it did. -/
def fnEscapeUptoRow : OpenClaim := { program := "ytdhmlcnlklcofaa", sum := "58ea40ba2513ee46cc73a3dc46cfe5c49705df50eeb537260ad07a12ade783d3", func := "pub-gatewarden/laws.FnEscape", spec := "fnEscape", apart := false, narrowed := true }
def FnEscapeUptoSaid : Prop := fnEscapeUptoRow.holds Try.pinned (OpenSpec.upto fnEscapeSpec)

/-- 'laws.FnEscapeTwice', WHERE WHAT IT READS IS OF BULK AT MOST 1048576: true; the input reads as it did. -/
def fnEscapeTwiceUptoRow : OpenClaim := { program := "ytdhmlcnlklcofaa", sum := "58ea40ba2513ee46cc73a3dc46cfe5c49705df50eeb537260ad07a12ade783d3", func := "pub-gatewarden/laws.FnEscapeTwice", spec := "fnEscapeTwice", apart := false, narrowed := true }
def FnEscapeTwiceUptoSaid : Prop := fnEscapeTwiceUptoRow.holds Try.pinned (OpenSpec.upto fnEscapeTwiceSpec)

/-- 'laws.FnKeyGet', WHERE WHAT IT READS IS OF BULK AT MOST 1048576: true; the input reads as it did. -/
def fnKeyGetUptoRow : OpenClaim := { program := "ytdhmlcnlklcofaa", sum := "58ea40ba2513ee46cc73a3dc46cfe5c49705df50eeb537260ad07a12ade783d3", func := "pub-gatewarden/laws.FnKeyGet", spec := "fnKeyGet", apart := false, narrowed := true }
def FnKeyGetUptoSaid : Prop := fnKeyGetUptoRow.holds Try.pinned (OpenSpec.upto fnKeyGetSpec)

/-- 'laws.FnKeyMatch', WHERE WHAT IT READS IS OF BULK AT MOST 1048576: true; the input reads as it did. -/
def fnKeyMatchUptoRow : OpenClaim := { program := "ytdhmlcnlklcofaa", sum := "58ea40ba2513ee46cc73a3dc46cfe5c49705df50eeb537260ad07a12ade783d3", func := "pub-gatewarden/laws.FnKeyMatch", spec := "fnKeyMatch", apart := false, narrowed := true }
def FnKeyMatchUptoSaid : Prop := fnKeyMatchUptoRow.holds Try.pinned (OpenSpec.upto fnKeyMatchSpec)

/-- 'laws.FnKeyParts', WHERE WHAT IT READS IS OF BULK AT MOST 1048576: true; the input reads as it did. -/
def fnKeyPartsUptoRow : OpenClaim := { program := "ytdhmlcnlklcofaa", sum := "58ea40ba2513ee46cc73a3dc46cfe5c49705df50eeb537260ad07a12ade783d3", func := "pub-gatewarden/laws.FnKeyParts", spec := "fnKeyParts", apart := false, narrowed := true }
def FnKeyPartsUptoSaid : Prop := fnKeyPartsUptoRow.holds Try.pinned (OpenSpec.upto fnKeyPartsSpec)

/-- 'laws.FnMerge', WHERE WHAT IT READS IS OF BULK AT MOST 1048576: true; the input reads as it did. -/
def fnMergeUptoRow : OpenClaim := { program := "ytdhmlcnlklcofaa", sum := "58ea40ba2513ee46cc73a3dc46cfe5c49705df50eeb537260ad07a12ade783d3", func := "pub-gatewarden/laws.FnMerge", spec := "fnMerge", apart := false, narrowed := true }
def FnMergeUptoSaid : Prop := fnMergeUptoRow.holds Try.pinned (OpenSpec.upto fnMergeSpec)

/-- 'laws.FnMergeIdle', WHERE WHAT IT READS IS OF BULK AT MOST 1048576: true; the input reads as it did. -/
def fnMergeIdleUptoRow : OpenClaim := { program := "ytdhmlcnlklcofaa", sum := "58ea40ba2513ee46cc73a3dc46cfe5c49705df50eeb537260ad07a12ade783d3", func := "pub-gatewarden/laws.FnMergeIdle", spec := "fnMergeIdle", apart := false, narrowed := true }
def FnMergeIdleUptoSaid : Prop := fnMergeIdleUptoRow.holds Try.pinned (OpenSpec.upto fnMergeIdleSpec)

/-- 'laws.FnMergeStranger', WHERE WHAT IT READS IS OF BULK AT MOST 1048576: true; the input reads as it did. -/
def fnMergeStrangerUptoRow : OpenClaim := { program := "ytdhmlcnlklcofaa", sum := "58ea40ba2513ee46cc73a3dc46cfe5c49705df50eeb537260ad07a12ade783d3", func := "pub-gatewarden/laws.FnMergeStranger", spec := "fnMergeStranger", apart := false, narrowed := true }
def FnMergeStrangerUptoSaid : Prop := fnMergeStrangerUptoRow.holds Try.pinned (OpenSpec.upto fnMergeStrangerSpec)

/-- 'laws.FnMergeWhich', WHERE WHAT IT READS IS OF BULK AT MOST 1048576: true; the input reads as it did. -/
def fnMergeWhichUptoRow : OpenClaim := { program := "ytdhmlcnlklcofaa", sum := "58ea40ba2513ee46cc73a3dc46cfe5c49705df50eeb537260ad07a12ade783d3", func := "pub-gatewarden/laws.FnMergeWhich", spec := "fnMergeWhich", apart := false, narrowed := true }
def FnMergeWhichUptoSaid : Prop := fnMergeWhichUptoRow.holds Try.pinned (OpenSpec.upto fnMergeWhichSpec)

end Rows
end Go.Proofs.Ytdhmlcnlklcofaa
