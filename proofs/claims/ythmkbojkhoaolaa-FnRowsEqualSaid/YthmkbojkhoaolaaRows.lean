/-
  No cell of these rows narrows 'for every input' (looked for: loops, veiled, ifaces, maps, wideKeys, modest, calm, conditions, laid).
  DERIVED. THE GIVEN ROWS OF THIS SEAT. 4 by the template 'for every input the law returns true; each argument reads behind the call as it read before'; 0 by the template 'total and deterministic' (their statements: YthmkbojkhoaolaaTotals.lean).
  GIVEN WITH THE SEED: the statements are not yours to turn. If you find one false, say at which input.
  Laid BY PROGRAM, IN A SANDBOX (cutbox-rows.mjs): the forced cells as the released guide's own fill.sh prints them over the translation 6a4ccd9e49e58133… (all of the seat's roots in one cut). By AI agents, Wed Nov 11 2026. No macro, syntax, notation, axiom, sorry.
-/
import Derived.Test.YthmkbojkhoaolaaChecked
import GoSem.Claim
import GoSem.ClaimJoined
import GoSem.ClaimMapViews
import Derived.JoinedTies
import Derived.KernelRfl
namespace Go.Proofs.Ythmkbojkhoaolaa
/- THE CELL 'sum', in the pinned program and in every row, IS THE sha256 OF THE DUMP (.gsa) THAT YthmkbojkhoaolaaProg.lean LOADS. Nothing in Lean hashes anything: it is a label: what it is worth is what the hold of that sum in a sandbox is worth. -/
noncomputable def Try.pinned : Pinned := { name := "ythmkbojkhoaolaa", sum := "6a4ccd9e49e581339041c798335db3fe728f123b6f8b0bbcb68021c65d51ca6c", checked := Try.checked }
namespace Rows
def none {H : Type} : Left H := { results := [], args := [] }

/-- 'laws.FnSetEquals': WHATEVER THE INPUT: true; the input reads as it did. -/
def fnSetEqualsSpec : ChangeSpec := { name := "fnSetEquals", fn := fun _ => fun
  | [d1, d2, d3, d4] => { results := [.lit (.bool true)], args := [d1, d2, d3, d4] }
  | _ => none }
def fnSetEqualsRow : OpenClaim := { program := "ythmkbojkhoaolaa", sum := "6a4ccd9e49e581339041c798335db3fe728f123b6f8b0bbcb68021c65d51ca6c", func := "pub-gatewarden/laws.FnSetEquals", spec := "fnSetEquals", recurses := true, apart := false }
def FnSetEqualsSaid : Prop := fnSetEqualsRow.holds Try.pinned (OpenSpec.ofChange fnSetEqualsSpec)

/-- ITS FALSE NEIGHBOUR: 'it returns false'. Refute it at one input. -/
def fnSetEqualsWrong : ChangeSpec := { name := "fnSetEquals", fn := fun _ => fun
  | [d1, d2, d3, d4] => { results := [.lit (.bool false)], args := [d1, d2, d3, d4] }
  | _ => none }
def FnSetEqualsWrongFalsely : Prop := fnSetEqualsRow.holds Try.pinned (OpenSpec.ofChange fnSetEqualsWrong)

/-- 'laws.FnRowSets': WHATEVER THE INPUT: true; the input reads as it did. -/
def fnRowSetsSpec : ChangeSpec := { name := "fnRowSets", fn := fun _ => fun
  | [d1, d2] => { results := [.lit (.bool true)], args := [d1, d2] }
  | _ => none }
def fnRowSetsRow : OpenClaim := { program := "ythmkbojkhoaolaa", sum := "6a4ccd9e49e581339041c798335db3fe728f123b6f8b0bbcb68021c65d51ca6c", func := "pub-gatewarden/laws.FnRowSets", spec := "fnRowSets", inPlace := ["internal/abi.NoEscape", "internal/bytealg.MakeNoZero"], recurses := true, apart := false }
def FnRowSetsSaid : Prop := fnRowSetsRow.holds Try.pinned (OpenSpec.ofChange fnRowSetsSpec)

/-- ITS FALSE NEIGHBOUR: 'it returns false'. Refute it at one input. -/
def fnRowSetsWrong : ChangeSpec := { name := "fnRowSets", fn := fun _ => fun
  | [d1, d2] => { results := [.lit (.bool false)], args := [d1, d2] }
  | _ => none }
def FnRowSetsWrongFalsely : Prop := fnRowSetsRow.holds Try.pinned (OpenSpec.ofChange fnRowSetsWrong)

/-- 'laws.FnRowsSorted': WHATEVER THE INPUT: true; the input reads as it did. -/
def fnRowsSortedSpec : ChangeSpec := { name := "fnRowsSorted", fn := fun _ => fun
  | [d] => { results := [.lit (.bool true)], args := [d] }
  | _ => none }
def fnRowsSortedRow : OpenClaim := { program := "ythmkbojkhoaolaa", sum := "6a4ccd9e49e581339041c798335db3fe728f123b6f8b0bbcb68021c65d51ca6c", func := "pub-gatewarden/laws.FnRowsSorted", spec := "fnRowsSorted", inPlace := ["internal/reflectlite.ValueOf", "internal/reflectlite.Swapper", "(internal/reflectlite.Value).Len"], unfollowed := true, recurses := true, apart := false }
def FnRowsSortedSaid : Prop := fnRowsSortedRow.holds Try.pinned (OpenSpec.ofChange fnRowsSortedSpec)

/-- ITS FALSE NEIGHBOUR: 'it returns false'. Refute it at one input. -/
def fnRowsSortedWrong : ChangeSpec := { name := "fnRowsSorted", fn := fun _ => fun
  | [d] => { results := [.lit (.bool false)], args := [d] }
  | _ => none }
def FnRowsSortedWrongFalsely : Prop := fnRowsSortedRow.holds Try.pinned (OpenSpec.ofChange fnRowsSortedWrong)

/-- 'laws.FnRowsEqual': WHATEVER THE INPUT: true; the input reads as it did. -/
def fnRowsEqualSpec : ChangeSpec := { name := "fnRowsEqual", fn := fun _ => fun
  | [d1, d2] => { results := [.lit (.bool true)], args := [d1, d2] }
  | _ => none }
def fnRowsEqualRow : OpenClaim := { program := "ythmkbojkhoaolaa", sum := "6a4ccd9e49e581339041c798335db3fe728f123b6f8b0bbcb68021c65d51ca6c", func := "pub-gatewarden/laws.FnRowsEqual", spec := "fnRowsEqual", inPlace := ["internal/reflectlite.ValueOf", "internal/reflectlite.Swapper", "(internal/reflectlite.Value).Len"], unfollowed := true, recurses := true, apart := false }
def FnRowsEqualSaid : Prop := fnRowsEqualRow.holds Try.pinned (OpenSpec.ofChange fnRowsEqualSpec)

/-- ITS FALSE NEIGHBOUR: 'it returns false'. Refute it at one input. -/
def fnRowsEqualWrong : ChangeSpec := { name := "fnRowsEqual", fn := fun _ => fun
  | [d1, d2] => { results := [.lit (.bool false)], args := [d1, d2] }
  | _ => none }
def FnRowsEqualWrongFalsely : Prop := fnRowsEqualRow.holds Try.pinned (OpenSpec.ofChange fnRowsEqualWrong)

/- THE SECOND FORM. 'bulk': how many values and letters a reading holds, each counted each time it is reached (what is shared counts as often as it is met; a slice's spare places count too). A statement '..UptoSaid' is the law's where the arguments, and the package variables that the reading takes, are together of bulk at most 1048576: NARROWER than '..Said'. Prove '..Said' where nothing that the law and all that it calls make is longer than what came in: it says more and counts as full. Else prove '..UptoSaid'. A law counts once. -/
mutual
def uptoBulk {H : Type} : DataW H → Nat
  | .lit (.string bytes) => bytes.length + 1
  | .lit _ => 1
  | .nil => 1
  | .ptr d => uptoBulk d + 1
  | .slice elems spare => uptoBulkAll elems + uptoBulkAll spare + 1
  | .agg parts => uptoBulkAll parts + 1
  | .iface _ d => uptoBulk d + 1
  | .map entries => uptoBulkEntries entries + 1
  | .held _ => 1
def uptoBulkAll {H : Type} : List (DataW H) → Nat
  | [] => 0
  | d :: r => uptoBulk d + uptoBulkAll r
def uptoBulkEntries {H : Type} : List (Lit × DataW H) → Nat
  | [] => 0
  | x :: r => uptoBulkEntry x + uptoBulkEntries r
def uptoBulkEntry {H : Type} : Lit × DataW H → Nat
  | (.string bytes, d) => bytes.length + uptoBulk d + 1
  | (_, d) => uptoBulk d + 1
 end
def uptoSmall : (H : Type) → List (DataW H) → Bool := fun _ ds => decide (uptoBulkAll ds ≤ 1048576)
def OpenSpec.upto (s : _root_.Go.ChangeSpec) : _root_.Go.OpenSpec := { _root_.Go.OpenSpec.ofChange s with cond := some uptoSmall }

/-- 'laws.FnSetEquals', WHERE WHAT IT READS IS OF BULK AT MOST 1048576: true; the input reads as it did. -/
def fnSetEqualsUptoRow : OpenClaim := { program := "ythmkbojkhoaolaa", sum := "6a4ccd9e49e581339041c798335db3fe728f123b6f8b0bbcb68021c65d51ca6c", func := "pub-gatewarden/laws.FnSetEquals", spec := "fnSetEquals", recurses := true, apart := false, narrowed := true }
def FnSetEqualsUptoSaid : Prop := fnSetEqualsUptoRow.holds Try.pinned (OpenSpec.upto fnSetEqualsSpec)

/-- 'laws.FnRowSets', WHERE WHAT IT READS IS OF BULK AT MOST 1048576: true; the input reads as it did. -/
def fnRowSetsUptoRow : OpenClaim := { program := "ythmkbojkhoaolaa", sum := "6a4ccd9e49e581339041c798335db3fe728f123b6f8b0bbcb68021c65d51ca6c", func := "pub-gatewarden/laws.FnRowSets", spec := "fnRowSets", inPlace := ["internal/abi.NoEscape", "internal/bytealg.MakeNoZero"], recurses := true, apart := false, narrowed := true }
def FnRowSetsUptoSaid : Prop := fnRowSetsUptoRow.holds Try.pinned (OpenSpec.upto fnRowSetsSpec)

/-- 'laws.FnRowsSorted', WHERE WHAT IT READS IS OF BULK AT MOST 1048576: true; the input reads as it did. -/
def fnRowsSortedUptoRow : OpenClaim := { program := "ythmkbojkhoaolaa", sum := "6a4ccd9e49e581339041c798335db3fe728f123b6f8b0bbcb68021c65d51ca6c", func := "pub-gatewarden/laws.FnRowsSorted", spec := "fnRowsSorted", inPlace := ["internal/reflectlite.ValueOf", "internal/reflectlite.Swapper", "(internal/reflectlite.Value).Len"], unfollowed := true, recurses := true, apart := false, narrowed := true }
def FnRowsSortedUptoSaid : Prop := fnRowsSortedUptoRow.holds Try.pinned (OpenSpec.upto fnRowsSortedSpec)

/-- 'laws.FnRowsEqual', WHERE WHAT IT READS IS OF BULK AT MOST 1048576: true; the input reads as it did. -/
def fnRowsEqualUptoRow : OpenClaim := { program := "ythmkbojkhoaolaa", sum := "6a4ccd9e49e581339041c798335db3fe728f123b6f8b0bbcb68021c65d51ca6c", func := "pub-gatewarden/laws.FnRowsEqual", spec := "fnRowsEqual", inPlace := ["internal/reflectlite.ValueOf", "internal/reflectlite.Swapper", "(internal/reflectlite.Value).Len"], unfollowed := true, recurses := true, apart := false, narrowed := true }
def FnRowsEqualUptoSaid : Prop := fnRowsEqualUptoRow.holds Try.pinned (OpenSpec.upto fnRowsEqualSpec)

end Rows
end Go.Proofs.Ythmkbojkhoaolaa
