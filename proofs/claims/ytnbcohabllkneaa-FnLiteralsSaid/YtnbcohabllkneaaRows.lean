/-
  No cell of these rows narrows 'for every input' (looked for: loops, veiled, ifaces, maps, wideKeys, modest, calm, conditions, laid).
  DERIVED. THE GIVEN ROWS OF THIS SEAT. 7 by the template 'for every input the law returns true; each argument reads behind the call as it read before'; 0 by the template 'total and deterministic' (their statements: YtnbcohabllkneaaTotals.lean).
  GIVEN WITH THE SEED: the statements are not yours to turn. If you find one false, say at which input.
  Laid BY PROGRAM, IN A SANDBOX (cutbox-rows.mjs): the forced cells as the released guide's own fill.sh prints them over the translation fed1e1ddfeb24b90… (all of the seat's roots in one cut). By AI agents, Wed Nov 11 2026. No macro, syntax, notation, axiom, sorry.
-/
import Derived.Test.YtnbcohabllkneaaChecked
import GoSem.Claim
import GoSem.ClaimJoined
import GoSem.ClaimMapViews
import Derived.JoinedTies
import Derived.KernelRfl
namespace Go.Proofs.Ytnbcohabllkneaa
/- THE CELL 'sum', in the pinned program and in every row, IS THE sha256 OF THE DUMP (.gsa) THAT YtnbcohabllkneaaProg.lean LOADS. Nothing in Lean hashes anything: it is a label: what it is worth is what the hold of that sum in a sandbox is worth. -/
noncomputable def Try.pinned : Pinned := { name := "ytnbcohabllkneaa", sum := "fed1e1ddfeb24b90a4f296a1fdedbc08fb35fc8775c49cf581f41f6a74e684d3", checked := Try.checked }
namespace Rows
def none {H : Type} : Left H := { results := [], args := [] }

/-- 'laws.FnListEquals': WHATEVER THE INPUT: true; the input reads as it did. -/
def fnListEqualsSpec : ChangeSpec := { name := "fnListEquals", fn := fun _ => fun
  | [d1, d2, d3, d4] => { results := [.lit (.bool true)], args := [d1, d2, d3, d4] }
  | _ => none }
def fnListEqualsRow : OpenClaim := { program := "ytnbcohabllkneaa", sum := "fed1e1ddfeb24b90a4f296a1fdedbc08fb35fc8775c49cf581f41f6a74e684d3", func := "pub-gatewarden/laws.FnListEquals", spec := "fnListEquals", apart := false }
def FnListEqualsSaid : Prop := fnListEqualsRow.holds Try.pinned (OpenSpec.ofChange fnListEqualsSpec)

/-- ITS FALSE NEIGHBOUR: 'it returns false'. Refute it at one input. -/
def fnListEqualsWrong : ChangeSpec := { name := "fnListEquals", fn := fun _ => fun
  | [d1, d2, d3, d4] => { results := [.lit (.bool false)], args := [d1, d2, d3, d4] }
  | _ => none }
def FnListEqualsWrongFalsely : Prop := fnListEqualsRow.holds Try.pinned (OpenSpec.ofChange fnListEqualsWrong)

/-- 'laws.FnSubtract': WHATEVER THE INPUT: true; the input reads as it did. -/
def fnSubtractSpec : ChangeSpec := { name := "fnSubtract", fn := fun _ => fun
  | [d1, d2] => { results := [.lit (.bool true)], args := [d1, d2] }
  | _ => none }
def fnSubtractRow : OpenClaim := { program := "ytnbcohabllkneaa", sum := "fed1e1ddfeb24b90a4f296a1fdedbc08fb35fc8775c49cf581f41f6a74e684d3", func := "pub-gatewarden/laws.FnSubtract", spec := "fnSubtract", apart := false }
def FnSubtractSaid : Prop := fnSubtractRow.holds Try.pinned (OpenSpec.ofChange fnSubtractSpec)

/-- ITS FALSE NEIGHBOUR: 'it returns false'. Refute it at one input. -/
def fnSubtractWrong : ChangeSpec := { name := "fnSubtract", fn := fun _ => fun
  | [d1, d2] => { results := [.lit (.bool false)], args := [d1, d2] }
  | _ => none }
def FnSubtractWrongFalsely : Prop := fnSubtractRow.holds Try.pinned (OpenSpec.ofChange fnSubtractWrong)

/-- 'laws.FnEvaled': WHATEVER THE INPUT: true; the input reads as it did. -/
def fnEvaledSpec : ChangeSpec := { name := "fnEvaled", fn := fun _ => fun
  | [d1, d2] => { results := [.lit (.bool true)], args := [d1, d2] }
  | _ => none }
def fnEvaledRow : OpenClaim := { program := "ytnbcohabllkneaa", sum := "fed1e1ddfeb24b90a4f296a1fdedbc08fb35fc8775c49cf581f41f6a74e684d3", func := "pub-gatewarden/laws.FnEvaled", spec := "fnEvaled", apart := false }
def FnEvaledSaid : Prop := fnEvaledRow.holds Try.pinned (OpenSpec.ofChange fnEvaledSpec)

/-- ITS FALSE NEIGHBOUR: 'it returns false'. Refute it at one input. -/
def fnEvaledWrong : ChangeSpec := { name := "fnEvaled", fn := fun _ => fun
  | [d1, d2] => { results := [.lit (.bool false)], args := [d1, d2] }
  | _ => none }
def FnEvaledWrongFalsely : Prop := fnEvaledRow.holds Try.pinned (OpenSpec.ofChange fnEvaledWrong)

/-- 'laws.FnOnce': WHATEVER THE INPUT: true; the input reads as it did. -/
def fnOnceSpec : ChangeSpec := { name := "fnOnce", fn := fun _ => fun
  | [d] => { results := [.lit (.bool true)], args := [d] }
  | _ => none }
def fnOnceRow : OpenClaim := { program := "ytnbcohabllkneaa", sum := "fed1e1ddfeb24b90a4f296a1fdedbc08fb35fc8775c49cf581f41f6a74e684d3", func := "pub-gatewarden/laws.FnOnce", spec := "fnOnce", apart := false }
def FnOnceSaid : Prop := fnOnceRow.holds Try.pinned (OpenSpec.ofChange fnOnceSpec)

/-- ITS FALSE NEIGHBOUR: 'it returns false'. Refute it at one input. -/
def fnOnceWrong : ChangeSpec := { name := "fnOnce", fn := fun _ => fun
  | [d] => { results := [.lit (.bool false)], args := [d] }
  | _ => none }
def FnOnceWrongFalsely : Prop := fnOnceRow.holds Try.pinned (OpenSpec.ofChange fnOnceWrong)

/-- 'laws.FnEvals': WHATEVER THE INPUT: true; the input reads as it did. -/
def fnEvalsSpec : ChangeSpec := { name := "fnEvals", fn := fun _ => fun
  | [d] => { results := [.lit (.bool true)], args := [d] }
  | _ => none }
def fnEvalsRow : OpenClaim := { program := "ytnbcohabllkneaa", sum := "fed1e1ddfeb24b90a4f296a1fdedbc08fb35fc8775c49cf581f41f6a74e684d3", func := "pub-gatewarden/laws.FnEvals", spec := "fnEvals", apart := false }
def FnEvalsSaid : Prop := fnEvalsRow.holds Try.pinned (OpenSpec.ofChange fnEvalsSpec)

/-- ITS FALSE NEIGHBOUR: 'it returns false'. Refute it at one input. -/
def fnEvalsWrong : ChangeSpec := { name := "fnEvals", fn := fun _ => fun
  | [d] => { results := [.lit (.bool false)], args := [d] }
  | _ => none }
def FnEvalsWrongFalsely : Prop := fnEvalsRow.holds Try.pinned (OpenSpec.ofChange fnEvalsWrong)

/-- 'laws.FnLiterals': WHATEVER THE INPUT: true; the input reads as it did. -/
def fnLiteralsSpec : ChangeSpec := { name := "fnLiterals", fn := fun _ => fun
  | [d] => { results := [.lit (.bool true)], args := [d] }
  | _ => none }
def fnLiteralsRow : OpenClaim := { program := "ytnbcohabllkneaa", sum := "fed1e1ddfeb24b90a4f296a1fdedbc08fb35fc8775c49cf581f41f6a74e684d3", func := "pub-gatewarden/laws.FnLiterals", spec := "fnLiterals", inPlace := ["internal/abi.NoEscape"], apart := false }
def FnLiteralsSaid : Prop := fnLiteralsRow.holds Try.pinned (OpenSpec.ofChange fnLiteralsSpec)

/-- ITS FALSE NEIGHBOUR: 'it returns false'. Refute it at one input. -/
def fnLiteralsWrong : ChangeSpec := { name := "fnLiterals", fn := fun _ => fun
  | [d] => { results := [.lit (.bool false)], args := [d] }
  | _ => none }
def FnLiteralsWrongFalsely : Prop := fnLiteralsRow.holds Try.pinned (OpenSpec.ofChange fnLiteralsWrong)

/-- 'laws.FnJoined': WHATEVER THE INPUT: true; the input reads as it did. -/
def fnJoinedSpec : ChangeSpec := { name := "fnJoined", fn := fun _ => fun
  | [d1, d2] => { results := [.lit (.bool true)], args := [d1, d2] }
  | _ => none }
def fnJoinedRow : OpenClaim := { program := "ytnbcohabllkneaa", sum := "fed1e1ddfeb24b90a4f296a1fdedbc08fb35fc8775c49cf581f41f6a74e684d3", func := "pub-gatewarden/laws.FnJoined", spec := "fnJoined", inPlace := ["internal/abi.NoEscape", "internal/bytealg.MakeNoZero"], apart := false }
def FnJoinedSaid : Prop := fnJoinedRow.holds Try.pinned (OpenSpec.ofChange fnJoinedSpec)

/-- ITS FALSE NEIGHBOUR: 'it returns false'. Refute it at one input. -/
def fnJoinedWrong : ChangeSpec := { name := "fnJoined", fn := fun _ => fun
  | [d1, d2] => { results := [.lit (.bool false)], args := [d1, d2] }
  | _ => none }
def FnJoinedWrongFalsely : Prop := fnJoinedRow.holds Try.pinned (OpenSpec.ofChange fnJoinedWrong)

/- THE SECOND FORM. 'bulk': how many values and letters a reading holds, each counted each time it is reached (what is shared counts as often as it is met; a slice's spare places count too). A statement '..UptoSaid' is the law's where the arguments, and the package variables that the reading takes, are together of bulk at most 1048576: NARROWER than '..Said'. Prove '..Said' where nothing that the law and all that it calls make is longer than what came in: it says more and counts as full. Else prove '..UptoSaid'. A law counts once. -/
mutual
def uptoBulk {H : Type} : DataW H → Nat
  | .lit (.string bytes) => bytes.length + 1
  | .lit _ => 1
  | .nil => 1
  | .ptr d => uptoBulk d + 1
  | .slice elems spare => uptoBulkAll elems + uptoBulkAll spare + 1
  | .agg parts => uptoBulkAll parts + 1
  | .iface _ d => uptoBulk d + 1
  | .map entries => uptoBulkEntries entries + 1
  | .held _ => 1
def uptoBulkAll {H : Type} : List (DataW H) → Nat
  | [] => 0
  | d :: r => uptoBulk d + uptoBulkAll r
def uptoBulkEntries {H : Type} : List (Lit × DataW H) → Nat
  | [] => 0
  | x :: r => uptoBulkEntry x + uptoBulkEntries r
def uptoBulkEntry {H : Type} : Lit × DataW H → Nat
  | (.string bytes, d) => bytes.length + uptoBulk d + 1
  | (_, d) => uptoBulk d + 1
 end
def uptoSmall : (H : Type) → List (DataW H) → Bool := fun _ ds => decide (uptoBulkAll ds ≤ 1048576)
def OpenSpec.upto (s : _root_.Go.ChangeSpec) : _root_.Go.OpenSpec := { _root_.Go.OpenSpec.ofChange s with cond := some uptoSmall }

/-- 'laws.FnListEquals', WHERE WHAT IT READS IS OF BULK AT MOST 1048576: true; the input reads as it did. -/
def fnListEqualsUptoRow : OpenClaim := { program := "ytnbcohabllkneaa", sum := "fed1e1ddfeb24b90a4f296a1fdedbc08fb35fc8775c49cf581f41f6a74e684d3", func := "pub-gatewarden/laws.FnListEquals", spec := "fnListEquals", apart := false, narrowed := true }
def FnListEqualsUptoSaid : Prop := fnListEqualsUptoRow.holds Try.pinned (OpenSpec.upto fnListEqualsSpec)

/-- 'laws.FnSubtract', WHERE WHAT IT READS IS OF BULK AT MOST 1048576: true; the input reads as it did. -/
def fnSubtractUptoRow : OpenClaim := { program := "ytnbcohabllkneaa", sum := "fed1e1ddfeb24b90a4f296a1fdedbc08fb35fc8775c49cf581f41f6a74e684d3", func := "pub-gatewarden/laws.FnSubtract", spec := "fnSubtract", apart := false, narrowed := true }
def FnSubtractUptoSaid : Prop := fnSubtractUptoRow.holds Try.pinned (OpenSpec.upto fnSubtractSpec)

/-- 'laws.FnEvaled', WHERE WHAT IT READS IS OF BULK AT MOST 1048576: true; the input reads as it did. -/
def fnEvaledUptoRow : OpenClaim := { program := "ytnbcohabllkneaa", sum := "fed1e1ddfeb24b90a4f296a1fdedbc08fb35fc8775c49cf581f41f6a74e684d3", func := "pub-gatewarden/laws.FnEvaled", spec := "fnEvaled", apart := false, narrowed := true }
def FnEvaledUptoSaid : Prop := fnEvaledUptoRow.holds Try.pinned (OpenSpec.upto fnEvaledSpec)

/-- 'laws.FnOnce', WHERE WHAT IT READS IS OF BULK AT MOST 1048576: true; the input reads as it did. -/
def fnOnceUptoRow : OpenClaim := { program := "ytnbcohabllkneaa", sum := "fed1e1ddfeb24b90a4f296a1fdedbc08fb35fc8775c49cf581f41f6a74e684d3", func := "pub-gatewarden/laws.FnOnce", spec := "fnOnce", apart := false, narrowed := true }
def FnOnceUptoSaid : Prop := fnOnceUptoRow.holds Try.pinned (OpenSpec.upto fnOnceSpec)

/-- 'laws.FnEvals', WHERE WHAT IT READS IS OF BULK AT MOST 1048576: true; the input reads as it did. -/
def fnEvalsUptoRow : OpenClaim := { program := "ytnbcohabllkneaa", sum := "fed1e1ddfeb24b90a4f296a1fdedbc08fb35fc8775c49cf581f41f6a74e684d3", func := "pub-gatewarden/laws.FnEvals", spec := "fnEvals", apart := false, narrowed := true }
def FnEvalsUptoSaid : Prop := fnEvalsUptoRow.holds Try.pinned (OpenSpec.upto fnEvalsSpec)

/-- 'laws.FnLiterals', WHERE WHAT IT READS IS OF BULK AT MOST 1048576: true; the input reads as it did. -/
def fnLiteralsUptoRow : OpenClaim := { program := "ytnbcohabllkneaa", sum := "fed1e1ddfeb24b90a4f296a1fdedbc08fb35fc8775c49cf581f41f6a74e684d3", func := "pub-gatewarden/laws.FnLiterals", spec := "fnLiterals", inPlace := ["internal/abi.NoEscape"], apart := false, narrowed := true }
def FnLiteralsUptoSaid : Prop := fnLiteralsUptoRow.holds Try.pinned (OpenSpec.upto fnLiteralsSpec)

/-- 'laws.FnJoined', WHERE WHAT IT READS IS OF BULK AT MOST 1048576: true; the input reads as it did. -/
def fnJoinedUptoRow : OpenClaim := { program := "ytnbcohabllkneaa", sum := "fed1e1ddfeb24b90a4f296a1fdedbc08fb35fc8775c49cf581f41f6a74e684d3", func := "pub-gatewarden/laws.FnJoined", spec := "fnJoined", inPlace := ["internal/abi.NoEscape", "internal/bytealg.MakeNoZero"], apart := false, narrowed := true }
def FnJoinedUptoSaid : Prop := fnJoinedUptoRow.holds Try.pinned (OpenSpec.upto fnJoinedSpec)

end Rows
end Go.Proofs.Ytnbcohabllkneaa
