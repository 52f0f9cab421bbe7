/-
  No cell of these rows narrows 'for every input' (looked for: loops, veiled, ifaces, maps, wideKeys, modest, calm, conditions, laid).
  DERIVED. THE GIVEN ROWS OF THIS SEAT. 6 by the template 'for every input the law returns true; each argument reads behind the call as it read before'; 0 by the template 'total and deterministic' (their statements: YtjijaciaioieaaaGreatTotals.lean).
  GIVEN WITH THE SEED: the statements are not yours to turn. If you find one false, say at which input.
  Laid BY PROGRAM, IN A SANDBOX (cutbox-rows.mjs): the forced cells as the released guide's own fill.sh prints them over the translation a785a0c6c8650386… (all of the seat's roots in one cut). By AI agents, Wed Nov 11 2026. No macro, syntax, notation, axiom, sorry.
-/
import Derived.Test.YtjijaciaioieaaaGreatChecked
import GoSem.Claim
import GoSem.ClaimJoined
import GoSem.ClaimMapViews
import Derived.JoinedTies
import Derived.KernelRfl
namespace Go.Proofs.YtjijaciaioieaaaGreat
/- THE CELL 'sum', in the pinned program and in every row, IS THE sha256 OF THE DUMP (.gsa) THAT YtjijaciaioieaaaGreatProg.lean LOADS. Nothing in Lean hashes anything: it is a label: what it is worth is what the hold of that sum in a sandbox is worth. -/
noncomputable def Tryz.pinned : Pinned := { name := "ytjijaciaioieaaagreat", sum := "a785a0c6c865038677f48474215ad2e565cc7cea597bcabfb3204bcdcd706a7e", checked := Tryz.checked }
namespace Rows
def none {H : Type} : Left H := { results := [], args := [] }

/-- 'laws.FnRolesDomains': WHATEVER THE INPUT: true; the input reads as it did. -/
def fnRolesDomainsSpec : ChangeSpec := { name := "fnRolesDomains", fn := fun _ => fun
  | [d1, d2, d3, d4] => { results := [.lit (.bool true)], args := [d1, d2, d3, d4] }
  | _ => none }
def fnRolesDomainsRow : OpenClaim := { program := "ytjijaciaioieaaagreat", sum := "a785a0c6c865038677f48474215ad2e565cc7cea597bcabfb3204bcdcd706a7e", func := "pub-gatewarden/laws.FnRolesDomains", spec := "fnRolesDomains", unfollowed := true, recurses := true, apart := false }
def FnRolesDomainsSaid : Prop := fnRolesDomainsRow.holds Tryz.pinned (OpenSpec.ofChange fnRolesDomainsSpec)

/-- ITS FALSE NEIGHBOUR: 'it returns false'. Refute it at one input. -/
def fnRolesDomainsWrong : ChangeSpec := { name := "fnRolesDomains", fn := fun _ => fun
  | [d1, d2, d3, d4] => { results := [.lit (.bool false)], args := [d1, d2, d3, d4] }
  | _ => none }
def FnRolesDomainsWrongFalsely : Prop := fnRolesDomainsRow.holds Tryz.pinned (OpenSpec.ofChange fnRolesDomainsWrong)

/-- 'laws.FnRolesInverse': WHATEVER THE INPUT: true; the input reads as it did. -/
def fnRolesInverseSpec : ChangeSpec := { name := "fnRolesInverse", fn := fun _ => fun
  | [d1, d2, d3, d4, d5] => { results := [.lit (.bool true)], args := [d1, d2, d3, d4, d5] }
  | _ => none }
def fnRolesInverseRow : OpenClaim := { program := "ytjijaciaioieaaagreat", sum := "a785a0c6c865038677f48474215ad2e565cc7cea597bcabfb3204bcdcd706a7e", func := "pub-gatewarden/laws.FnRolesInverse", spec := "fnRolesInverse", unfollowed := true, recurses := true, apart := false }
def FnRolesInverseSaid : Prop := fnRolesInverseRow.holds Tryz.pinned (OpenSpec.ofChange fnRolesInverseSpec)

/-- ITS FALSE NEIGHBOUR: 'it returns false'. Refute it at one input. -/
def fnRolesInverseWrong : ChangeSpec := { name := "fnRolesInverse", fn := fun _ => fun
  | [d1, d2, d3, d4, d5] => { results := [.lit (.bool false)], args := [d1, d2, d3, d4, d5] }
  | _ => none }
def FnRolesInverseWrongFalsely : Prop := fnRolesInverseRow.holds Tryz.pinned (OpenSpec.ofChange fnRolesInverseWrong)

/-- 'laws.FnRolesLevels': WHATEVER THE INPUT: true; the input reads as it did. -/
def fnRolesLevelsSpec : ChangeSpec := { name := "fnRolesLevels", fn := fun _ => fun
  | [d1, d2, d3, d4] => { results := [.lit (.bool true)], args := [d1, d2, d3, d4] }
  | _ => none }
def fnRolesLevelsRow : OpenClaim := { program := "ytjijaciaioieaaagreat", sum := "a785a0c6c865038677f48474215ad2e565cc7cea597bcabfb3204bcdcd706a7e", func := "pub-gatewarden/laws.FnRolesLevels", spec := "fnRolesLevels", unfollowed := true, recurses := true, apart := false }
def FnRolesLevelsSaid : Prop := fnRolesLevelsRow.holds Tryz.pinned (OpenSpec.ofChange fnRolesLevelsSpec)

/-- ITS FALSE NEIGHBOUR: 'it returns false'. Refute it at one input. -/
def fnRolesLevelsWrong : ChangeSpec := { name := "fnRolesLevels", fn := fun _ => fun
  | [d1, d2, d3, d4] => { results := [.lit (.bool false)], args := [d1, d2, d3, d4] }
  | _ => none }
def FnRolesLevelsWrongFalsely : Prop := fnRolesLevelsRow.holds Tryz.pinned (OpenSpec.ofChange fnRolesLevelsWrong)

/-- 'laws.FnRolesOrder': WHATEVER THE INPUT: true; the input reads as it did. -/
def fnRolesOrderSpec : ChangeSpec := { name := "fnRolesOrder", fn := fun _ => fun
  | [d1, d2, d3, d4, d5, d6, d7] => { results := [.lit (.bool true)], args := [d1, d2, d3, d4, d5, d6, d7] }
  | _ => none }
def fnRolesOrderRow : OpenClaim := { program := "ytjijaciaioieaaagreat", sum := "a785a0c6c865038677f48474215ad2e565cc7cea597bcabfb3204bcdcd706a7e", func := "pub-gatewarden/laws.FnRolesOrder", spec := "fnRolesOrder", unfollowed := true, recurses := true, apart := false }
def FnRolesOrderSaid : Prop := fnRolesOrderRow.holds Tryz.pinned (OpenSpec.ofChange fnRolesOrderSpec)

/-- ITS FALSE NEIGHBOUR: 'it returns false'. Refute it at one input. -/
def fnRolesOrderWrong : ChangeSpec := { name := "fnRolesOrder", fn := fun _ => fun
  | [d1, d2, d3, d4, d5, d6, d7] => { results := [.lit (.bool false)], args := [d1, d2, d3, d4, d5, d6, d7] }
  | _ => none }
def FnRolesOrderWrongFalsely : Prop := fnRolesOrderRow.holds Tryz.pinned (OpenSpec.ofChange fnRolesOrderWrong)

/-- 'laws.FnRolesReach': WHATEVER THE INPUT: true; the input reads as it did. -/
def fnRolesReachSpec : ChangeSpec := { name := "fnRolesReach", fn := fun _ => fun
  | [d1, d2, d3, d4, d5] => { results := [.lit (.bool true)], args := [d1, d2, d3, d4, d5] }
  | _ => none }
def fnRolesReachRow : OpenClaim := { program := "ytjijaciaioieaaagreat", sum := "a785a0c6c865038677f48474215ad2e565cc7cea597bcabfb3204bcdcd706a7e", func := "pub-gatewarden/laws.FnRolesReach", spec := "fnRolesReach", unfollowed := true, recurses := true, apart := false }
def FnRolesReachSaid : Prop := fnRolesReachRow.holds Tryz.pinned (OpenSpec.ofChange fnRolesReachSpec)

/-- ITS FALSE NEIGHBOUR: 'it returns false'. Refute it at one input. -/
def fnRolesReachWrong : ChangeSpec := { name := "fnRolesReach", fn := fun _ => fun
  | [d1, d2, d3, d4, d5] => { results := [.lit (.bool false)], args := [d1, d2, d3, d4, d5] }
  | _ => none }
def FnRolesReachWrongFalsely : Prop := fnRolesReachRow.holds Tryz.pinned (OpenSpec.ofChange fnRolesReachWrong)

/-- 'laws.FnRolesUndone': WHATEVER THE INPUT: true; the input reads as it did. -/
def fnRolesUndoneSpec : ChangeSpec := { name := "fnRolesUndone", fn := fun _ => fun
  | [d1, d2, d3, d4, d5, d6, d7] => { results := [.lit (.bool true)], args := [d1, d2, d3, d4, d5, d6, d7] }
  | _ => none }
def fnRolesUndoneRow : OpenClaim := { program := "ytjijaciaioieaaagreat", sum := "a785a0c6c865038677f48474215ad2e565cc7cea597bcabfb3204bcdcd706a7e", func := "pub-gatewarden/laws.FnRolesUndone", spec := "fnRolesUndone", unfollowed := true, recurses := true, apart := false }
def FnRolesUndoneSaid : Prop := fnRolesUndoneRow.holds Tryz.pinned (OpenSpec.ofChange fnRolesUndoneSpec)

/-- ITS FALSE NEIGHBOUR: 'it returns false'. Refute it at one input. -/
def fnRolesUndoneWrong : ChangeSpec := { name := "fnRolesUndone", fn := fun _ => fun
  | [d1, d2, d3, d4, d5, d6, d7] => { results := [.lit (.bool false)], args := [d1, d2, d3, d4, d5, d6, d7] }
  | _ => none }
def FnRolesUndoneWrongFalsely : Prop := fnRolesUndoneRow.holds Tryz.pinned (OpenSpec.ofChange fnRolesUndoneWrong)

/- THE SECOND FORM. 'bulk': how many values and letters a reading holds, each counted each time it is reached (what is shared counts as often as it is met; a slice's spare places count too). A statement '..UptoSaid' is the law's where the arguments, and the package variables that the reading takes, are together of bulk at most 1048576: NARROWER than '..Said'. Prove '..Said' where nothing that the law and all that it calls make is longer than what came in: it says more and counts as full. Else prove '..UptoSaid'. A law counts once. -/
mutual
def uptoBulk {H : Type} : DataW H → Nat
  | .lit (.string bytes) => bytes.length + 1
  | .lit _ => 1
  | .nil => 1
  | .ptr d => uptoBulk d + 1
  | .slice elems spare => uptoBulkAll elems + uptoBulkAll spare + 1
  | .agg parts => uptoBulkAll parts + 1
  | .iface _ d => uptoBulk d + 1
  | .map entries => uptoBulkEntries entries + 1
  | .held _ => 1
def uptoBulkAll {H : Type} : List (DataW H) → Nat
  | [] => 0
  | d :: r => uptoBulk d + uptoBulkAll r
def uptoBulkEntries {H : Type} : List (Lit × DataW H) → Nat
  | [] => 0
  | x :: r => uptoBulkEntry x + uptoBulkEntries r
def uptoBulkEntry {H : Type} : Lit × DataW H → Nat
  | (.string bytes, d) => bytes.length + uptoBulk d + 1
  | (_, d) => uptoBulk d + 1
 end
def uptoSmall : (H : Type) → List (DataW H) → Bool := fun _ ds => decide (uptoBulkAll ds ≤ 1048576)
def OpenSpec.upto (s : _root_.Go.ChangeSpec) : _root_.Go.OpenSpec := { _root_.Go.OpenSpec.ofChange s with cond := some uptoSmall }

/-- 'laws.FnRolesDomains', WHERE WHAT IT READS IS OF BULK AT MOST 1048576: true; the input reads as it did. -/
def fnRolesDomainsUptoRow : OpenClaim := { program := "ytjijaciaioieaaagreat", sum := "a785a0c6c865038677f48474215ad2e565cc7cea597bcabfb3204bcdcd706a7e", func := "pub-gatewarden/laws.FnRolesDomains", spec := "fnRolesDomains", unfollowed := true, recurses := true, apart := false, narrowed := true }
def FnRolesDomainsUptoSaid : Prop := fnRolesDomainsUptoRow.holds Tryz.pinned (OpenSpec.upto fnRolesDomainsSpec)

/-- 'laws.FnRolesInverse', WHERE WHAT IT READS IS OF BULK AT MOST 1048576: true; the input reads as it did. -/
def fnRolesInverseUptoRow : OpenClaim := { program := "ytjijaciaioieaaagreat", sum := "a785a0c6c865038677f48474215ad2e565cc7cea597bcabfb3204bcdcd706a7e", func := "pub-gatewarden/laws.FnRolesInverse", spec := "fnRolesInverse", unfollowed := true, recurses := true, apart := false, narrowed := true }
def FnRolesInverseUptoSaid : Prop := fnRolesInverseUptoRow.holds Tryz.pinned (OpenSpec.upto fnRolesInverseSpec)

/-- 'laws.FnRolesLevels', WHERE WHAT IT READS IS OF BULK AT MOST 1048576: true; the input reads as it did. -/
def fnRolesLevelsUptoRow : OpenClaim := { program := "ytjijaciaioieaaagreat", sum := "a785a0c6c865038677f48474215ad2e565cc7cea597bcabfb3204bcdcd706a7e", func := "pub-gatewarden/laws.FnRolesLevels", spec := "fnRolesLevels", unfollowed := true, recurses := true, apart := false, narrowed := true }
def FnRolesLevelsUptoSaid : Prop := fnRolesLevelsUptoRow.holds Tryz.pinned (OpenSpec.upto fnRolesLevelsSpec)

/-- 'laws.FnRolesOrder', WHERE WHAT IT READS IS OF BULK AT MOST 1048576: true; the input reads as it did. -/
def fnRolesOrderUptoRow : OpenClaim := { program := "ytjijaciaioieaaagreat", sum := "a785a0c6c865038677f48474215ad2e565cc7cea597bcabfb3204bcdcd706a7e", func := "pub-gatewarden/laws.FnRolesOrder", spec := "fnRolesOrder", unfollowed := true, recurses := true, apart := false, narrowed := true }
def FnRolesOrderUptoSaid : Prop := fnRolesOrderUptoRow.holds Tryz.pinned (OpenSpec.upto fnRolesOrderSpec)

/-- 'laws.FnRolesReach', WHERE WHAT IT READS IS OF BULK AT MOST 1048576: true; the input reads as it did. -/
def fnRolesReachUptoRow : OpenClaim := { program := "ytjijaciaioieaaagreat", sum := "a785a0c6c865038677f48474215ad2e565cc7cea597bcabfb3204bcdcd706a7e", func := "pub-gatewarden/laws.FnRolesReach", spec := "fnRolesReach", unfollowed := true, recurses := true, apart := false, narrowed := true }
def FnRolesReachUptoSaid : Prop := fnRolesReachUptoRow.holds Tryz.pinned (OpenSpec.upto fnRolesReachSpec)

/-- 'laws.FnRolesUndone', WHERE WHAT IT READS IS OF BULK AT MOST 1048576: true; the input reads as it did. -/
def fnRolesUndoneUptoRow : OpenClaim := { program := "ytjijaciaioieaaagreat", sum := "a785a0c6c865038677f48474215ad2e565cc7cea597bcabfb3204bcdcd706a7e", func := "pub-gatewarden/laws.FnRolesUndone", spec := "fnRolesUndone", unfollowed := true, recurses := true, apart := false, narrowed := true }
def FnRolesUndoneUptoSaid : Prop := fnRolesUndoneUptoRow.holds Tryz.pinned (OpenSpec.upto fnRolesUndoneSpec)

end Rows
end Go.Proofs.YtjijaciaioieaaaGreat
