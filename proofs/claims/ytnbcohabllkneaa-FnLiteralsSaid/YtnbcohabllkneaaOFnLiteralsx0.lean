/- The machine side of laws.FnLiterals: each function of this text answers what its Lean function answers (written for this claim by a program of this session over the kit's print; no condition beyond what each theorem says). -/
import Derived.Test.YtnbcohabllkneaaProg
import Derived.Below
import Derived.Deep.Draws
import Derived.Deep.AppendLies
import Derived.Maps.AppendAt
import Derived.OwnWalk
import Derived.Laws.BytesArg
import Derived.Laws.MakeOwn
import Derived.Laws.OwnMore
import Derived.Deep.OwnRows
import Derived.Tactics
import Derived.Lib.ConvBytes
import Derived.Laws.Slices
import Derived.WalkKit
import Derived.KernelRfl
import Derived.RowKit3
import Derived.Deep.LoopGhost
import Derived.Deep.QuietTactic
import Derived.BigQuiet
import Derived.WideLaws
import Derived.Deep.DeepCutAuto
import Derived.Deep.CutBlock
import Derived.Deep.RegionHeld3
import Derived.Laws.Rows
import Derived.Lib.AppendStr
import Derived.ArgAppend
import Derived.Laws.IdiomCopy
import Derived.OrdersHeld
import Derived.Laws.BitsLemmas
import Derived.RowKit
import Derived.ChangeAlike
import Derived.Lib.FrozenHead
import Derived.Maps.AppendAt
import Derived.Maps.OwnSet
import Derived.OneCell
import Derived.RegionTactic
import Derived.StillTailTactics
import Derived.Test.YtnbcohabllkneaaShelf
import Derived.Test.YtnbcohabllkneaaWWords
import Derived.Test.YtnbcohabllkneaaWLast
import Derived.Test.YtnbcohabllkneaaWTab
import Derived.Test.YtnbcohabllkneaaWFour
import Derived.Test.YtnbcohabllkneaaWQPut
import Derived.Test.YtnbcohabllkneaaWApart
import Derived.Test.YtnbcohabllkneaaWArr
import Derived.Test.YtnbcohabllkneaaWZeros
import Derived.Test.YtnbcohabllkneaaWFoot
import Derived.Test.YtnbcohabllkneaaWKept
import Derived.Test.YtnbcohabllkneaaWShare
import Derived.Test.YtnbcohabllkneaaWN
import Derived.Test.YtnbcohabllkneaaWFootNe
import Derived.Test.YtnbcohabllkneaaWAt
import Derived.Test.YtnbcohabllkneaaWEqStruct
import Derived.Test.YtnbcohabllkneaaWRepsOne
import Derived.Test.YtnbcohabllkneaaWInv
import Derived.Test.YtnbcohabllkneaaWInvWords
import Derived.Test.YtnbcohabllkneaaWGuard
import Derived.Test.YtnbcohabllkneaaWNEv
import Derived.Test.YtnbcohabllkneaaWMore
namespace Go.Proofs.Ytnbcohabllkneaa.PFnLiterals
open Go.RowKit Go.Proofs.YtnbcohabllkneaaW.PrintWords Go.Proofs.YtnbcohabllkneaaW.PrintLast Go.Proofs.YtnbcohabllkneaaW.PrintMore
attribute [local go_sem] max2_int min2_int max_two min_two max_three min_three max_four min_four   -- for this text's walks alone
set_option linter.unusedVariables false
set_option linter.unusedSimpArgs false



def errW : Option Int → Value
  | none => .nilIface
  | some c => .iface 0 (.int .i64 c)
theorem errW_none : errW none = .nilIface := rfl
theorem errW_some (c : Int) : errW (some c) = .iface 0 (.int .i64 c) := rfl

theorem info9 : (Try.prog.info? 9).map (fun i => (i.zero, i.size, i.bytes)) = some (some (.string ⟨#[]⟩), 1, 16) := by kernel_rfl
-- the values' own types

end Go.Proofs.Ytnbcohabllkneaa.PFnLiterals
