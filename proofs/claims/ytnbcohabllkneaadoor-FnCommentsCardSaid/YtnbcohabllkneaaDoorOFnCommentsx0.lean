/- The machine side of laws.FnComments: each function of this text answers what its Lean function answers (written for this claim by a program of this session over the kit's print; no condition beyond what each theorem says). -/
import Derived.Test.YtnbcohabllkneaaDoorProg
import Derived.Below
import Derived.Deep.Draws
import Derived.Deep.AppendLies
import Derived.Maps.AppendAt
import Derived.OwnWalk
import Derived.Laws.BytesArg
import Derived.Laws.MakeOwn
import Derived.Laws.OwnMore
import Derived.Deep.OwnRows
import Derived.Tactics
import Derived.Lib.ConvBytes
import Derived.Laws.Slices
import Derived.WalkKit
import Derived.KernelRfl
import Derived.RowKit3
import Derived.Deep.LoopGhost
import Derived.Deep.QuietTactic
import Derived.BigQuiet
import Derived.WideLaws
import Derived.Deep.DeepCutAuto
import Derived.Deep.CutBlock
import Derived.Deep.RegionHeld3
import Derived.Laws.Rows
import Derived.Lib.AppendStr
import Derived.ArgAppend
import Derived.Laws.IdiomCopy
import Derived.OrdersHeld
import Derived.Laws.BitsLemmas
import Derived.RowKit
import Derived.Lib.LaidTab
import Derived.Test.YtnbcohabllkneaaDoorShelf
import Derived.Test.YtnbcohabllkneaaDoorWWords
import Derived.Test.YtnbcohabllkneaaDoorWLast
import Derived.Test.YtnbcohabllkneaaDoorWTab
import Derived.Test.YtnbcohabllkneaaDoorWFour
import Derived.Test.YtnbcohabllkneaaDoorWQPut
import Derived.Test.YtnbcohabllkneaaDoorWApart
import Derived.Test.YtnbcohabllkneaaDoorWArr
import Derived.Test.YtnbcohabllkneaaDoorWZeros
import Derived.Test.YtnbcohabllkneaaDoorWFoot
import Derived.Test.YtnbcohabllkneaaDoorWKept
import Derived.Test.YtnbcohabllkneaaDoorWShare
import Derived.Test.YtnbcohabllkneaaDoorWN
import Derived.Test.YtnbcohabllkneaaDoorWFootNe
import Derived.Test.YtnbcohabllkneaaDoorWAt
import Derived.Test.YtnbcohabllkneaaDoorWEqStruct
import Derived.Test.YtnbcohabllkneaaDoorWRepsOne
import Derived.Test.YtnbcohabllkneaaDoorWInv
import Derived.Test.YtnbcohabllkneaaDoorWInvWords
import Derived.Test.YtnbcohabllkneaaDoorWGuard
import Derived.Test.YtnbcohabllkneaaDoorWNEv
import Derived.Test.YtnbcohabllkneaaDoorWMore
namespace Go.Proofs.YtnbcohabllkneaaDoor.PFnComments
open Go.RowKit Go.Proofs.YtnbcohabllkneaaDoorW.PrintWords Go.Proofs.YtnbcohabllkneaaDoorW.PrintLast Go.Proofs.YtnbcohabllkneaaDoorW.PrintMore
attribute [local go_sem] max2_int min2_int max_two min_two max_three min_three max_four min_four   -- for this text's walks alone
set_option linter.unusedVariables false
set_option linter.unusedSimpArgs false



def errW : Option Int → Value
  | none => .nilIface
  | some c => .iface 0 (.int .i64 c)
theorem errW_none : errW none = .nilIface := rfl
theorem errW_some (c : Int) : errW (some c) = .iface 0 (.int .i64 c) := rfl

theorem info9 : (Tryd.prog.info? 9).map (fun i => (i.zero, i.size, i.bytes)) = some (some (.string ⟨#[]⟩), 1, 16) := by kernel_rfl
-- the values' own types

end Go.Proofs.YtnbcohabllkneaaDoor.PFnComments
