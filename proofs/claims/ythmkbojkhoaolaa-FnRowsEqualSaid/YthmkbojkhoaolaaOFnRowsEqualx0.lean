/- The machine side of laws.FnRowsEqual: each function of this text answers what its Lean function answers (written for this claim by a program of this session over the kit's print; no condition beyond what each theorem says). -/
import Derived.Test.YthmkbojkhoaolaaProg
import Derived.Below
import Derived.Deep.Draws
import Derived.Deep.AppendLies
import Derived.Maps.AppendAt
import Derived.OwnWalk
import Derived.Laws.BytesArg
import Derived.Laws.MakeOwn
import Derived.Laws.OwnMore
import Derived.Deep.OwnRows
import Derived.Tactics
import Derived.Lib.ConvBytes
import Derived.Laws.Slices
import Derived.WalkKit
import Derived.KernelRfl
import Derived.RowKit3
import Derived.Deep.LoopGhost
import Derived.Deep.QuietTactic
import Derived.BigQuiet
import Derived.WideLaws
import Derived.Deep.DeepCutAuto
import Derived.Deep.CutBlock
import Derived.Deep.RegionHeld3
import Derived.Laws.Rows
import Derived.Lib.AppendStr
import Derived.ArgAppend
import Derived.Laws.IdiomCopy
import Derived.OrdersHeld
import Derived.Laws.BitsLemmas
import Derived.RowKit
import Derived.Shelf.GgSortFunc.Tiny
import Derived.Sort.OwnSorted
import Derived.Sort.OwnSortedInts
import Derived.Sort.WalkA
import Derived.Test.YthmkbojkhoaolaaBase
import Derived.Test.YthmkbojkhoaolaaShelf
import Derived.Test.YthmkbojkhoaolaaWWords
import Derived.Test.YthmkbojkhoaolaaWLast
import Derived.Test.YthmkbojkhoaolaaWTab
import Derived.Test.YthmkbojkhoaolaaWFour
import Derived.Test.YthmkbojkhoaolaaWQPut
import Derived.Test.YthmkbojkhoaolaaWApart
import Derived.Test.YthmkbojkhoaolaaWArr
import Derived.Test.YthmkbojkhoaolaaWZeros
import Derived.Test.YthmkbojkhoaolaaWFoot
import Derived.Test.YthmkbojkhoaolaaWKept
import Derived.Test.YthmkbojkhoaolaaWShare
import Derived.Test.YthmkbojkhoaolaaWN
import Derived.Test.YthmkbojkhoaolaaWFootNe
import Derived.Test.YthmkbojkhoaolaaWAt
import Derived.Test.YthmkbojkhoaolaaWEqStruct
import Derived.Test.YthmkbojkhoaolaaWRepsOne
import Derived.Test.YthmkbojkhoaolaaWInv
import Derived.Test.YthmkbojkhoaolaaWInvWords
import Derived.Test.YthmkbojkhoaolaaWGuard
import Derived.Test.YthmkbojkhoaolaaWNEv
import Derived.Test.YthmkbojkhoaolaaWMore
namespace Go.Proofs.Ythmkbojkhoaolaa.PFnRowsEqual
open Go.RowKit Go.Proofs.YthmkbojkhoaolaaW.PrintWords Go.Proofs.YthmkbojkhoaolaaW.PrintLast Go.Proofs.YthmkbojkhoaolaaW.PrintMore
attribute [local go_sem] max2_int min2_int max_two min_two max_three min_three max_four min_four   -- for this text's walks alone
set_option linter.unusedVariables false
set_option linter.unusedSimpArgs false



def errW : Option Int → Value
  | none => .nilIface
  | some c => .iface 0 (.int .i64 c)
theorem errW_none : errW none = .nilIface := rfl
theorem errW_some (c : Int) : errW (some c) = .iface 0 (.int .i64 c) := rfl

theorem info9 : (Try.prog.info? 9).map (fun i => (i.zero, i.size, i.bytes)) = some (some (.string ⟨#[]⟩), 1, 16) := by kernel_rfl
theorem info22 : (Try.prog.info? 22).map (fun i => (i.zero, i.size, i.bytes)) = some (some (.slice none 0 0), 1, 24) := by kernel_rfl
-- the values' own types
def rd_L1 (xs : List (List ByteArray)) (i : Int) : (List ByteArray) := xs.getD i.toNat ([] : List ByteArray)
theorem at_L1 {w : World} {A : Option Addr} {n : Nat} {xs : List (List ByteArray)} (h : Kd.C (Kd.slice 9 Kd.string) w A n xs) (i : Int) (h0 : 0 ≤ i) (h1 : i < n) : ∃ ad A0 c0, A = some ad ∧ w.cell? (ad.add i.toNat) = some (.slice A0 (rd_L1 xs i).length c0) ∧ (rd_L1 xs i).length ≤ c0 ∧ Kd.string.C w A0 (rd_L1 xs i).length (rd_L1 xs i) := by
  obtain ⟨ad, c, e, _, hK, hc0⟩ := Kd.C_get h ([] : List ByteArray) i h0 h1
  have hc : ∀ j u, c[j]? = some u → w.cell? (ad.add (i.toNat * 1 + j)) = some u := hc0
  obtain ⟨A0, c0, rfl, l0, g0⟩ := hK
  exact ⟨ad, A0, c0, e, by have hq := hc 0 _ rfl; rwa [Nat.mul_one, Nat.add_zero] at hq, l0, g0⟩

end Go.Proofs.Ythmkbojkhoaolaa.PFnRowsEqual
