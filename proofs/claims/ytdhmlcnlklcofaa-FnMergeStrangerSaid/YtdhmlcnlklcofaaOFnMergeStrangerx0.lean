/- The machine side of laws.FnMergeStranger: each function of this text answers what its Lean function answers (written for this claim by a program of this session over the kit's print; no condition beyond what each theorem says). -/
import Derived.Test.YtdhmlcnlklcofaaProg
import Derived.Below
import Derived.Deep.Draws
import Derived.Deep.AppendLies
import Derived.Maps.AppendAt
import Derived.OwnWalk
import Derived.Laws.BytesArg
import Derived.Laws.MakeOwn
import Derived.Laws.OwnMore
import Derived.Deep.OwnRows
import Derived.Tactics
import Derived.Lib.ConvBytes
import Derived.Laws.Slices
import Derived.WalkKit
import Derived.KernelRfl
import Derived.RowKit3
import Derived.Deep.LoopGhost
import Derived.Deep.QuietTactic
import Derived.BigQuiet
import Derived.WideLaws
import Derived.Deep.DeepCutAuto
import Derived.Deep.CutBlock
import Derived.Deep.RegionHeld3
import Derived.Laws.Rows
import Derived.Lib.AppendStr
import Derived.ArgAppend
import Derived.Laws.IdiomCopy
import Derived.OrdersHeld
import Derived.Laws.BitsLemmas
import Derived.RowKit
import Derived.Test.YtdhmlcnlklcofaaWWords
import Derived.Test.YtdhmlcnlklcofaaWLast
import Derived.Test.YtdhmlcnlklcofaaWTab
import Derived.Test.YtdhmlcnlklcofaaWFour
import Derived.Test.YtdhmlcnlklcofaaWQPut
import Derived.Test.YtdhmlcnlklcofaaWApart
import Derived.Test.YtdhmlcnlklcofaaWArr
import Derived.Test.YtdhmlcnlklcofaaWZeros
import Derived.Test.YtdhmlcnlklcofaaWFoot
import Derived.Test.YtdhmlcnlklcofaaWKept
import Derived.Test.YtdhmlcnlklcofaaWShare
import Derived.Test.YtdhmlcnlklcofaaWN
import Derived.Test.YtdhmlcnlklcofaaWFootNe
import Derived.Test.YtdhmlcnlklcofaaWAt
import Derived.Test.YtdhmlcnlklcofaaWEqStruct
import Derived.Test.YtdhmlcnlklcofaaWRepsOne
import Derived.Test.YtdhmlcnlklcofaaWInv
import Derived.Test.YtdhmlcnlklcofaaWInvWords
import Derived.Test.YtdhmlcnlklcofaaWGuard
import Derived.Test.YtdhmlcnlklcofaaWNEv
import Derived.Test.YtdhmlcnlklcofaaWMore
namespace Go.Proofs.Ytdhmlcnlklcofaa.PFnMergeStranger
open Go.RowKit Go.Proofs.YtdhmlcnlklcofaaW.PrintWords Go.Proofs.YtdhmlcnlklcofaaW.PrintLast Go.Proofs.YtdhmlcnlklcofaaW.PrintMore
attribute [local go_sem] max2_int min2_int max_two min_two max_three min_three max_four min_four   -- for this text's walks alone
set_option linter.unusedVariables false
set_option linter.unusedSimpArgs false



/-- The bits of the numbers 0 and 1 as floats. -/
def fb (x : Int) : Nat := if x = 0 then 0 else 4607182418800017408
def Kd_flt : Kd Int := Kd.scalar (fun x => Value.float .f64 (fb x)) (fun _ => rfl)
theorem at_flt {w : World} {A : Option Addr} {n : Nat} {xs : List Int} (h : Kd_flt.C w A n xs) (i : Int) (h0 : 0 ≤ i) (h1 : i < n) : ∃ ad, A = some ad ∧ w.cell? (ad.add i.toNat) = some (.float .f64 (fb (rd xs i))) := by
  have e : rd xs i = rdOf 0 xs i := rfl
  rw [e]
  exact ReadsOf.at_ (Kd.reads_of_C (enc := fun x => Value.float .f64 (fb x)) (d := (0 : Int)) (h1 := fun _ => rfl) h) i h0 h1
theorem fb_zero : fb 0 = 0 := rfl
theorem fb_order (x : Int) : FloatKind.f64.format.order (fb x) 0 = if x = 0 then some .eq else some .gt := by
  by_cases h : x = 0
  · rw [if_pos h, h]; rfl
  · rw [if_neg h]; unfold fb; rw [if_neg h]; rfl
theorem fb_eq (x : Int) : (FloatKind.f64.format.order (fb x) 0 == some Ordering.eq) = (x == 0) := by
  rw [fb_order]
  by_cases h : x = 0
  · rw [if_pos h, h]; rfl
  · rw [if_neg h]
    have : (x == 0) = false := by simpa using h
    rw [this]; rfl
theorem fb_neq (x : Int) : (FloatKind.f64.format.order (fb x) 0 != some Ordering.eq) = (x != 0) := by
  rw [fb_order]
  by_cases h : x = 0
  · rw [if_pos h, h]; rfl
  · rw [if_neg h]
    have : (x != 0) = true := by simpa using h
    rw [this]; rfl
theorem bin_fb_eq (t : TypeId) (x : Int) : binOp .eql t (.float .f64 (fb x)) (.float .f64 0) = pure (.bool (x == 0)) := by
  show Op.floatCmp .eql .f64 (fb x) 0 = _
  simp only [Op.floatCmp, fb_eq]
theorem bin_fb_neq (t : TypeId) (x : Int) : binOp .neq t (.float .f64 (fb x)) (.float .f64 0) = pure (.bool (x != 0)) := by
  show Op.floatCmp .neq .f64 (fb x) 0 = _
  simp only [Op.floatCmp, fb_neq]

def errW : Option Int → Value
  | none => .nilIface
  | some c => .iface 0 (.int .i64 c)
theorem errW_none : errW none = .nilIface := rfl
theorem errW_some (c : Int) : errW (some c) = .iface 0 (.int .i64 c) := rfl

theorem info3 : (Try.prog.info? 3).map (fun i => (i.zero, i.size, i.bytes)) = some (some (.int .i64 0), 1, 8) := by kernel_rfl
theorem info4 : (Try.prog.info? 4).map (fun i => (i.zero, i.size, i.bytes)) = some (some (.bool false), 1, 1) := by kernel_rfl
theorem info9 : (Try.prog.info? 9).map (fun i => (i.zero, i.size, i.bytes)) = some (some (.string ⟨#[]⟩), 1, 16) := by kernel_rfl
theorem info66 : (Try.prog.info? 66).map (fun i => (i.zero, i.size, i.bytes)) = some (some (.int .i64 0), 1, 8) := by kernel_rfl
theorem info68 : (Try.prog.info? 68).map (fun i => (i.zero, i.size, i.bytes)) = some (some (.float .f64 (fb 0)), 1, 8) := by kernel_rfl
-- the values' own types

end Go.Proofs.Ytdhmlcnlklcofaa.PFnMergeStranger
