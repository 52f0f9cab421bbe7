/- The machine side of laws.FnModelAdd: each function of this text answers what its Lean function answers (written for this claim by a program of this session over the kit's print; no condition beyond what each theorem says). -/
import Derived.Test.YtjglpjlbnmpdfaaGreatDoorOFnModelAddx0
namespace Go.Proofs.YtjglpjlbnmpdfaaGreatDoor.PFnModelAdd
open Go.RowKit Go.Proofs.YtjglpjlbnmpdfaaGreatDoorW.PrintWords Go.Proofs.YtjglpjlbnmpdfaaGreatDoorW.PrintLast Go.Proofs.YtjglpjlbnmpdfaaGreatDoorW.PrintMore
attribute [local go_sem] max2_int min2_int max_two min_two max_three min_three max_four min_four   -- for this text's walks alone
set_option linter.unusedVariables false
set_option linter.unusedSimpArgs false

theorem eqA28 (d : Nat) (w : World) (x0 y0 : ByteArray) (x1 y1 : ByteArray) (x2 y2 : ByteArray) :
  (Op.equalIn (d + 2) 28 (.agg #[.string x0, .string x1, .string x2]) (.agg #[.string y0, .string y1, .string y2])).run Tryz.prog w = .ok (x0.toList == y0.toList && (x1.toList == y1.toList && (x2.toList == y2.toList))) w := by
 refine eqA_of Tryz.underlying28 (by kernel_rfl) ?_
 refine eqf_cons (by rfl) (by go_simp; rfl) (by go_simp; rfl) (by go_simp) ?_
 refine eqf_cons (by rfl) (by go_simp; rfl) (by go_simp; rfl) (by go_simp) ?_
 exact eqf_last (by rfl) (by go_simp; rfl) (by go_simp; rfl) (by go_simp)
end Go.Proofs.YtjglpjlbnmpdfaaGreatDoor.PFnModelAdd
