/- The machine side of laws.FnRolesUndone: the law itself answers what its Lean function answers. No condition beyond what each theorem says. -/
import Derived.Test.YtjijaciaioieaaaGreatOFnRolesOrderx1
import Derived.Test.YtjijaciaioieaaaGreatOFnRolesOrderx2
import Derived.Test.YtjijaciaioieaaaGreatOFnRolesOrderx3
import Derived.Test.YtjijaciaioieaaaGreatOFnRolesOrderx4
import Derived.Test.YtjijaciaioieaaaGreatOFnRolesOrderx85
import Derived.Test.YtjijaciaioieaaaGreatOFnRolesOrderx90
namespace Go.Proofs.YtjijaciaioieaaaGreat.PFnRolesOrder
open Go.RowKit Go.Proofs.YtjijaciaioieaaaGreatW.PrintWords Go.Proofs.YtjijaciaioieaaaGreatW.PrintLast Go.Proofs.YtjijaciaioieaaaGreatW.PrintMore
attribute [local go_sem] max2_int min2_int max_two min_two max_three min_three max_four min_four   -- for this text's walks alone
set_option linter.unusedVariables false
set_option linter.unusedSimpArgs false
theorem eqA28 (d : Nat) (w : World) (x0 y0 : ByteArray) (x1 y1 : ByteArray) (x2 y2 : ByteArray) :
  (Op.equalIn (d + 2) 28 (.agg #[.string x0, .string x1, .string x2]) (.agg #[.string y0, .string y1, .string y2])).run Tryz.prog w = .ok (x0.toList == y0.toList && (x1.toList == y1.toList && (x2.toList == y2.toList))) w := by
 refine eqA_of Tryz.underlying28 (by kernel_rfl) ?_
 refine eqf_cons (by rfl) (by go_simp; rfl) (by go_simp; rfl) (by go_simp) ?_
 refine eqf_cons (by rfl) (by go_simp; rfl) (by go_simp; rfl) (by go_simp) ?_
 exact eqf_last (by rfl) (by go_simp; rfl) (by go_simp; rfl) (by go_simp)
attribute [local go_sem high] eqA28
/-! ### laws_FnRolesUndone: function 8 -/
mutual
def laws_FnRolesUndone.j0 : Nat → Int → Bool → List (S28) → List (S28) → ByteArray → ByteArray → ByteArray → Bool → Option (Bool)
 | 0, _, _, _, _, _, _, _, _ => none
 | k + 1, x0, x1, x2, x3, x4, x5, x6, x47 => if x47 = true then (some true) else (if x0 < 1 then (laws_FnRolesUndone.j1 k x0 x1 x2 x3 x4 x5 x6 true) else (if x0 > 20 then (laws_FnRolesUndone.j1 k x0 x1 x2 x3 x4 x5 x6 true) else ((laws_links.f k x2 x1).bind fun t183 => (if t183 = true then ((laws_links.f k x3 x1).bind fun t184 => (if t184 = true then ((laws_named.f k x4 x5 x6 x1).bind fun t185 => (laws_FnRolesUndone.j1 k x0 x1 x2 x3 x4 x5 x6 (!t185))) else (laws_FnRolesUndone.j1 k x0 x1 x2 x3 x4 x5 x6 true))) else (laws_FnRolesUndone.j1 k x0 x1 x2 x3 x4 x5 x6 true)))))
def laws_FnRolesUndone.j1 : Nat → Int → Bool → List (S28) → List (S28) → ByteArray → ByteArray → ByteArray → Bool → Option (Bool)
 | 0, _, _, _, _, _, _, _, _ => none
 | k + 1, x0, x1, x2, x3, x4, x5, x6, x73 => if x73 = true then ((laws_awakeRoles.f k).bind fun t186 => (some t186)) else (laws_FnRolesUndone.l0 k x0 x1 x2 x3 x4 x5 x6 0)
def laws_FnRolesUndone.l0 : Nat → Int → Bool → List (S28) → List (S28) → ByteArray → ByteArray → ByteArray → Int → Option (Bool)
 | 0, _, _, _, _, _, _, _, _ => none
 | k + 1, x0, x1, x2, x3, x4, x5, x6, x15 => if x15 < (x3.length : Int) then (laws_FnRolesUndone.l1 k x0 x1 x2 x3 x4 x5 x6 x15 0) else ((laws_added.f k x2).bind fun t193 => ((laws_added.f k x3).bind fun t196 => (if t193.length + t196.length < 2513169434916 then (laws_FnRolesUndone.l3 k x0 x1 x2 x3 x4 x5 x6 (t193 ++ t196) 0) else (none))))
def laws_FnRolesUndone.l1 : Nat → Int → Bool → List (S28) → List (S28) → ByteArray → ByteArray → ByteArray → Int → Int → Option (Bool)
 | 0, _, _, _, _, _, _, _, _, _ => none
 | k + 1, x0, x1, x2, x3, x4, x5, x6, x15, x16 => if x16 < (x2.length : Int) then (if 0 ≤ x16 then (if 0 ≤ x15 then (if x15 < (x3.length : Int) then (if ((((rd_T28 x2 x16).f0).toList) == (((rd_T28 x3 x15).f0).toList) && ((((rd_T28 x2 x16).f1).toList) == (((rd_T28 x3 x15).f1).toList) && ((((rd_T28 x2 x16).f2).toList) == (((rd_T28 x3 x15).f2).toList)))) = true then ((laws_awakeRoles.f k).bind fun t189 => (some t189)) else (laws_FnRolesUndone.l1 k x0 x1 x2 x3 x4 x5 x6 x15 (wrap64 (x16 + 1)))) else (none)) else (none)) else (none)) else (laws_FnRolesUndone.l2 k x0 x1 x2 x3 x4 x5 x6 x15 0)
def laws_FnRolesUndone.l2 : Nat → Int → Bool → List (S28) → List (S28) → ByteArray → ByteArray → ByteArray → Int → Int → Option (Bool)
 | 0, _, _, _, _, _, _, _, _, _ => none
 | k + 1, x0, x1, x2, x3, x4, x5, x6, x15, x17 => if x17 < x15 then (if 0 ≤ x17 then (if x17 < (x3.length : Int) then (if 0 ≤ x15 then (if x15 < (x3.length : Int) then (if ((((rd_T28 x3 x17).f0).toList) == (((rd_T28 x3 x15).f0).toList) && ((((rd_T28 x3 x17).f1).toList) == (((rd_T28 x3 x15).f1).toList) && ((((rd_T28 x3 x17).f2).toList) == (((rd_T28 x3 x15).f2).toList)))) = true then ((laws_awakeRoles.f k).bind fun t192 => (some t192)) else (laws_FnRolesUndone.l2 k x0 x1 x2 x3 x4 x5 x6 x15 (wrap64 (x17 + 1)))) else (none)) else (none)) else (none)) else (none)) else (laws_FnRolesUndone.l0 k x0 x1 x2 x3 x4 x5 x6 (wrap64 (x15 + 1)))
def laws_FnRolesUndone.l3 : Nat → Int → Bool → List (S28) → List (S28) → ByteArray → ByteArray → ByteArray → List (S54) → Int → Option (Bool)
 | 0, _, _, _, _, _, _, _, _, _ => none
 | k + 1, x0, x1, x2, x3, x4, x5, x6, x18, x19 => if x19 < (x3.length : Int) then (if 0 ≤ x19 then (if x18.length < 2513169434916 then (laws_FnRolesUndone.l3 k x0 x1 x2 x3 x4 x5 x6 (x18 ++ [(⟨1, (⟨(rd_T28 x3 x19).f0, (rd_T28 x3 x19).f1, (rd_T28 x3 x19).f2⟩ : S28)⟩ : S54)]) (wrap64 (x19 + 1))) else (none)) else (none)) else ((laws_added.f k x2).bind fun t206 => ((laws_all.f x4 x5 x6).bind fun t209 => ((impl_Roles.f k x0 x1 0 0 t206 t209).bind fun bt212 => ((laws_all.f x4 x5 x6).bind fun t218 => ((impl_Roles.f k x0 x1 0 0 x18 t218).bind fun bt221 => (laws_FnRolesUndone.l4 k x18 bt212.2 bt221.1 bt221.2 0))))))
def laws_FnRolesUndone.l4 : Nat → List (S54) → List (S40) → List Int → List (S40) → Int → Option (Bool)
 | 0, _, _, _, _, _ => none
 | k + 1, x18, x21, x22, x23, x24 => if x24 < (x22.length : Int) then (if 0 ≤ x24 then (if (rd x22 x24) = 0 then (laws_FnRolesUndone.l4 k x18 x21 x22 x23 (wrap64 (x24 + 1))) else (some false)) else (none)) else (if (x22.length : Int) = (x18.length : Int) then (if (x21.length : Int) = 8 then ((laws_sameTold.f k x21 x23).bind fun t228 => (if t228 = true then ((laws_awakeRoles.f k).bind fun t229 => (some t229)) else (some false))) else (some false)) else (some false))
end
def laws_FnRolesUndone.f (k : Nat) (a0 : Int) (a1 : Bool) (l2 : List (S28)) (l3 : List (S28)) (a4 : ByteArray) (a5 : ByteArray) (a6 : ByteArray) : Option (Bool) := (laws_zzFits25.f k l2).bind fun t181 => (if t181 = true then ((laws_zzFits25.f k l3).bind fun t182 => (if t182 = true then (if (a4.size : Int) > 2147483647 then (laws_FnRolesUndone.j0 k a0 a1 l2 l3 a4 a5 a6 true) else (if (a5.size : Int) > 2147483647 then (laws_FnRolesUndone.j0 k a0 a1 l2 l3 a4 a5 a6 true) else (laws_FnRolesUndone.j0 k a0 a1 l2 l3 a4 a5 a6 (decide ((a6.size : Int) > 2147483647))))) else (laws_FnRolesUndone.j0 k a0 a1 l2 l3 a4 a5 a6 true))) else (laws_FnRolesUndone.j0 k a0 a1 l2 l3 a4 a5 a6 true))
theorem laws_FnRolesUndone.mono_l : ∀ k, (∀ y0 y1 y2 y3 y4 y5 y6 y7, LeO (laws_FnRolesUndone.j0 k y0 y1 y2 y3 y4 y5 y6 y7) (laws_FnRolesUndone.j0 (k + 1) y0 y1 y2 y3 y4 y5 y6 y7)) ∧ (∀ y0 y1 y2 y3 y4 y5 y6 y7, LeO (laws_FnRolesUndone.j1 k y0 y1 y2 y3 y4 y5 y6 y7) (laws_FnRolesUndone.j1 (k + 1) y0 y1 y2 y3 y4 y5 y6 y7)) ∧ (∀ y0 y1 y2 y3 y4 y5 y6 y7, LeO (laws_FnRolesUndone.l0 k y0 y1 y2 y3 y4 y5 y6 y7) (laws_FnRolesUndone.l0 (k + 1) y0 y1 y2 y3 y4 y5 y6 y7)) ∧ (∀ y0 y1 y2 y3 y4 y5 y6 y7 y8, LeO (laws_FnRolesUndone.l1 k y0 y1 y2 y3 y4 y5 y6 y7 y8) (laws_FnRolesUndone.l1 (k + 1) y0 y1 y2 y3 y4 y5 y6 y7 y8)) ∧ (∀ y0 y1 y2 y3 y4 y5 y6 y7 y8, LeO (laws_FnRolesUndone.l2 k y0 y1 y2 y3 y4 y5 y6 y7 y8) (laws_FnRolesUndone.l2 (k + 1) y0 y1 y2 y3 y4 y5 y6 y7 y8)) ∧ (∀ y0 y1 y2 y3 y4 y5 y6 y7 y8, LeO (laws_FnRolesUndone.l3 k y0 y1 y2 y3 y4 y5 y6 y7 y8) (laws_FnRolesUndone.l3 (k + 1) y0 y1 y2 y3 y4 y5 y6 y7 y8)) ∧ (∀ y0 y1 y2 y3 y4, LeO (laws_FnRolesUndone.l4 k y0 y1 y2 y3 y4) (laws_FnRolesUndone.l4 (k + 1) y0 y1 y2 y3 y4))
 | 0 => ⟨fun _ _ _ _ _ _ _ _ r h => by simp [laws_FnRolesUndone.j0] at h, fun _ _ _ _ _ _ _ _ r h => by simp [laws_FnRolesUndone.j1] at h, fun _ _ _ _ _ _ _ _ r h => by simp [laws_FnRolesUndone.l0] at h, fun _ _ _ _ _ _ _ _ _ r h => by simp [laws_FnRolesUndone.l1] at h, fun _ _ _ _ _ _ _ _ _ r h => by simp [laws_FnRolesUndone.l2] at h, fun _ _ _ _ _ _ _ _ _ r h => by simp [laws_FnRolesUndone.l3] at h, fun _ _ _ _ _ r h => by simp [laws_FnRolesUndone.l4] at h⟩
 | k + 1 => by
  obtain ⟨ih0, ih1, ih2, ih3, ih4, ih5, ih6⟩ := laws_FnRolesUndone.mono_l k
  refine ⟨?_, ?_, ?_, ?_, ?_, ?_, ?_⟩
  ·intro y0 y1 y2 y3 y4 y5 y6 y7
   unfold laws_FnRolesUndone.j0
   repeat' first
   | (with_reducible exact ih0 _ _ _ _ _ _ _ _)
   | (with_reducible exact ih1 _ _ _ _ _ _ _ _)
   | (with_reducible exact ih2 _ _ _ _ _ _ _ _)
   | (with_reducible exact ih3 _ _ _ _ _ _ _ _ _)
   | (with_reducible exact ih4 _ _ _ _ _ _ _ _ _)
   | (with_reducible exact ih5 _ _ _ _ _ _ _ _ _)
   | (with_reducible exact ih6 _ _ _ _ _)
   | (with_reducible exact impl_Roles.mono _ _ _ _ _ _ _)
   | (with_reducible exact laws_added.mono _ _)
   | (with_reducible exact laws_awakeRoles.mono _)
   | (with_reducible exact laws_links.mono _ _ _)
   | (with_reducible exact laws_named.mono _ _ _ _ _)
   | (with_reducible exact laws_sameTold.mono _ _ _)
   | (with_reducible exact laws_zzFits25.mono _ _)
   | (with_reducible exact LeO.refl _)
   | (with_reducible exact LeO.none _)
   | (with_reducible refine LeO.ite ?_ ?_)
   | (with_reducible refine LeO.bind ?_ (fun _ => ?_))
   | exact ih0 _ _ _ _ _ _ _ _
   | exact ih1 _ _ _ _ _ _ _ _
   | exact ih2 _ _ _ _ _ _ _ _
   | exact ih3 _ _ _ _ _ _ _ _ _
   | exact ih4 _ _ _ _ _ _ _ _ _
   | exact ih5 _ _ _ _ _ _ _ _ _
   | exact ih6 _ _ _ _ _
   | exact impl_Roles.mono _ _ _ _ _ _ _
   | exact laws_added.mono _ _
   | exact laws_awakeRoles.mono _
   | exact laws_links.mono _ _ _
   | exact laws_named.mono _ _ _ _ _
   | exact laws_sameTold.mono _ _ _
   | exact laws_zzFits25.mono _ _
   | exact LeO.none _
   | refine LeO.ite ?_ ?_
   | refine LeO.bind ?_ (fun _ => ?_)
  ·intro y0 y1 y2 y3 y4 y5 y6 y7
   unfold laws_FnRolesUndone.j1
   repeat' first
   | (with_reducible exact ih0 _ _ _ _ _ _ _ _)
   | (with_reducible exact ih1 _ _ _ _ _ _ _ _)
   | (with_reducible exact ih2 _ _ _ _ _ _ _ _)
   | (with_reducible exact ih3 _ _ _ _ _ _ _ _ _)
   | (with_reducible exact ih4 _ _ _ _ _ _ _ _ _)
   | (with_reducible exact ih5 _ _ _ _ _ _ _ _ _)
   | (with_reducible exact ih6 _ _ _ _ _)
   | (with_reducible exact impl_Roles.mono _ _ _ _ _ _ _)
   | (with_reducible exact laws_added.mono _ _)
   | (with_reducible exact laws_awakeRoles.mono _)
   | (with_reducible exact laws_links.mono _ _ _)
   | (with_reducible exact laws_named.mono _ _ _ _ _)
   | (with_reducible exact laws_sameTold.mono _ _ _)
   | (with_reducible exact laws_zzFits25.mono _ _)
   | (with_reducible exact LeO.refl _)
   | (with_reducible exact LeO.none _)
   | (with_reducible refine LeO.ite ?_ ?_)
   | (with_reducible refine LeO.bind ?_ (fun _ => ?_))
   | exact ih0 _ _ _ _ _ _ _ _
   | exact ih1 _ _ _ _ _ _ _ _
   | exact ih2 _ _ _ _ _ _ _ _
   | exact ih3 _ _ _ _ _ _ _ _ _
   | exact ih4 _ _ _ _ _ _ _ _ _
   | exact ih5 _ _ _ _ _ _ _ _ _
   | exact ih6 _ _ _ _ _
   | exact impl_Roles.mono _ _ _ _ _ _ _
   | exact laws_added.mono _ _
   | exact laws_awakeRoles.mono _
   | exact laws_links.mono _ _ _
   | exact laws_named.mono _ _ _ _ _
   | exact laws_sameTold.mono _ _ _
   | exact laws_zzFits25.mono _ _
   | exact LeO.none _
   | refine LeO.ite ?_ ?_
   | refine LeO.bind ?_ (fun _ => ?_)
  ·intro y0 y1 y2 y3 y4 y5 y6 y7
   unfold laws_FnRolesUndone.l0
   repeat' first
   | (with_reducible exact ih0 _ _ _ _ _ _ _ _)
   | (with_reducible exact ih1 _ _ _ _ _ _ _ _)
   | (with_reducible exact ih2 _ _ _ _ _ _ _ _)
   | (with_reducible exact ih3 _ _ _ _ _ _ _ _ _)
   | (with_reducible exact ih4 _ _ _ _ _ _ _ _ _)
   | (with_reducible exact ih5 _ _ _ _ _ _ _ _ _)
   | (with_reducible exact ih6 _ _ _ _ _)
   | (with_reducible exact impl_Roles.mono _ _ _ _ _ _ _)
   | (with_reducible exact laws_added.mono _ _)
   | (with_reducible exact laws_awakeRoles.mono _)
   | (with_reducible exact laws_links.mono _ _ _)
   | (with_reducible exact laws_named.mono _ _ _ _ _)
   | (with_reducible exact laws_sameTold.mono _ _ _)
   | (with_reducible exact laws_zzFits25.mono _ _)
   | (with_reducible exact LeO.refl _)
   | (with_reducible exact LeO.none _)
   | (with_reducible refine LeO.ite ?_ ?_)
   | (with_reducible refine LeO.bind ?_ (fun _ => ?_))
   | exact ih0 _ _ _ _ _ _ _ _
   | exact ih1 _ _ _ _ _ _ _ _
   | exact ih2 _ _ _ _ _ _ _ _
   | exact ih3 _ _ _ _ _ _ _ _ _
   | exact ih4 _ _ _ _ _ _ _ _ _
   | exact ih5 _ _ _ _ _ _ _ _ _
   | exact ih6 _ _ _ _ _
   | exact impl_Roles.mono _ _ _ _ _ _ _
   | exact laws_added.mono _ _
   | exact laws_awakeRoles.mono _
   | exact laws_links.mono _ _ _
   | exact laws_named.mono _ _ _ _ _
   | exact laws_sameTold.mono _ _ _
   | exact laws_zzFits25.mono _ _
   | exact LeO.none _
   | refine LeO.ite ?_ ?_
   | refine LeO.bind ?_ (fun _ => ?_)
  ·intro y0 y1 y2 y3 y4 y5 y6 y7 y8
   unfold laws_FnRolesUndone.l1
   repeat' first
   | (with_reducible exact ih0 _ _ _ _ _ _ _ _)
   | (with_reducible exact ih1 _ _ _ _ _ _ _ _)
   | (with_reducible exact ih2 _ _ _ _ _ _ _ _)
   | (with_reducible exact ih3 _ _ _ _ _ _ _ _ _)
   | (with_reducible exact ih4 _ _ _ _ _ _ _ _ _)
   | (with_reducible exact ih5 _ _ _ _ _ _ _ _ _)
   | (with_reducible exact ih6 _ _ _ _ _)
   | (with_reducible exact impl_Roles.mono _ _ _ _ _ _ _)
   | (with_reducible exact laws_added.mono _ _)
   | (with_reducible exact laws_awakeRoles.mono _)
   | (with_reducible exact laws_links.mono _ _ _)
   | (with_reducible exact laws_named.mono _ _ _ _ _)
   | (with_reducible exact laws_sameTold.mono _ _ _)
   | (with_reducible exact laws_zzFits25.mono _ _)
   | (with_reducible exact LeO.refl _)
   | (with_reducible exact LeO.none _)
   | (with_reducible refine LeO.ite ?_ ?_)
   | (with_reducible refine LeO.bind ?_ (fun _ => ?_))
   | exact ih0 _ _ _ _ _ _ _ _
   | exact ih1 _ _ _ _ _ _ _ _
   | exact ih2 _ _ _ _ _ _ _ _
   | exact ih3 _ _ _ _ _ _ _ _ _
   | exact ih4 _ _ _ _ _ _ _ _ _
   | exact ih5 _ _ _ _ _ _ _ _ _
   | exact ih6 _ _ _ _ _
   | exact impl_Roles.mono _ _ _ _ _ _ _
   | exact laws_added.mono _ _
   | exact laws_awakeRoles.mono _
   | exact laws_links.mono _ _ _
   | exact laws_named.mono _ _ _ _ _
   | exact laws_sameTold.mono _ _ _
   | exact laws_zzFits25.mono _ _
   | exact LeO.none _
   | refine LeO.ite ?_ ?_
   | refine LeO.bind ?_ (fun _ => ?_)
  ·intro y0 y1 y2 y3 y4 y5 y6 y7 y8
   unfold laws_FnRolesUndone.l2
   repeat' first
   | (with_reducible exact ih0 _ _ _ _ _ _ _ _)
   | (with_reducible exact ih1 _ _ _ _ _ _ _ _)
   | (with_reducible exact ih2 _ _ _ _ _ _ _ _)
   | (with_reducible exact ih3 _ _ _ _ _ _ _ _ _)
   | (with_reducible exact ih4 _ _ _ _ _ _ _ _ _)
   | (with_reducible exact ih5 _ _ _ _ _ _ _ _ _)
   | (with_reducible exact ih6 _ _ _ _ _)
   | (with_reducible exact impl_Roles.mono _ _ _ _ _ _ _)
   | (with_reducible exact laws_added.mono _ _)
   | (with_reducible exact laws_awakeRoles.mono _)
   | (with_reducible exact laws_links.mono _ _ _)
   | (with_reducible exact laws_named.mono _ _ _ _ _)
   | (with_reducible exact laws_sameTold.mono _ _ _)
   | (with_reducible exact laws_zzFits25.mono _ _)
   | (with_reducible exact LeO.refl _)
   | (with_reducible exact LeO.none _)
   | (with_reducible refine LeO.ite ?_ ?_)
   | (with_reducible refine LeO.bind ?_ (fun _ => ?_))
   | exact ih0 _ _ _ _ _ _ _ _
   | exact ih1 _ _ _ _ _ _ _ _
   | exact ih2 _ _ _ _ _ _ _ _
   | exact ih3 _ _ _ _ _ _ _ _ _
   | exact ih4 _ _ _ _ _ _ _ _ _
   | exact ih5 _ _ _ _ _ _ _ _ _
   | exact ih6 _ _ _ _ _
   | exact impl_Roles.mono _ _ _ _ _ _ _
   | exact laws_added.mono _ _
   | exact laws_awakeRoles.mono _
   | exact laws_links.mono _ _ _
   | exact laws_named.mono _ _ _ _ _
   | exact laws_sameTold.mono _ _ _
   | exact laws_zzFits25.mono _ _
   | exact LeO.none _
   | refine LeO.ite ?_ ?_
   | refine LeO.bind ?_ (fun _ => ?_)
  ·intro y0 y1 y2 y3 y4 y5 y6 y7 y8
   unfold laws_FnRolesUndone.l3
   repeat' first
   | (with_reducible exact ih0 _ _ _ _ _ _ _ _)
   | (with_reducible exact ih1 _ _ _ _ _ _ _ _)
   | (with_reducible exact ih2 _ _ _ _ _ _ _ _)
   | (with_reducible exact ih3 _ _ _ _ _ _ _ _ _)
   | (with_reducible exact ih4 _ _ _ _ _ _ _ _ _)
   | (with_reducible exact ih5 _ _ _ _ _ _ _ _ _)
   | (with_reducible exact ih6 _ _ _ _ _)
   | (with_reducible exact impl_Roles.mono _ _ _ _ _ _ _)
   | (with_reducible exact laws_added.mono _ _)
   | (with_reducible exact laws_awakeRoles.mono _)
   | (with_reducible exact laws_links.mono _ _ _)
   | (with_reducible exact laws_named.mono _ _ _ _ _)
   | (with_reducible exact laws_sameTold.mono _ _ _)
   | (with_reducible exact laws_zzFits25.mono _ _)
   | (with_reducible exact LeO.refl _)
   | (with_reducible exact LeO.none _)
   | (with_reducible refine LeO.ite ?_ ?_)
   | (with_reducible refine LeO.bind ?_ (fun _ => ?_))
   | exact ih0 _ _ _ _ _ _ _ _
   | exact ih1 _ _ _ _ _ _ _ _
   | exact ih2 _ _ _ _ _ _ _ _
   | exact ih3 _ _ _ _ _ _ _ _ _
   | exact ih4 _ _ _ _ _ _ _ _ _
   | exact ih5 _ _ _ _ _ _ _ _ _
   | exact ih6 _ _ _ _ _
   | exact impl_Roles.mono _ _ _ _ _ _ _
   | exact laws_added.mono _ _
   | exact laws_awakeRoles.mono _
   | exact laws_links.mono _ _ _
   | exact laws_named.mono _ _ _ _ _
   | exact laws_sameTold.mono _ _ _
   | exact laws_zzFits25.mono _ _
   | exact LeO.none _
   | refine LeO.ite ?_ ?_
   | refine LeO.bind ?_ (fun _ => ?_)
  ·intro y0 y1 y2 y3 y4
   unfold laws_FnRolesUndone.l4
   repeat' first
   | (with_reducible exact ih0 _ _ _ _ _ _ _ _)
   | (with_reducible exact ih1 _ _ _ _ _ _ _ _)
   | (with_reducible exact ih2 _ _ _ _ _ _ _ _)
   | (with_reducible exact ih3 _ _ _ _ _ _ _ _ _)
   | (with_reducible exact ih4 _ _ _ _ _ _ _ _ _)
   | (with_reducible exact ih5 _ _ _ _ _ _ _ _ _)
   | (with_reducible exact ih6 _ _ _ _ _)
   | (with_reducible exact impl_Roles.mono _ _ _ _ _ _ _)
   | (with_reducible exact laws_added.mono _ _)
   | (with_reducible exact laws_awakeRoles.mono _)
   | (with_reducible exact laws_links.mono _ _ _)
   | (with_reducible exact laws_named.mono _ _ _ _ _)
   | (with_reducible exact laws_sameTold.mono _ _ _)
   | (with_reducible exact laws_zzFits25.mono _ _)
   | (with_reducible exact LeO.refl _)
   | (with_reducible exact LeO.none _)
   | (with_reducible refine LeO.ite ?_ ?_)
   | (with_reducible refine LeO.bind ?_ (fun _ => ?_))
   | exact ih0 _ _ _ _ _ _ _ _
   | exact ih1 _ _ _ _ _ _ _ _
   | exact ih2 _ _ _ _ _ _ _ _
   | exact ih3 _ _ _ _ _ _ _ _ _
   | exact ih4 _ _ _ _ _ _ _ _ _
   | exact ih5 _ _ _ _ _ _ _ _ _
   | exact ih6 _ _ _ _ _
   | exact impl_Roles.mono _ _ _ _ _ _ _
   | exact laws_added.mono _ _
   | exact laws_awakeRoles.mono _
   | exact laws_links.mono _ _ _
   | exact laws_named.mono _ _ _ _ _
   | exact laws_sameTold.mono _ _ _
   | exact laws_zzFits25.mono _ _
   | exact LeO.none _
   | refine LeO.ite ?_ ?_
   | refine LeO.bind ?_ (fun _ => ?_)
theorem laws_FnRolesUndone.mono : ∀ a0 a1 a2 a3 a4 a5 a6 k, LeO (laws_FnRolesUndone.f k a0 a1 a2 a3 a4 a5 a6) (laws_FnRolesUndone.f (k + 1) a0 a1 a2 a3 a4 a5 a6) := by
 intro a0 a1 a2 a3 a4 a5 a6 k
 obtain ⟨ih0, ih1, ih2, ih3, ih4, ih5, ih6⟩ := laws_FnRolesUndone.mono_l k
 unfold laws_FnRolesUndone.f
 repeat' first
   | (with_reducible exact ih0 _ _ _ _ _ _ _ _)
   | (with_reducible exact ih1 _ _ _ _ _ _ _ _)
   | (with_reducible exact ih2 _ _ _ _ _ _ _ _)
   | (with_reducible exact ih3 _ _ _ _ _ _ _ _ _)
   | (with_reducible exact ih4 _ _ _ _ _ _ _ _ _)
   | (with_reducible exact ih5 _ _ _ _ _ _ _ _ _)
   | (with_reducible exact ih6 _ _ _ _ _)
   | (with_reducible exact impl_Roles.mono _ _ _ _ _ _ _)
   | (with_reducible exact laws_added.mono _ _)
   | (with_reducible exact laws_awakeRoles.mono _)
   | (with_reducible exact laws_links.mono _ _ _)
   | (with_reducible exact laws_named.mono _ _ _ _ _)
   | (with_reducible exact laws_sameTold.mono _ _ _)
   | (with_reducible exact laws_zzFits25.mono _ _)
   | (with_reducible exact LeO.refl _)
   | (with_reducible exact LeO.none _)
   | (with_reducible refine LeO.ite ?_ ?_)
   | (with_reducible refine LeO.bind ?_ (fun _ => ?_))
   | exact ih0 _ _ _ _ _ _ _ _
   | exact ih1 _ _ _ _ _ _ _ _
   | exact ih2 _ _ _ _ _ _ _ _
   | exact ih3 _ _ _ _ _ _ _ _ _
   | exact ih4 _ _ _ _ _ _ _ _ _
   | exact ih5 _ _ _ _ _ _ _ _ _
   | exact ih6 _ _ _ _ _
   | exact impl_Roles.mono _ _ _ _ _ _ _
   | exact laws_added.mono _ _
   | exact laws_awakeRoles.mono _
   | exact laws_links.mono _ _ _
   | exact laws_named.mono _ _ _ _ _
   | exact laws_sameTold.mono _ _ _
   | exact laws_zzFits25.mono _ _
   | exact LeO.none _
   | refine LeO.ite ?_ ?_
   | refine LeO.bind ?_ (fun _ => ?_)
set_option maxHeartbeats 8000000 in
set_option maxRecDepth 100000 in
theorem laws_FnRolesUndone.calls (k : Nat) (a0 : Int) (a1 : Bool) (A2 : Option Addr) (c2 : Nat) (l2 : List (S28)) (A3 : Option Addr) (c3 : Nat) (l3 : List (S28)) (a4 : ByteArray) (a5 : ByteArray) (a6 : ByteArray) (r : Bool) (w : World) (hr2 : Kd.C k28 w A2 l2.length l2) (hc2 : l2.length ≤ c2) (hr3 : Kd.C k28 w A3 l3.length l3) (hc3 : l3.length ≤ c3) (h : laws_FnRolesUndone.f k a0 a1 l2 l3 a4 a5 a6 = some r) :
  Calls Tryz.prog 8 #[.int .i64 a0, .bool a1, .slice A2 l2.length c2, .slice A3 l3.length c3, .string a4, .string a5, .string a6] w fun e w' => e = .returned (.bool r) ∧ Below w.heap.size w w' := by
 have hu28 := Tryz.underlying28
 have hu54 := Tryz.underlying54
 have HR2 := Aside0.mk hr2
 have HC2 := Aside0.mk hc2
 clear hr2 hc2
 have HR3 := Aside0.mk hr3
 have HC3 := Aside0.mk hc3
 clear hr3 hc3
 have HB := Aside0.mk (Below.refl w.heap.size w)
 have H : ((laws_zzFits25.f k l2).bind fun t181 => (if t181 = true then ((laws_zzFits25.f k l3).bind fun t182 => (if t182 = true then (if (a4.size : Int) > 2147483647 then (laws_FnRolesUndone.j0 k a0 a1 l2 l3 a4 a5 a6 true) else (if (a5.size : Int) > 2147483647 then (laws_FnRolesUndone.j0 k a0 a1 l2 l3 a4 a5 a6 true) else (laws_FnRolesUndone.j0 k a0 a1 l2 l3 a4 a5 a6 (decide ((a6.size : Int) > 2147483647))))) else (laws_FnRolesUndone.j0 k a0 a1 l2 l3 a4 a5 a6 true))) else (laws_FnRolesUndone.j0 k a0 a1 l2 l3 a4 a5 a6 true))) = some r := h
 clear h
 have HC8 := Aside0.mk H
 clear H
 go_enter Tryz.func8, Tryz.ntmps8
 go_upto_region 1 with (fail)
 repeat (go_quiet (fail); go_upto_region 1 with (fail))
 go_cut [47] (fun v47 wc => ∃ (kq : Nat) (x47_7 : Bool), v47 = .bool x47_7 ∧ Aside0 (laws_FnRolesUndone.j0 kq a0 a1 l2 l3 a4 a5 a6 x47_7 = some r) ∧ Aside0 (kq ≤ k) ∧ Aside0 (Below w.heap.size w wc))
 case first =>
  have H := HC8.out
  clear HC8
  replace H := Option.bind_eq_some_iff.mp H
  obtain ⟨t181, A90, H⟩ := H
  replace H : (if t181 = true then ((laws_zzFits25.f k l3).bind fun t182 => (if t182 = true then (if (a4.size : Int) > 2147483647 then (laws_FnRolesUndone.j0 k a0 a1 l2 l3 a4 a5 a6 true) else (if (a5.size : Int) > 2147483647 then (laws_FnRolesUndone.j0 k a0 a1 l2 l3 a4 a5 a6 true) else (laws_FnRolesUndone.j0 k a0 a1 l2 l3 a4 a5 a6 (decide ((a6.size : Int) > 2147483647))))) else (laws_FnRolesUndone.j0 k a0 a1 l2 l3 a4 a5 a6 true))) else (laws_FnRolesUndone.j0 k a0 a1 l2 l3 a4 a5 a6 true)) = some r := H
  have A9 := Aside0.mk A90
  clear A90
  by_cases c10 : t181 = true
  ·subst c10
   have H1 : ((laws_zzFits25.f k l3).bind fun t182 => (if t182 = true then (if (a4.size : Int) > 2147483647 then (laws_FnRolesUndone.j0 k a0 a1 l2 l3 a4 a5 a6 true) else (if (a5.size : Int) > 2147483647 then (laws_FnRolesUndone.j0 k a0 a1 l2 l3 a4 a5 a6 true) else (laws_FnRolesUndone.j0 k a0 a1 l2 l3 a4 a5 a6 (decide ((a6.size : Int) > 2147483647))))) else (laws_FnRolesUndone.j0 k a0 a1 l2 l3 a4 a5 a6 true))) = some r := by rw [if_pos rfl] at H; exact H
   clear H
   have H := H1
   clear H1
   replace H := Option.bind_eq_some_iff.mp H
   obtain ⟨t182, A110, H⟩ := H
   replace H : (if t182 = true then (if (a4.size : Int) > 2147483647 then (laws_FnRolesUndone.j0 k a0 a1 l2 l3 a4 a5 a6 true) else (if (a5.size : Int) > 2147483647 then (laws_FnRolesUndone.j0 k a0 a1 l2 l3 a4 a5 a6 true) else (laws_FnRolesUndone.j0 k a0 a1 l2 l3 a4 a5 a6 (decide ((a6.size : Int) > 2147483647))))) else (laws_FnRolesUndone.j0 k a0 a1 l2 l3 a4 a5 a6 true)) = some r := H
   have A11 := Aside0.mk A110
   clear A110
   by_cases c12 : t182 = true
   ·subst c12
    have H1 : (if (a4.size : Int) > 2147483647 then (laws_FnRolesUndone.j0 k a0 a1 l2 l3 a4 a5 a6 true) else (if (a5.size : Int) > 2147483647 then (laws_FnRolesUndone.j0 k a0 a1 l2 l3 a4 a5 a6 true) else (laws_FnRolesUndone.j0 k a0 a1 l2 l3 a4 a5 a6 (decide ((a6.size : Int) > 2147483647))))) = some r := by rw [if_pos rfl] at H; exact H
    clear H
    have H := H1
    clear H1
    by_cases c13 : (a4.size : Int) > 2147483647
    ·rw [if_pos c13] at H
     have c13b0 : decide (2147483647 < (a4.size : Int)) = true := decide_eq_true c13
     have c13b1 : decide (2147483647 < a4.size) = true := decide_eq_true (by omega)
     clear c13
     (first | rw [c13b0] | (simp only [i64_w, i32_w]; rw [c13b0]) | skip)
     have H' := Aside0.mk H
     clear H
     go_wp2_with (first | (go_at_call 9; (with_reducible refine (laws_zzFits25.calls k _ _ l2 true _ ?side1 ?side2 A9.out).mono ?_); (case side1 => repeat (first | exact (Kd.C_below HR2.out HB.out) | (with_reducible refine Kd.C_alloc ?_ _) | (with_reducible refine Kd.C_drewN ?_ _) | (with_reducible refine Kd.C_drew ?_))); (case side2 => exact HC2.out); rintro e w14 ⟨rfl, hb⟩; have n0_ := Aside0.mk (below_step (by repeat (first | (with_reducible first | exact HB.out | apply below_alloc | apply pw_below_drewN | apply below_drew1) | exact HB.out)) hb); clear HB; have HB := n0_; clear n0_; (try clear hb); (try clear hb2); (try clear hk); (try clear hi)) | (go_at_call 9; (with_reducible refine (laws_zzFits25.calls k _ _ l3 true _ ?side1 ?side2 A11.out).mono ?_); (case side1 => repeat (first | exact (Kd.C_below HR3.out HB.out) | (with_reducible refine Kd.C_alloc ?_ _) | (with_reducible refine Kd.C_drewN ?_ _) | (with_reducible refine Kd.C_drew ?_))); (case side2 => exact HC3.out); rintro e w15 ⟨rfl, hb⟩; have n0_ := Aside0.mk (below_step (by repeat (first | (with_reducible first | exact HB.out | apply below_alloc | apply pw_below_drewN | apply below_drew1) | exact HB.out)) hb); clear HB; have HB := n0_; clear n0_; (try clear hb); (try clear hb2); (try clear hk); (try clear hi)))
     repeat (go_quiet (first | (go_at_call 9; (with_reducible refine (laws_zzFits25.calls k _ _ l2 true _ ?side1 ?side2 A9.out).mono ?_); (case side1 => repeat (first | exact (Kd.C_below HR2.out HB.out) | (with_reducible refine Kd.C_alloc ?_ _) | (with_reducible refine Kd.C_drewN ?_ _) | (with_reducible refine Kd.C_drew ?_))); (case side2 => exact HC2.out); rintro e w14 ⟨rfl, hb⟩; have n0_ := Aside0.mk (below_step (by repeat (first | (with_reducible first | exact HB.out | apply below_alloc | apply pw_below_drewN | apply below_drew1) | exact HB.out)) hb); clear HB; have HB := n0_; clear n0_; (try clear hb); (try clear hb2); (try clear hk); (try clear hi)) | (go_at_call 9; (with_reducible refine (laws_zzFits25.calls k _ _ l3 true _ ?side1 ?side2 A11.out).mono ?_); (case side1 => repeat (first | exact (Kd.C_below HR3.out HB.out) | (with_reducible refine Kd.C_alloc ?_ _) | (with_reducible refine Kd.C_drewN ?_ _) | (with_reducible refine Kd.C_drew ?_))); (case side2 => exact HC3.out); rintro e w15 ⟨rfl, hb⟩; have n0_ := Aside0.mk (below_step (by repeat (first | (with_reducible first | exact HB.out | apply below_alloc | apply pw_below_drewN | apply below_drew1) | exact HB.out)) hb); clear HB; have HB := n0_; clear n0_; (try clear hb); (try clear hb2); (try clear hk); (try clear hi))); try go_wp2_with (first | (go_at_call 9; (with_reducible refine (laws_zzFits25.calls k _ _ l2 true _ ?side1 ?side2 A9.out).mono ?_); (case side1 => repeat (first | exact (Kd.C_below HR2.out HB.out) | (with_reducible refine Kd.C_alloc ?_ _) | (with_reducible refine Kd.C_drewN ?_ _) | (with_reducible refine Kd.C_drew ?_))); (case side2 => exact HC2.out); rintro e w14 ⟨rfl, hb⟩; have n0_ := Aside0.mk (below_step (by repeat (first | (with_reducible first | exact HB.out | apply below_alloc | apply pw_below_drewN | apply below_drew1) | exact HB.out)) hb); clear HB; have HB := n0_; clear n0_; (try clear hb); (try clear hb2); (try clear hk); (try clear hi)) | (go_at_call 9; (with_reducible refine (laws_zzFits25.calls k _ _ l3 true _ ?side1 ?side2 A11.out).mono ?_); (case side1 => repeat (first | exact (Kd.C_below HR3.out HB.out) | (with_reducible refine Kd.C_alloc ?_ _) | (with_reducible refine Kd.C_drewN ?_ _) | (with_reducible refine Kd.C_drew ?_))); (case side2 => exact HC3.out); rintro e w15 ⟨rfl, hb⟩; have n0_ := Aside0.mk (below_step (by repeat (first | (with_reducible first | exact HB.out | apply below_alloc | apply pw_below_drewN | apply below_drew1) | exact HB.out)) hb); clear HB; have HB := n0_; clear n0_; (try clear hb); (try clear hb2); (try clear hk); (try clear hi))))
     go_meet
     case rel => exact ⟨_, (true), (by first | rfl | (simp; done) | (simp [*]; done)), H', ⟨by first | omega | exact Nat.le_refl _⟩, ⟨by repeat (first | (with_reducible first | exact HB.out | apply below_alloc | apply pw_below_drewN | apply below_drew1) | exact HB.out)⟩⟩
    ·rw [if_neg c13] at H
     have c13b0 : decide (2147483647 < (a4.size : Int)) = false := decide_eq_false c13
     have c13b1 : decide (2147483647 < a4.size) = false := decide_eq_false (by omega)
     clear c13
     (first | rw [c13b0] | (simp only [i64_w, i32_w]; rw [c13b0]) | skip)
     by_cases c16 : (a5.size : Int) > 2147483647
     ·rw [if_pos c16] at H
      have c16b0 : decide (2147483647 < (a5.size : Int)) = true := decide_eq_true c16
      have c16b1 : decide (2147483647 < a5.size) = true := decide_eq_true (by omega)
      clear c16
      have H' := Aside0.mk H
      clear H
      go_wp2_with (first | (go_at_call 9; (with_reducible refine (laws_zzFits25.calls k _ _ l2 true _ ?side1 ?side2 A9.out).mono ?_); (case side1 => repeat (first | exact (Kd.C_below HR2.out HB.out) | (with_reducible refine Kd.C_alloc ?_ _) | (with_reducible refine Kd.C_drewN ?_ _) | (with_reducible refine Kd.C_drew ?_))); (case side2 => exact HC2.out); rintro e w17 ⟨rfl, hb⟩; have n0_ := Aside0.mk (below_step (by repeat (first | (with_reducible first | exact HB.out | apply below_alloc | apply pw_below_drewN | apply below_drew1) | exact HB.out)) hb); clear HB; have HB := n0_; clear n0_; (try clear hb); (try clear hb2); (try clear hk); (try clear hi)) | (go_at_call 9; (with_reducible refine (laws_zzFits25.calls k _ _ l3 true _ ?side1 ?side2 A11.out).mono ?_); (case side1 => repeat (first | exact (Kd.C_below HR3.out HB.out) | (with_reducible refine Kd.C_alloc ?_ _) | (with_reducible refine Kd.C_drewN ?_ _) | (with_reducible refine Kd.C_drew ?_))); (case side2 => exact HC3.out); rintro e w18 ⟨rfl, hb⟩; have n0_ := Aside0.mk (below_step (by repeat (first | (with_reducible first | exact HB.out | apply below_alloc | apply pw_below_drewN | apply below_drew1) | exact HB.out)) hb); clear HB; have HB := n0_; clear n0_; (try clear hb); (try clear hb2); (try clear hk); (try clear hi)))
      repeat (go_quiet (first | (go_at_call 9; (with_reducible refine (laws_zzFits25.calls k _ _ l2 true _ ?side1 ?side2 A9.out).mono ?_); (case side1 => repeat (first | exact (Kd.C_below HR2.out HB.out) | (with_reducible refine Kd.C_alloc ?_ _) | (with_reducible refine Kd.C_drewN ?_ _) | (with_reducible refine Kd.C_drew ?_))); (case side2 => exact HC2.out); rintro e w17 ⟨rfl, hb⟩; have n0_ := Aside0.mk (below_step (by repeat (first | (with_reducible first | exact HB.out | apply below_alloc | apply pw_below_drewN | apply below_drew1) | exact HB.out)) hb); clear HB; have HB := n0_; clear n0_; (try clear hb); (try clear hb2); (try clear hk); (try clear hi)) | (go_at_call 9; (with_reducible refine (laws_zzFits25.calls k _ _ l3 true _ ?side1 ?side2 A11.out).mono ?_); (case side1 => repeat (first | exact (Kd.C_below HR3.out HB.out) | (with_reducible refine Kd.C_alloc ?_ _) | (with_reducible refine Kd.C_drewN ?_ _) | (with_reducible refine Kd.C_drew ?_))); (case side2 => exact HC3.out); rintro e w18 ⟨rfl, hb⟩; have n0_ := Aside0.mk (below_step (by repeat (first | (with_reducible first | exact HB.out | apply below_alloc | apply pw_below_drewN | apply below_drew1) | exact HB.out)) hb); clear HB; have HB := n0_; clear n0_; (try clear hb); (try clear hb2); (try clear hk); (try clear hi))); try go_wp2_with (first | (go_at_call 9; (with_reducible refine (laws_zzFits25.calls k _ _ l2 true _ ?side1 ?side2 A9.out).mono ?_); (case side1 => repeat (first | exact (Kd.C_below HR2.out HB.out) | (with_reducible refine Kd.C_alloc ?_ _) | (with_reducible refine Kd.C_drewN ?_ _) | (with_reducible refine Kd.C_drew ?_))); (case side2 => exact HC2.out); rintro e w17 ⟨rfl, hb⟩; have n0_ := Aside0.mk (below_step (by repeat (first | (with_reducible first | exact HB.out | apply below_alloc | apply pw_below_drewN | apply below_drew1) | exact HB.out)) hb); clear HB; have HB := n0_; clear n0_; (try clear hb); (try clear hb2); (try clear hk); (try clear hi)) | (go_at_call 9; (with_reducible refine (laws_zzFits25.calls k _ _ l3 true _ ?side1 ?side2 A11.out).mono ?_); (case side1 => repeat (first | exact (Kd.C_below HR3.out HB.out) | (with_reducible refine Kd.C_alloc ?_ _) | (with_reducible refine Kd.C_drewN ?_ _) | (with_reducible refine Kd.C_drew ?_))); (case side2 => exact HC3.out); rintro e w18 ⟨rfl, hb⟩; have n0_ := Aside0.mk (below_step (by repeat (first | (with_reducible first | exact HB.out | apply below_alloc | apply pw_below_drewN | apply below_drew1) | exact HB.out)) hb); clear HB; have HB := n0_; clear n0_; (try clear hb); (try clear hb2); (try clear hk); (try clear hi))))
      go_meet
      case rel => exact ⟨_, (true), (by first | rfl | (simp; done) | (simp [*]; done)), H', ⟨by first | omega | exact Nat.le_refl _⟩, ⟨by repeat (first | (with_reducible first | exact HB.out | apply below_alloc | apply pw_below_drewN | apply below_drew1) | exact HB.out)⟩⟩
     ·rw [if_neg c16] at H
      have c16b0 : decide (2147483647 < (a5.size : Int)) = false := decide_eq_false c16
      have c16b1 : decide (2147483647 < a5.size) = false := decide_eq_false (by omega)
      clear c16
      have H' := Aside0.mk H
      clear H
      go_wp2_with (first | (go_at_call 9; (with_reducible refine (laws_zzFits25.calls k _ _ l2 true _ ?side1 ?side2 A9.out).mono ?_); (case side1 => repeat (first | exact (Kd.C_below HR2.out HB.out) | (with_reducible refine Kd.C_alloc ?_ _) | (with_reducible refine Kd.C_drewN ?_ _) | (with_reducible refine Kd.C_drew ?_))); (case side2 => exact HC2.out); rintro e w19 ⟨rfl, hb⟩; have n0_ := Aside0.mk (below_step (by repeat (first | (with_reducible first | exact HB.out | apply below_alloc | apply pw_below_drewN | apply below_drew1) | exact HB.out)) hb); clear HB; have HB := n0_; clear n0_; (try clear hb); (try clear hb2); (try clear hk); (try clear hi)) | (go_at_call 9; (with_reducible refine (laws_zzFits25.calls k _ _ l3 true _ ?side1 ?side2 A11.out).mono ?_); (case side1 => repeat (first | exact (Kd.C_below HR3.out HB.out) | (with_reducible refine Kd.C_alloc ?_ _) | (with_reducible refine Kd.C_drewN ?_ _) | (with_reducible refine Kd.C_drew ?_))); (case side2 => exact HC3.out); rintro e w20 ⟨rfl, hb⟩; have n0_ := Aside0.mk (below_step (by repeat (first | (with_reducible first | exact HB.out | apply below_alloc | apply pw_below_drewN | apply below_drew1) | exact HB.out)) hb); clear HB; have HB := n0_; clear n0_; (try clear hb); (try clear hb2); (try clear hk); (try clear hi)))
      repeat (go_quiet (first | (go_at_call 9; (with_reducible refine (laws_zzFits25.calls k _ _ l2 true _ ?side1 ?side2 A9.out).mono ?_); (case side1 => repeat (first | exact (Kd.C_below HR2.out HB.out) | (with_reducible refine Kd.C_alloc ?_ _) | (with_reducible refine Kd.C_drewN ?_ _) | (with_reducible refine Kd.C_drew ?_))); (case side2 => exact HC2.out); rintro e w19 ⟨rfl, hb⟩; have n0_ := Aside0.mk (below_step (by repeat (first | (with_reducible first | exact HB.out | apply below_alloc | apply pw_below_drewN | apply below_drew1) | exact HB.out)) hb); clear HB; have HB := n0_; clear n0_; (try clear hb); (try clear hb2); (try clear hk); (try clear hi)) | (go_at_call 9; (with_reducible refine (laws_zzFits25.calls k _ _ l3 true _ ?side1 ?side2 A11.out).mono ?_); (case side1 => repeat (first | exact (Kd.C_below HR3.out HB.out) | (with_reducible refine Kd.C_alloc ?_ _) | (with_reducible refine Kd.C_drewN ?_ _) | (with_reducible refine Kd.C_drew ?_))); (case side2 => exact HC3.out); rintro e w20 ⟨rfl, hb⟩; have n0_ := Aside0.mk (below_step (by repeat (first | (with_reducible first | exact HB.out | apply below_alloc | apply pw_below_drewN | apply below_drew1) | exact HB.out)) hb); clear HB; have HB := n0_; clear n0_; (try clear hb); (try clear hb2); (try clear hk); (try clear hi))); try go_wp2_with (first | (go_at_call 9; (with_reducible refine (laws_zzFits25.calls k _ _ l2 true _ ?side1 ?side2 A9.out).mono ?_); (case side1 => repeat (first | exact (Kd.C_below HR2.out HB.out) | (with_reducible refine Kd.C_alloc ?_ _) | (with_reducible refine Kd.C_drewN ?_ _) | (with_reducible refine Kd.C_drew ?_))); (case side2 => exact HC2.out); rintro e w19 ⟨rfl, hb⟩; have n0_ := Aside0.mk (below_step (by repeat (first | (with_reducible first | exact HB.out | apply below_alloc | apply pw_below_drewN | apply below_drew1) | exact HB.out)) hb); clear HB; have HB := n0_; clear n0_; (try clear hb); (try clear hb2); (try clear hk); (try clear hi)) | (go_at_call 9; (with_reducible refine (laws_zzFits25.calls k _ _ l3 true _ ?side1 ?side2 A11.out).mono ?_); (case side1 => repeat (first | exact (Kd.C_below HR3.out HB.out) | (with_reducible refine Kd.C_alloc ?_ _) | (with_reducible refine Kd.C_drewN ?_ _) | (with_reducible refine Kd.C_drew ?_))); (case side2 => exact HC3.out); rintro e w20 ⟨rfl, hb⟩; have n0_ := Aside0.mk (below_step (by repeat (first | (with_reducible first | exact HB.out | apply below_alloc | apply pw_below_drewN | apply below_drew1) | exact HB.out)) hb); clear HB; have HB := n0_; clear n0_; (try clear hb); (try clear hb2); (try clear hk); (try clear hi))))
      go_meet
      case rel => exact ⟨_, (decide ((a6.size : Int) > 2147483647)), (by first | rfl | (simp; done) | (simp [*]; done)), H', ⟨by first | omega | exact Nat.le_refl _⟩, ⟨by repeat (first | (with_reducible first | exact HB.out | apply below_alloc | apply pw_below_drewN | apply below_drew1) | exact HB.out)⟩⟩
   ·replace c12 := Bool.eq_false_iff.mpr c12
    subst c12
    have H1 : (laws_FnRolesUndone.j0 k a0 a1 l2 l3 a4 a5 a6 true) = some r := by rw [if_neg (show ¬ (false = true) by decide)] at H; exact H
    clear H
    have H := H1
    clear H1
    have H' := Aside0.mk H
    clear H
    go_wp2_with (first | (go_at_call 9; (with_reducible refine (laws_zzFits25.calls k _ _ l2 true _ ?side1 ?side2 A9.out).mono ?_); (case side1 => repeat (first | exact (Kd.C_below HR2.out HB.out) | (with_reducible refine Kd.C_alloc ?_ _) | (with_reducible refine Kd.C_drewN ?_ _) | (with_reducible refine Kd.C_drew ?_))); (case side2 => exact HC2.out); rintro e w21 ⟨rfl, hb⟩; have n0_ := Aside0.mk (below_step (by repeat (first | (with_reducible first | exact HB.out | apply below_alloc | apply pw_below_drewN | apply below_drew1) | exact HB.out)) hb); clear HB; have HB := n0_; clear n0_; (try clear hb); (try clear hb2); (try clear hk); (try clear hi)) | (go_at_call 9; (with_reducible refine (laws_zzFits25.calls k _ _ l3 false _ ?side1 ?side2 A11.out).mono ?_); (case side1 => repeat (first | exact (Kd.C_below HR3.out HB.out) | (with_reducible refine Kd.C_alloc ?_ _) | (with_reducible refine Kd.C_drewN ?_ _) | (with_reducible refine Kd.C_drew ?_))); (case side2 => exact HC3.out); rintro e w22 ⟨rfl, hb⟩; have n0_ := Aside0.mk (below_step (by repeat (first | (with_reducible first | exact HB.out | apply below_alloc | apply pw_below_drewN | apply below_drew1) | exact HB.out)) hb); clear HB; have HB := n0_; clear n0_; (try clear hb); (try clear hb2); (try clear hk); (try clear hi)))
    repeat (go_quiet (first | (go_at_call 9; (with_reducible refine (laws_zzFits25.calls k _ _ l2 true _ ?side1 ?side2 A9.out).mono ?_); (case side1 => repeat (first | exact (Kd.C_below HR2.out HB.out) | (with_reducible refine Kd.C_alloc ?_ _) | (with_reducible refine Kd.C_drewN ?_ _) | (with_reducible refine Kd.C_drew ?_))); (case side2 => exact HC2.out); rintro e w21 ⟨rfl, hb⟩; have n0_ := Aside0.mk (below_step (by repeat (first | (with_reducible first | exact HB.out | apply below_alloc | apply pw_below_drewN | apply below_drew1) | exact HB.out)) hb); clear HB; have HB := n0_; clear n0_; (try clear hb); (try clear hb2); (try clear hk); (try clear hi)) | (go_at_call 9; (with_reducible refine (laws_zzFits25.calls k _ _ l3 false _ ?side1 ?side2 A11.out).mono ?_); (case side1 => repeat (first | exact (Kd.C_below HR3.out HB.out) | (with_reducible refine Kd.C_alloc ?_ _) | (with_reducible refine Kd.C_drewN ?_ _) | (with_reducible refine Kd.C_drew ?_))); (case side2 => exact HC3.out); rintro e w22 ⟨rfl, hb⟩; have n0_ := Aside0.mk (below_step (by repeat (first | (with_reducible first | exact HB.out | apply below_alloc | apply pw_below_drewN | apply below_drew1) | exact HB.out)) hb); clear HB; have HB := n0_; clear n0_; (try clear hb); (try clear hb2); (try clear hk); (try clear hi))); try go_wp2_with (first | (go_at_call 9; (with_reducible refine (laws_zzFits25.calls k _ _ l2 true _ ?side1 ?side2 A9.out).mono ?_); (case side1 => repeat (first | exact (Kd.C_below HR2.out HB.out) | (with_reducible refine Kd.C_alloc ?_ _) | (with_reducible refine Kd.C_drewN ?_ _) | (with_reducible refine Kd.C_drew ?_))); (case side2 => exact HC2.out); rintro e w21 ⟨rfl, hb⟩; have n0_ := Aside0.mk (below_step (by repeat (first | (with_reducible first | exact HB.out | apply below_alloc | apply pw_below_drewN | apply below_drew1) | exact HB.out)) hb); clear HB; have HB := n0_; clear n0_; (try clear hb); (try clear hb2); (try clear hk); (try clear hi)) | (go_at_call 9; (with_reducible refine (laws_zzFits25.calls k _ _ l3 false _ ?side1 ?side2 A11.out).mono ?_); (case side1 => repeat (first | exact (Kd.C_below HR3.out HB.out) | (with_reducible refine Kd.C_alloc ?_ _) | (with_reducible refine Kd.C_drewN ?_ _) | (with_reducible refine Kd.C_drew ?_))); (case side2 => exact HC3.out); rintro e w22 ⟨rfl, hb⟩; have n0_ := Aside0.mk (below_step (by repeat (first | (with_reducible first | exact HB.out | apply below_alloc | apply pw_below_drewN | apply below_drew1) | exact HB.out)) hb); clear HB; have HB := n0_; clear n0_; (try clear hb); (try clear hb2); (try clear hk); (try clear hi))))
    go_meet
    case rel => exact ⟨_, (true), (by first | rfl | (simp; done) | (simp [*]; done)), H', ⟨by first | omega | exact Nat.le_refl _⟩, ⟨by repeat (first | (with_reducible first | exact HB.out | apply below_alloc | apply pw_below_drewN | apply below_drew1) | exact HB.out)⟩⟩
  ·replace c10 := Bool.eq_false_iff.mpr c10
   subst c10
   have H1 : (laws_FnRolesUndone.j0 k a0 a1 l2 l3 a4 a5 a6 true) = some r := by rw [if_neg (show ¬ (false = true) by decide)] at H; exact H
   clear H
   have H := H1
   clear H1
   have H' := Aside0.mk H
   clear H
   go_wp2_with (first | (go_at_call 9; (with_reducible refine (laws_zzFits25.calls k _ _ l2 false _ ?side1 ?side2 A9.out).mono ?_); (case side1 => repeat (first | exact (Kd.C_below HR2.out HB.out) | (with_reducible refine Kd.C_alloc ?_ _) | (with_reducible refine Kd.C_drewN ?_ _) | (with_reducible refine Kd.C_drew ?_))); (case side2 => exact HC2.out); rintro e w23 ⟨rfl, hb⟩; have n0_ := Aside0.mk (below_step (by repeat (first | (with_reducible first | exact HB.out | apply below_alloc | apply pw_below_drewN | apply below_drew1) | exact HB.out)) hb); clear HB; have HB := n0_; clear n0_; (try clear hb); (try clear hb2); (try clear hk); (try clear hi)))
   repeat (go_quiet (first | (go_at_call 9; (with_reducible refine (laws_zzFits25.calls k _ _ l2 false _ ?side1 ?side2 A9.out).mono ?_); (case side1 => repeat (first | exact (Kd.C_below HR2.out HB.out) | (with_reducible refine Kd.C_alloc ?_ _) | (with_reducible refine Kd.C_drewN ?_ _) | (with_reducible refine Kd.C_drew ?_))); (case side2 => exact HC2.out); rintro e w23 ⟨rfl, hb⟩; have n0_ := Aside0.mk (below_step (by repeat (first | (with_reducible first | exact HB.out | apply below_alloc | apply pw_below_drewN | apply below_drew1) | exact HB.out)) hb); clear HB; have HB := n0_; clear n0_; (try clear hb); (try clear hb2); (try clear hk); (try clear hi))); try go_wp2_with (first | (go_at_call 9; (with_reducible refine (laws_zzFits25.calls k _ _ l2 false _ ?side1 ?side2 A9.out).mono ?_); (case side1 => repeat (first | exact (Kd.C_below HR2.out HB.out) | (with_reducible refine Kd.C_alloc ?_ _) | (with_reducible refine Kd.C_drewN ?_ _) | (with_reducible refine Kd.C_drew ?_))); (case side2 => exact HC2.out); rintro e w23 ⟨rfl, hb⟩; have n0_ := Aside0.mk (below_step (by repeat (first | (with_reducible first | exact HB.out | apply below_alloc | apply pw_below_drewN | apply below_drew1) | exact HB.out)) hb); clear HB; have HB := n0_; clear n0_; (try clear hb); (try clear hb2); (try clear hk); (try clear hi))))
   go_meet
   case rel => exact ⟨_, (true), (by first | rfl | (simp; done) | (simp [*]; done)), H', ⟨by first | omega | exact Nat.le_refl _⟩, ⟨by repeat (first | (with_reducible first | exact HB.out | apply below_alloc | apply pw_below_drewN | apply below_drew1) | exact HB.out)⟩⟩
 case rest =>
  clear HC8
  try clear c1
  try clear c2
  try clear p2
  try clear c3
  try clear c8
  try clear c10
  try clear c12
  try clear c13
  try clear c13b0
  try clear c13b1
  try clear c16
  try clear c16b0
  try clear c16b1
  obtain ⟨kq, x47_7, rfl, HA, HJ7, HB⟩ := hcut
  cases kq with
  | zero => exact absurd HA.out (by simp [laws_FnRolesUndone.j0])
  | succ kj7 =>
   have H := HA.out
   clear HA
   simp only [laws_FnRolesUndone.j0] at H
   by_cases c24 : x47_7 = true
   ·subst c24
    have H1 : (some true) = some r := by rw [if_pos rfl] at H; exact H
    clear H
    have H := H1
    clear H1
    obtain rfl := Option.some.inj H
    go_wp2
    repeat (go_quiet (fail); try go_wp2)
    go_ret
    exact ⟨by first | rfl | (simp [errW_none, errW_some] <;> rfl) | (simp [*, errW_none, errW_some] <;> rfl), by repeat (first | (with_reducible first | exact HB.out | apply below_alloc | apply pw_below_drewN | apply below_drew1) | exact HB.out)⟩
   ·replace c24 := Bool.eq_false_iff.mpr c24
    subst c24
    have H1 : (if a0 < 1 then (laws_FnRolesUndone.j1 kj7 a0 a1 l2 l3 a4 a5 a6 true) else (if a0 > 20 then (laws_FnRolesUndone.j1 kj7 a0 a1 l2 l3 a4 a5 a6 true) else ((laws_links.f kj7 l2 a1).bind fun t183 => (if t183 = true then ((laws_links.f kj7 l3 a1).bind fun t184 => (if t184 = true then ((laws_named.f kj7 a4 a5 a6 a1).bind fun t185 => (laws_FnRolesUndone.j1 kj7 a0 a1 l2 l3 a4 a5 a6 (!t185))) else (laws_FnRolesUndone.j1 kj7 a0 a1 l2 l3 a4 a5 a6 true))) else (laws_FnRolesUndone.j1 kj7 a0 a1 l2 l3 a4 a5 a6 true))))) = some r := by rw [if_neg (show ¬ (false = true) by decide)] at H; exact H
    clear H
    have H := H1
    clear H1
    have HC25 := Aside0.mk H
    clear H
    go_upto_region 3 with (fail)
    repeat (go_quiet (fail); go_upto_region 3 with (fail))
    go_cut [73] (fun v73 wc => ∃ (kq : Nat) (x73_24 : Bool), v73 = .bool x73_24 ∧ Aside0 (laws_FnRolesUndone.j1 kq a0 a1 l2 l3 a4 a5 a6 x73_24 = some r) ∧ Aside0 (kq ≤ kj7) ∧ Aside0 (Below w.heap.size w wc))
    case first =>
     have H := HC25.out
     clear HC25
     by_cases c26 : a0 < 1
     ·rw [if_pos c26] at H
      have c26b0 : decide (a0 < 1) = true := decide_eq_true c26
      clear c26
      (first | rw [c26b0] | (simp only [i64_w, i32_w]; rw [c26b0]) | skip)
      have H' := Aside0.mk H
      clear H
      go_wp2
      repeat (go_quiet (fail); try go_wp2)
      go_meet
      case rel => exact ⟨_, (true), (by first | rfl | (simp; done) | (simp [*]; done)), H', ⟨by have := HJ7.out; first | omega | exact Nat.le_refl _⟩, ⟨by repeat (first | (with_reducible first | exact HB.out | apply below_alloc | apply pw_below_drewN | apply below_drew1) | exact HB.out)⟩⟩
     ·rw [if_neg c26] at H
      have c26b0 : decide (a0 < 1) = false := decide_eq_false c26
      clear c26
      (first | rw [c26b0] | (simp only [i64_w, i32_w]; rw [c26b0]) | skip)
      by_cases c27 : a0 > 20
      ·rw [if_pos c27] at H
       have c27b0 : decide (20 < a0) = true := decide_eq_true c27
       clear c27
       have H' := Aside0.mk H
       clear H
       go_wp2
       repeat (go_quiet (fail); try go_wp2)
       go_meet
       case rel => exact ⟨_, (true), (by first | rfl | (simp; done) | (simp [*]; done)), H', ⟨by have := HJ7.out; first | omega | exact Nat.le_refl _⟩, ⟨by repeat (first | (with_reducible first | exact HB.out | apply below_alloc | apply pw_below_drewN | apply below_drew1) | exact HB.out)⟩⟩
      ·rw [if_neg c27] at H
       have c27b0 : decide (20 < a0) = false := decide_eq_false c27
       clear c27
       replace H := Option.bind_eq_some_iff.mp H
       obtain ⟨t183, A280, H⟩ := H
       replace H : (if t183 = true then ((laws_links.f kj7 l3 a1).bind fun t184 => (if t184 = true then ((laws_named.f kj7 a4 a5 a6 a1).bind fun t185 => (laws_FnRolesUndone.j1 kj7 a0 a1 l2 l3 a4 a5 a6 (!t185))) else (laws_FnRolesUndone.j1 kj7 a0 a1 l2 l3 a4 a5 a6 true))) else (laws_FnRolesUndone.j1 kj7 a0 a1 l2 l3 a4 a5 a6 true)) = some r := H
       have A28 := Aside0.mk A280
       clear A280
       by_cases c29 : t183 = true
       ·subst c29
        have H1 : ((laws_links.f kj7 l3 a1).bind fun t184 => (if t184 = true then ((laws_named.f kj7 a4 a5 a6 a1).bind fun t185 => (laws_FnRolesUndone.j1 kj7 a0 a1 l2 l3 a4 a5 a6 (!t185))) else (laws_FnRolesUndone.j1 kj7 a0 a1 l2 l3 a4 a5 a6 true))) = some r := by rw [if_pos rfl] at H; exact H
        clear H
        have H := H1
        clear H1
        replace H := Option.bind_eq_some_iff.mp H
        obtain ⟨t184, A300, H⟩ := H
        replace H : (if t184 = true then ((laws_named.f kj7 a4 a5 a6 a1).bind fun t185 => (laws_FnRolesUndone.j1 kj7 a0 a1 l2 l3 a4 a5 a6 (!t185))) else (laws_FnRolesUndone.j1 kj7 a0 a1 l2 l3 a4 a5 a6 true)) = some r := H
        have A30 := Aside0.mk A300
        clear A300
        by_cases c31 : t184 = true
        ·subst c31
         have H1 : ((laws_named.f kj7 a4 a5 a6 a1).bind fun t185 => (laws_FnRolesUndone.j1 kj7 a0 a1 l2 l3 a4 a5 a6 (!t185))) = some r := by rw [if_pos rfl] at H; exact H
         clear H
         have H := H1
         clear H1
         replace H := Option.bind_eq_some_iff.mp H
         obtain ⟨t185, A320, H⟩ := H
         replace H : (laws_FnRolesUndone.j1 kj7 a0 a1 l2 l3 a4 a5 a6 (!t185)) = some r := H
         have A32 := Aside0.mk A320
         clear A320
         have H' := Aside0.mk H
         clear H
         go_wp2_with (first | (go_at_call 10; (with_reducible refine (laws_links.calls kj7 _ _ l2 a1 true _ ?side1 ?side2 A28.out).mono ?_); (case side1 => repeat (first | exact (Kd.C_below HR2.out HB.out) | (with_reducible refine Kd.C_alloc ?_ _) | (with_reducible refine Kd.C_drewN ?_ _) | (with_reducible refine Kd.C_drew ?_))); (case side2 => exact HC2.out); rintro e w' ⟨rfl, ⟨nd, rfl⟩⟩; (try first | exact ⟨rfl, _, World.drewN_drewN _ _ _⟩ | exact ⟨rfl, _, Eq.trans (World.drewN_drewN _ _ _) (congrArg (World.drewN _) (Nat.add_assoc _ _ _))⟩)) | (go_at_call 10; (with_reducible refine (laws_links.calls kj7 _ _ l3 a1 true _ ?side1 ?side2 A30.out).mono ?_); (case side1 => repeat (first | exact (Kd.C_below HR3.out (by repeat (first | (with_reducible first | exact HB.out | apply below_alloc | apply pw_below_drewN | apply below_drew1) | exact HB.out))) | (with_reducible refine Kd.C_alloc ?_ _) | (with_reducible refine Kd.C_drewN ?_ _) | (with_reducible refine Kd.C_drew ?_))); (case side2 => exact HC3.out); rintro e w' ⟨rfl, ⟨nd, rfl⟩⟩; (try first | exact ⟨rfl, _, World.drewN_drewN _ _ _⟩ | exact ⟨rfl, _, Eq.trans (World.drewN_drewN _ _ _) (congrArg (World.drewN _) (Nat.add_assoc _ _ _))⟩)) | (go_at_call 11; (with_reducible refine (laws_named.calls kj7 a4 a5 a6 a1 t185 _ A32.out).mono ?_); rintro e w' ⟨rfl, ⟨nd, rfl⟩⟩; (try first | exact ⟨rfl, _, World.drewN_drewN _ _ _⟩ | exact ⟨rfl, _, Eq.trans (World.drewN_drewN _ _ _) (congrArg (World.drewN _) (Nat.add_assoc _ _ _))⟩)))
         repeat (go_quiet (first | (go_at_call 10; (with_reducible refine (laws_links.calls kj7 _ _ l2 a1 true _ ?side1 ?side2 A28.out).mono ?_); (case side1 => repeat (first | exact (Kd.C_below HR2.out HB.out) | (with_reducible refine Kd.C_alloc ?_ _) | (with_reducible refine Kd.C_drewN ?_ _) | (with_reducible refine Kd.C_drew ?_))); (case side2 => exact HC2.out); rintro e w' ⟨rfl, ⟨nd, rfl⟩⟩; (try first | exact ⟨rfl, _, World.drewN_drewN _ _ _⟩ | exact ⟨rfl, _, Eq.trans (World.drewN_drewN _ _ _) (congrArg (World.drewN _) (Nat.add_assoc _ _ _))⟩)) | (go_at_call 10; (with_reducible refine (laws_links.calls kj7 _ _ l3 a1 true _ ?side1 ?side2 A30.out).mono ?_); (case side1 => repeat (first | exact (Kd.C_below HR3.out (by repeat (first | (with_reducible first | exact HB.out | apply below_alloc | apply pw_below_drewN | apply below_drew1) | exact HB.out))) | (with_reducible refine Kd.C_alloc ?_ _) | (with_reducible refine Kd.C_drewN ?_ _) | (with_reducible refine Kd.C_drew ?_))); (case side2 => exact HC3.out); rintro e w' ⟨rfl, ⟨nd, rfl⟩⟩; (try first | exact ⟨rfl, _, World.drewN_drewN _ _ _⟩ | exact ⟨rfl, _, Eq.trans (World.drewN_drewN _ _ _) (congrArg (World.drewN _) (Nat.add_assoc _ _ _))⟩)) | (go_at_call 11; (with_reducible refine (laws_named.calls kj7 a4 a5 a6 a1 t185 _ A32.out).mono ?_); rintro e w' ⟨rfl, ⟨nd, rfl⟩⟩; (try first | exact ⟨rfl, _, World.drewN_drewN _ _ _⟩ | exact ⟨rfl, _, Eq.trans (World.drewN_drewN _ _ _) (congrArg (World.drewN _) (Nat.add_assoc _ _ _))⟩))); try go_wp2_with (first | (go_at_call 10; (with_reducible refine (laws_links.calls kj7 _ _ l2 a1 true _ ?side1 ?side2 A28.out).mono ?_); (case side1 => repeat (first | exact (Kd.C_below HR2.out HB.out) | (with_reducible refine Kd.C_alloc ?_ _) | (with_reducible refine Kd.C_drewN ?_ _) | (with_reducible refine Kd.C_drew ?_))); (case side2 => exact HC2.out); rintro e w' ⟨rfl, ⟨nd, rfl⟩⟩; (try first | exact ⟨rfl, _, World.drewN_drewN _ _ _⟩ | exact ⟨rfl, _, Eq.trans (World.drewN_drewN _ _ _) (congrArg (World.drewN _) (Nat.add_assoc _ _ _))⟩)) | (go_at_call 10; (with_reducible refine (laws_links.calls kj7 _ _ l3 a1 true _ ?side1 ?side2 A30.out).mono ?_); (case side1 => repeat (first | exact (Kd.C_below HR3.out (by repeat (first | (with_reducible first | exact HB.out | apply below_alloc | apply pw_below_drewN | apply below_drew1) | exact HB.out))) | (with_reducible refine Kd.C_alloc ?_ _) | (with_reducible refine Kd.C_drewN ?_ _) | (with_reducible refine Kd.C_drew ?_))); (case side2 => exact HC3.out); rintro e w' ⟨rfl, ⟨nd, rfl⟩⟩; (try first | exact ⟨rfl, _, World.drewN_drewN _ _ _⟩ | exact ⟨rfl, _, Eq.trans (World.drewN_drewN _ _ _) (congrArg (World.drewN _) (Nat.add_assoc _ _ _))⟩)) | (go_at_call 11; (with_reducible refine (laws_named.calls kj7 a4 a5 a6 a1 t185 _ A32.out).mono ?_); rintro e w' ⟨rfl, ⟨nd, rfl⟩⟩; (try first | exact ⟨rfl, _, World.drewN_drewN _ _ _⟩ | exact ⟨rfl, _, Eq.trans (World.drewN_drewN _ _ _) (congrArg (World.drewN _) (Nat.add_assoc _ _ _))⟩))))
         go_meet
         case rel => exact ⟨_, (!t185), (by first | rfl | (simp; done) | (simp [*]; done)), H', ⟨by have := HJ7.out; first | omega | exact Nat.le_refl _⟩, ⟨by repeat (first | (with_reducible first | exact HB.out | apply below_alloc | apply pw_below_drewN | apply below_drew1) | exact HB.out)⟩⟩
        ·replace c31 := Bool.eq_false_iff.mpr c31
         subst c31
         have H1 : (laws_FnRolesUndone.j1 kj7 a0 a1 l2 l3 a4 a5 a6 true) = some r := by rw [if_neg (show ¬ (false = true) by decide)] at H; exact H
         clear H
         have H := H1
         clear H1
         have H' := Aside0.mk H
         clear H
         go_wp2_with (first | (go_at_call 10; (with_reducible refine (laws_links.calls kj7 _ _ l2 a1 true _ ?side1 ?side2 A28.out).mono ?_); (case side1 => repeat (first | exact (Kd.C_below HR2.out HB.out) | (with_reducible refine Kd.C_alloc ?_ _) | (with_reducible refine Kd.C_drewN ?_ _) | (with_reducible refine Kd.C_drew ?_))); (case side2 => exact HC2.out); rintro e w' ⟨rfl, ⟨nd, rfl⟩⟩; (try first | exact ⟨rfl, _, World.drewN_drewN _ _ _⟩ | exact ⟨rfl, _, Eq.trans (World.drewN_drewN _ _ _) (congrArg (World.drewN _) (Nat.add_assoc _ _ _))⟩)) | (go_at_call 10; (with_reducible refine (laws_links.calls kj7 _ _ l3 a1 false _ ?side1 ?side2 A30.out).mono ?_); (case side1 => repeat (first | exact (Kd.C_below HR3.out (by repeat (first | (with_reducible first | exact HB.out | apply below_alloc | apply pw_below_drewN | apply below_drew1) | exact HB.out))) | (with_reducible refine Kd.C_alloc ?_ _) | (with_reducible refine Kd.C_drewN ?_ _) | (with_reducible refine Kd.C_drew ?_))); (case side2 => exact HC3.out); rintro e w' ⟨rfl, ⟨nd, rfl⟩⟩; (try first | exact ⟨rfl, _, World.drewN_drewN _ _ _⟩ | exact ⟨rfl, _, Eq.trans (World.drewN_drewN _ _ _) (congrArg (World.drewN _) (Nat.add_assoc _ _ _))⟩)))
         repeat (go_quiet (first | (go_at_call 10; (with_reducible refine (laws_links.calls kj7 _ _ l2 a1 true _ ?side1 ?side2 A28.out).mono ?_); (case side1 => repeat (first | exact (Kd.C_below HR2.out HB.out) | (with_reducible refine Kd.C_alloc ?_ _) | (with_reducible refine Kd.C_drewN ?_ _) | (with_reducible refine Kd.C_drew ?_))); (case side2 => exact HC2.out); rintro e w' ⟨rfl, ⟨nd, rfl⟩⟩; (try first | exact ⟨rfl, _, World.drewN_drewN _ _ _⟩ | exact ⟨rfl, _, Eq.trans (World.drewN_drewN _ _ _) (congrArg (World.drewN _) (Nat.add_assoc _ _ _))⟩)) | (go_at_call 10; (with_reducible refine (laws_links.calls kj7 _ _ l3 a1 false _ ?side1 ?side2 A30.out).mono ?_); (case side1 => repeat (first | exact (Kd.C_below HR3.out (by repeat (first | (with_reducible first | exact HB.out | apply below_alloc | apply pw_below_drewN | apply below_drew1) | exact HB.out))) | (with_reducible refine Kd.C_alloc ?_ _) | (with_reducible refine Kd.C_drewN ?_ _) | (with_reducible refine Kd.C_drew ?_))); (case side2 => exact HC3.out); rintro e w' ⟨rfl, ⟨nd, rfl⟩⟩; (try first | exact ⟨rfl, _, World.drewN_drewN _ _ _⟩ | exact ⟨rfl, _, Eq.trans (World.drewN_drewN _ _ _) (congrArg (World.drewN _) (Nat.add_assoc _ _ _))⟩))); try go_wp2_with (first | (go_at_call 10; (with_reducible refine (laws_links.calls kj7 _ _ l2 a1 true _ ?side1 ?side2 A28.out).mono ?_); (case side1 => repeat (first | exact (Kd.C_below HR2.out HB.out) | (with_reducible refine Kd.C_alloc ?_ _) | (with_reducible refine Kd.C_drewN ?_ _) | (with_reducible refine Kd.C_drew ?_))); (case side2 => exact HC2.out); rintro e w' ⟨rfl, ⟨nd, rfl⟩⟩; (try first | exact ⟨rfl, _, World.drewN_drewN _ _ _⟩ | exact ⟨rfl, _, Eq.trans (World.drewN_drewN _ _ _) (congrArg (World.drewN _) (Nat.add_assoc _ _ _))⟩)) | (go_at_call 10; (with_reducible refine (laws_links.calls kj7 _ _ l3 a1 false _ ?side1 ?side2 A30.out).mono ?_); (case side1 => repeat (first | exact (Kd.C_below HR3.out (by repeat (first | (with_reducible first | exact HB.out | apply below_alloc | apply pw_below_drewN | apply below_drew1) | exact HB.out))) | (with_reducible refine Kd.C_alloc ?_ _) | (with_reducible refine Kd.C_drewN ?_ _) | (with_reducible refine Kd.C_drew ?_))); (case side2 => exact HC3.out); rintro e w' ⟨rfl, ⟨nd, rfl⟩⟩; (try first | exact ⟨rfl, _, World.drewN_drewN _ _ _⟩ | exact ⟨rfl, _, Eq.trans (World.drewN_drewN _ _ _) (congrArg (World.drewN _) (Nat.add_assoc _ _ _))⟩))))
         go_meet
         case rel => exact ⟨_, (true), (by first | rfl | (simp; done) | (simp [*]; done)), H', ⟨by have := HJ7.out; first | omega | exact Nat.le_refl _⟩, ⟨by repeat (first | (with_reducible first | exact HB.out | apply below_alloc | apply pw_below_drewN | apply below_drew1) | exact HB.out)⟩⟩
       ·replace c29 := Bool.eq_false_iff.mpr c29
        subst c29
        have H1 : (laws_FnRolesUndone.j1 kj7 a0 a1 l2 l3 a4 a5 a6 true) = some r := by rw [if_neg (show ¬ (false = true) by decide)] at H; exact H
        clear H
        have H := H1
        clear H1
        have H' := Aside0.mk H
        clear H
        go_wp2_with (first | (go_at_call 10; (with_reducible refine (laws_links.calls kj7 _ _ l2 a1 false _ ?side1 ?side2 A28.out).mono ?_); (case side1 => repeat (first | exact (Kd.C_below HR2.out HB.out) | (with_reducible refine Kd.C_alloc ?_ _) | (with_reducible refine Kd.C_drewN ?_ _) | (with_reducible refine Kd.C_drew ?_))); (case side2 => exact HC2.out); rintro e w' ⟨rfl, ⟨nd, rfl⟩⟩; (try first | exact ⟨rfl, _, World.drewN_drewN _ _ _⟩ | exact ⟨rfl, _, Eq.trans (World.drewN_drewN _ _ _) (congrArg (World.drewN _) (Nat.add_assoc _ _ _))⟩)))
        repeat (go_quiet (first | (go_at_call 10; (with_reducible refine (laws_links.calls kj7 _ _ l2 a1 false _ ?side1 ?side2 A28.out).mono ?_); (case side1 => repeat (first | exact (Kd.C_below HR2.out HB.out) | (with_reducible refine Kd.C_alloc ?_ _) | (with_reducible refine Kd.C_drewN ?_ _) | (with_reducible refine Kd.C_drew ?_))); (case side2 => exact HC2.out); rintro e w' ⟨rfl, ⟨nd, rfl⟩⟩; (try first | exact ⟨rfl, _, World.drewN_drewN _ _ _⟩ | exact ⟨rfl, _, Eq.trans (World.drewN_drewN _ _ _) (congrArg (World.drewN _) (Nat.add_assoc _ _ _))⟩))); try go_wp2_with (first | (go_at_call 10; (with_reducible refine (laws_links.calls kj7 _ _ l2 a1 false _ ?side1 ?side2 A28.out).mono ?_); (case side1 => repeat (first | exact (Kd.C_below HR2.out HB.out) | (with_reducible refine Kd.C_alloc ?_ _) | (with_reducible refine Kd.C_drewN ?_ _) | (with_reducible refine Kd.C_drew ?_))); (case side2 => exact HC2.out); rintro e w' ⟨rfl, ⟨nd, rfl⟩⟩; (try first | exact ⟨rfl, _, World.drewN_drewN _ _ _⟩ | exact ⟨rfl, _, Eq.trans (World.drewN_drewN _ _ _) (congrArg (World.drewN _) (Nat.add_assoc _ _ _))⟩))))
        go_meet
        case rel => exact ⟨_, (true), (by first | rfl | (simp; done) | (simp [*]; done)), H', ⟨by have := HJ7.out; first | omega | exact Nat.le_refl _⟩, ⟨by repeat (first | (with_reducible first | exact HB.out | apply below_alloc | apply pw_below_drewN | apply below_drew1) | exact HB.out)⟩⟩
    case rest =>
     clear HC25
     try clear c1
     try clear c2
     try clear p2
     try clear c3
     try clear c8
     try clear c10
     try clear c12
     try clear c13
     try clear c13b0
     try clear c13b1
     try clear c16
     try clear c16b0
     try clear c16b1
     try clear c24
     try clear c26
     try clear c26b0
     try clear c27
     try clear c27b0
     try clear c29
     try clear c31
     try clear p2
     obtain ⟨kq, x73_24, rfl, HA, HJ24, HB⟩ := hcut
     cases kq with
     | zero => exact absurd HA.out (by simp [laws_FnRolesUndone.j1])
     | succ kj24 =>
      have H := HA.out
      clear HA
      simp only [laws_FnRolesUndone.j1] at H
      by_cases c33 : x73_24 = true
      ·subst c33
       have H1 : ((laws_awakeRoles.f kj24).bind fun t186 => (some t186)) = some r := by rw [if_pos rfl] at H; exact H
       clear H
       have H := H1
       clear H1
       replace H := Option.bind_eq_some_iff.mp H
       obtain ⟨t186, A340, H⟩ := H
       replace H : (some t186) = some r := H
       have A34 := Aside0.mk A340
       clear A340
       obtain rfl := Option.some.inj H
       go_wp2_with (first | (go_at_call 12; (with_reducible refine (laws_awakeRoles.calls kj24  t186 _ A34.out).mono ?_); rintro e w35 ⟨rfl, hb⟩; have n0_ := Aside0.mk (below_step (by repeat (first | (with_reducible first | exact HB.out | apply below_alloc | apply pw_below_drewN | apply below_drew1) | exact HB.out)) hb); clear HB; have HB := n0_; clear n0_; (try clear hb); (try clear hb2); (try clear hk); (try clear hi)))
       repeat (go_quiet (first | (go_at_call 12; (with_reducible refine (laws_awakeRoles.calls kj24  t186 _ A34.out).mono ?_); rintro e w35 ⟨rfl, hb⟩; have n0_ := Aside0.mk (below_step (by repeat (first | (with_reducible first | exact HB.out | apply below_alloc | apply pw_below_drewN | apply below_drew1) | exact HB.out)) hb); clear HB; have HB := n0_; clear n0_; (try clear hb); (try clear hb2); (try clear hk); (try clear hi))); try go_wp2_with (first | (go_at_call 12; (with_reducible refine (laws_awakeRoles.calls kj24  t186 _ A34.out).mono ?_); rintro e w35 ⟨rfl, hb⟩; have n0_ := Aside0.mk (below_step (by repeat (first | (with_reducible first | exact HB.out | apply below_alloc | apply pw_below_drewN | apply below_drew1) | exact HB.out)) hb); clear HB; have HB := n0_; clear n0_; (try clear hb); (try clear hb2); (try clear hk); (try clear hi))))
       go_ret
       exact ⟨by first | rfl | (simp [errW_none, errW_some] <;> rfl) | (simp [*, errW_none, errW_some] <;> rfl), by repeat (first | (with_reducible first | exact HB.out | apply below_alloc | apply pw_below_drewN | apply below_drew1) | exact HB.out)⟩
      ·replace c33 := Bool.eq_false_iff.mpr c33
       subst c33
       have H1 : (laws_FnRolesUndone.l0 kj24 a0 a1 l2 l3 a4 a5 a6 0) = some r := by rw [if_neg (show ¬ (false = true) by decide)] at H; exact H
       clear H
       have H := H1
       clear H1
       have H' := Aside0.mk H
       clear H
       go_wp2
       repeat (go_quiet (fail); try go_wp2)
       go_loopg [15] kj24 (fun kq v15 w' => ∃ (x15_3 : Int), v15 = .int .i64 x15_3 ∧ Aside0 (laws_FnRolesUndone.l0 kq a0 a1 l2 l3 a4 a5 a6 x15_3 = some r) ∧ Aside0 (kq ≤ kj24) ∧ Aside0 (Below w.heap.size w w'))
       case atStart => exact ⟨(0), (by first | rfl | (simp; done) | (simp [*]; done)), H', ⟨Nat.le_refl _⟩, ⟨by repeat (first | (with_reducible first | exact HB.out | apply below_alloc | apply pw_below_drewN | apply below_drew1) | exact HB.out)⟩⟩
       case round =>
        clear H'
        try clear c1
        try clear c2
        try clear p2
        try clear c3
        try clear c8
        try clear c10
        try clear c12
        try clear c13
        try clear c13b0
        try clear c13b1
        try clear c16
        try clear c16b0
        try clear c16b1
        try clear c24
        try clear c26
        try clear c26b0
        try clear c27
        try clear c27b0
        try clear c29
        try clear c31
        try clear c33
        try clear p2
        obtain ⟨x15_3, rfl, HA, HK3, HB⟩ := hrel
        cases gk with
        | zero => exact absurd HA.out (by simp [laws_FnRolesUndone.l0])
        | succ k3 =>
         have H := HA.out
         clear HA
         simp only [laws_FnRolesUndone.l0] at H
         by_cases c36 : x15_3 < (l3.length : Int)
         ·rw [if_pos c36] at H
          have c36b0 : decide (x15_3 < (l3.length : Int)) = true := decide_eq_true c36
          clear c36
          have H' := Aside0.mk H
          clear H
          go_wp2
          repeat (go_quiet (fail); try go_wp2)
          go_loopg [16] k3 (fun kq v16 w' => ∃ (x16_4 : Int), v16 = .int .i64 x16_4 ∧ Aside0 (laws_FnRolesUndone.l1 kq a0 a1 l2 l3 a4 a5 a6 x15_3 x16_4 = some r) ∧ Aside0 (kq ≤ k3) ∧ Aside0 (Below w.heap.size w w'))
          case atStart => exact ⟨(0), (by first | rfl | (simp; done) | (simp [*]; done)), H', ⟨Nat.le_refl _⟩, ⟨by repeat (first | (with_reducible first | exact HB.out | apply below_alloc | apply pw_below_drewN | apply below_drew1) | exact HB.out)⟩⟩
          case round =>
           clear H'
           try clear c1
           try clear c2
           try clear p2
           try clear c3
           try clear c8
           try clear c10
           try clear c12
           try clear c13
           try clear c13b0
           try clear c13b1
           try clear c16
           try clear c16b0
           try clear c16b1
           try clear c24
           try clear c26
           try clear c26b0
           try clear c27
           try clear c27b0
           try clear c29
           try clear c31
           try clear c33
           try clear c36
           try clear c36b0
           try clear p2
           obtain ⟨x16_4, rfl, HA, HK4, HB⟩ := hrel
           cases gk with
           | zero => exact absurd HA.out (by simp [laws_FnRolesUndone.l1])
           | succ k4 =>
            have H := HA.out
            clear HA
            simp only [laws_FnRolesUndone.l1] at H
            by_cases c37 : x16_4 < (l2.length : Int)
            ·rw [if_pos c37] at H
             have c37b0 : decide (x16_4 < (l2.length : Int)) = true := decide_eq_true c37
             clear c37
             by_cases c38 : 0 ≤ x16_4
             ·rw [if_pos c38] at H
              have c38b0 : decide (0 ≤ x16_4) = true := decide_eq_true c38
              clear c38
              by_cases c39 : 0 ≤ x15_3
              ·rw [if_pos c39] at H
               have c39b0 : decide (0 ≤ x15_3) = true := decide_eq_true c39
               clear c39
               by_cases c40 : x15_3 < (l3.length : Int)
               ·rw [if_pos c40] at H
                have c40b0 : decide (x15_3 < (l3.length : Int)) = true := decide_eq_true c40
                clear c40
                by_cases c41 : ((((rd_T28 l2 x16_4).f0).toList) == (((rd_T28 l3 x15_3).f0).toList) && ((((rd_T28 l2 x16_4).f1).toList) == (((rd_T28 l3 x15_3).f1).toList) && ((((rd_T28 l2 x16_4).f2).toList) == (((rd_T28 l3 x15_3).f2).toList)))) = true
                ·rw [if_pos c41] at H
                 have c41b0 : ((((rd_T28 l2 x16_4).f0).toList) == (((rd_T28 l3 x15_3).f0).toList) && ((((rd_T28 l2 x16_4).f1).toList) == (((rd_T28 l3 x15_3).f1).toList) && ((((rd_T28 l2 x16_4).f2).toList) == (((rd_T28 l3 x15_3).f2).toList)))) = true := c41
                 (try (have c41b1 : decide ((((rd_T28 l2 x16_4).f0).toList) = (((rd_T28 l3 x15_3).f0).toList) && ((((rd_T28 l2 x16_4).f1).toList) == (((rd_T28 l3 x15_3).f1).toList) && ((((rd_T28 l2 x16_4).f2).toList) == (((rd_T28 l3 x15_3).f2).toList)))) = true := by simpa using c41))
                 (try (have c41b2 : ((((rd_T28 l2 x16_4).f0).toList) == (((rd_T28 l3 x15_3).f0).toList) && ((((rd_T28 l2 x16_4).f1).toList) == (((rd_T28 l3 x15_3).f1).toList) && ((((rd_T28 l2 x16_4).f2).toList) == (((rd_T28 l3 x15_3).f2).toList)))) = true := by simpa using c41))
                 clear c41
                 replace H := Option.bind_eq_some_iff.mp H
                 obtain ⟨t189, A420, H⟩ := H
                 replace H : (some t189) = some r := H
                 have A42 := Aside0.mk A420
                 clear A420
                 obtain rfl := Option.some.inj H
                 have p187 : 0 ≤ (x16_4 : Int) := of_decide_eq_true (by first | (with_reducible assumption) | assumption)
                 have q187 : x16_4 < (l2.length : Int) := of_decide_eq_true (by first | (with_reducible assumption) | assumption)
                 obtain ⟨ad187, e187, hx187_0, hx187_1, hx187_2⟩ := at_T28 HR2.out x16_4 p187 q187
                 cases e187
                 replace hx187_0 := (HB.out.cell (World.block_lt_of_cell? w _ hx187_0)).trans hx187_0
                 replace hx187_1 := (HB.out.cell (World.block_lt_of_cell? w _ hx187_1)).trans hx187_1
                 replace hx187_2 := (HB.out.cell (World.block_lt_of_cell? w _ hx187_2)).trans hx187_2
                 replace p187 := eq_true p187
                 replace q187 := eq_true q187
                 have p188 : 0 ≤ (x15_3 : Int) := of_decide_eq_true (by first | (with_reducible assumption) | assumption)
                 have q188 : x15_3 < (l3.length : Int) := of_decide_eq_true (by first | (with_reducible assumption) | assumption)
                 obtain ⟨ad188, e188, hx188_0, hx188_1, hx188_2⟩ := at_T28 HR3.out x15_3 p188 q188
                 cases e188
                 replace hx188_0 := (HB.out.cell (World.block_lt_of_cell? w _ hx188_0)).trans hx188_0
                 replace hx188_1 := (HB.out.cell (World.block_lt_of_cell? w _ hx188_1)).trans hx188_1
                 replace hx188_2 := (HB.out.cell (World.block_lt_of_cell? w _ hx188_2)).trans hx188_2
                 replace p188 := eq_true p188
                 replace q188 := eq_true q188
                 go_wp2_with (first | (go_at_call 12; (with_reducible refine (laws_awakeRoles.calls k4  t189 _ A42.out).mono ?_); rintro e w43 ⟨rfl, hb⟩; have n0_ := Aside0.mk (below_step (by repeat (first | (with_reducible first | exact HB.out | apply below_alloc | apply pw_below_drewN | apply below_drew1) | exact HB.out)) hb); clear HB; have HB := n0_; clear n0_; (try clear hb); (try clear hb2); (try clear hk); (try clear hi)))
                 repeat (go_quiet (first | (go_at_call 12; (with_reducible refine (laws_awakeRoles.calls k4  t189 _ A42.out).mono ?_); rintro e w43 ⟨rfl, hb⟩; have n0_ := Aside0.mk (below_step (by repeat (first | (with_reducible first | exact HB.out | apply below_alloc | apply pw_below_drewN | apply below_drew1) | exact HB.out)) hb); clear HB; have HB := n0_; clear n0_; (try clear hb); (try clear hb2); (try clear hk); (try clear hi))); try go_wp2_with (first | (go_at_call 12; (with_reducible refine (laws_awakeRoles.calls k4  t189 _ A42.out).mono ?_); rintro e w43 ⟨rfl, hb⟩; have n0_ := Aside0.mk (below_step (by repeat (first | (with_reducible first | exact HB.out | apply below_alloc | apply pw_below_drewN | apply below_drew1) | exact HB.out)) hb); clear HB; have HB := n0_; clear n0_; (try clear hb); (try clear hb2); (try clear hk); (try clear hi))))
                 go_ret
                 exact ⟨by first | rfl | (simp [errW_none, errW_some] <;> rfl) | (simp [*, errW_none, errW_some] <;> rfl), by repeat (first | (with_reducible first | exact HB.out | apply below_alloc | apply pw_below_drewN | apply below_drew1) | exact HB.out)⟩
                ·rw [if_neg c41] at H
                 have c41b0 : ((((rd_T28 l2 x16_4).f0).toList) == (((rd_T28 l3 x15_3).f0).toList) && ((((rd_T28 l2 x16_4).f1).toList) == (((rd_T28 l3 x15_3).f1).toList) && ((((rd_T28 l2 x16_4).f2).toList) == (((rd_T28 l3 x15_3).f2).toList)))) = false := by simpa using c41
                 (try (have c41b1 : decide ((((rd_T28 l2 x16_4).f0).toList) = (((rd_T28 l3 x15_3).f0).toList) && ((((rd_T28 l2 x16_4).f1).toList) == (((rd_T28 l3 x15_3).f1).toList) && ((((rd_T28 l2 x16_4).f2).toList) == (((rd_T28 l3 x15_3).f2).toList)))) = false := by simpa using c41))
                 (try (have c41b2 : ((((rd_T28 l2 x16_4).f0).toList) == (((rd_T28 l3 x15_3).f0).toList) && ((((rd_T28 l2 x16_4).f1).toList) == (((rd_T28 l3 x15_3).f1).toList) && ((((rd_T28 l2 x16_4).f2).toList) == (((rd_T28 l3 x15_3).f2).toList)))) = false := by simpa using c41))
                 (try (have c41b3 : ¬ ((((rd_T28 l2 x16_4).f0).toList) = (((rd_T28 l3 x15_3).f0).toList) && ((((rd_T28 l2 x16_4).f1).toList) == (((rd_T28 l3 x15_3).f1).toList) && ((((rd_T28 l2 x16_4).f2).toList) == (((rd_T28 l3 x15_3).f2).toList)))) := by simpa using c41))
                 clear c41
                 have H' := Aside0.mk H
                 clear H
                 have p187 : 0 ≤ (x16_4 : Int) := of_decide_eq_true (by first | (with_reducible assumption) | assumption)
                 have q187 : x16_4 < (l2.length : Int) := of_decide_eq_true (by first | (with_reducible assumption) | assumption)
                 obtain ⟨ad187, e187, hx187_0, hx187_1, hx187_2⟩ := at_T28 HR2.out x16_4 p187 q187
                 cases e187
                 replace hx187_0 := (HB.out.cell (World.block_lt_of_cell? w _ hx187_0)).trans hx187_0
                 replace hx187_1 := (HB.out.cell (World.block_lt_of_cell? w _ hx187_1)).trans hx187_1
                 replace hx187_2 := (HB.out.cell (World.block_lt_of_cell? w _ hx187_2)).trans hx187_2
                 replace p187 := eq_true p187
                 replace q187 := eq_true q187
                 have p188 : 0 ≤ (x15_3 : Int) := of_decide_eq_true (by first | (with_reducible assumption) | assumption)
                 have q188 : x15_3 < (l3.length : Int) := of_decide_eq_true (by first | (with_reducible assumption) | assumption)
                 obtain ⟨ad188, e188, hx188_0, hx188_1, hx188_2⟩ := at_T28 HR3.out x15_3 p188 q188
                 cases e188
                 replace hx188_0 := (HB.out.cell (World.block_lt_of_cell? w _ hx188_0)).trans hx188_0
                 replace hx188_1 := (HB.out.cell (World.block_lt_of_cell? w _ hx188_1)).trans hx188_1
                 replace hx188_2 := (HB.out.cell (World.block_lt_of_cell? w _ hx188_2)).trans hx188_2
                 replace p188 := eq_true p188
                 replace q188 := eq_true q188
                 go_wp2
                 repeat (go_quiet (fail); try go_wp2)
                 go_roundg k4
                 case measure => have := HJ7.out; have := HJ24.out; have := HK3.out; have := HK4.out; omega
                 case rel => exact ⟨(wrap64 (x16_4 + 1)), (by first | rfl | (simp; done) | (simp [*]; done)), H', ⟨by have := HJ7.out; have := HJ24.out; have := HK3.out; have := HK4.out; omega⟩, ⟨by repeat (first | (with_reducible first | exact HB.out | apply below_alloc | apply pw_below_drewN | apply below_drew1) | exact HB.out)⟩⟩
               ·rw [if_neg c40] at H
                exact absurd H (by simp)
              ·rw [if_neg c39] at H
               exact absurd H (by simp)
             ·rw [if_neg c38] at H
              exact absurd H (by simp)
            ·rw [if_neg c37] at H
             have c37b0 : decide (x16_4 < (l2.length : Int)) = false := decide_eq_false c37
             clear c37
             have H' := Aside0.mk H
             clear H
             go_wp2
             repeat (go_quiet (fail); try go_wp2)
             go_loopg [17] k4 (fun kq v17 w' => ∃ (x17_5 : Int), v17 = .int .i64 x17_5 ∧ Aside0 (laws_FnRolesUndone.l2 kq a0 a1 l2 l3 a4 a5 a6 x15_3 x17_5 = some r) ∧ Aside0 (kq ≤ k4) ∧ Aside0 (Below w.heap.size w w'))
             case atStart => exact ⟨(0), (by first | rfl | (simp; done) | (simp [*]; done)), H', ⟨Nat.le_refl _⟩, ⟨by repeat (first | (with_reducible first | exact HB.out | apply below_alloc | apply pw_below_drewN | apply below_drew1) | exact HB.out)⟩⟩
             case round =>
              clear H'
              try clear c1
              try clear p1
              try clear q1
              try clear hx1
              try clear c2
              try clear p2
              try clear c3
              try clear c4
              try clear p6
              try clear c8
              try clear c10
              try clear c12
              try clear c13
              try clear c13b0
              try clear c13b1
              try clear c16
              try clear c16b0
              try clear c16b1
              try clear p18
              try clear q18
              try clear hx18
              try clear c24
              try clear c26
              try clear c26b0
              try clear c27
              try clear c27b0
              try clear c29
              try clear c31
              try clear c33
              try clear c36
              try clear c36b0
              try clear c37
              try clear c37b0
              try clear c38
              try clear c38b0
              try clear c39
              try clear c39b0
              try clear c40
              try clear c40b0
              try clear c41
              try clear c41b0
              try clear c41b1
              try clear c41b2
              try clear hx187_0
              try clear hx187_1
              try clear hx187_2
              try clear hx188_0
              try clear hx188_1
              try clear hx188_2
              try clear p187
              try clear p188
              try clear p2
              try clear q187
              try clear q188
              obtain ⟨x17_5, rfl, HA, HK5, HB⟩ := hrel
              cases gk with
              | zero => exact absurd HA.out (by simp [laws_FnRolesUndone.l2])
              | succ k5 =>
               have H := HA.out
               clear HA
               simp only [laws_FnRolesUndone.l2] at H
               by_cases c44 : x17_5 < x15_3
               ·rw [if_pos c44] at H
                have c44b0 : decide (x17_5 < x15_3) = true := decide_eq_true c44
                clear c44
                by_cases c45 : 0 ≤ x17_5
                ·rw [if_pos c45] at H
                 have c45b0 : decide (0 ≤ x17_5) = true := decide_eq_true c45
                 clear c45
                 by_cases c46 : x17_5 < (l3.length : Int)
                 ·rw [if_pos c46] at H
                  have c46b0 : decide (x17_5 < (l3.length : Int)) = true := decide_eq_true c46
                  clear c46
                  by_cases c47 : 0 ≤ x15_3
                  ·rw [if_pos c47] at H
                   have c47b0 : decide (0 ≤ x15_3) = true := decide_eq_true c47
                   clear c47
                   by_cases c48 : x15_3 < (l3.length : Int)
                   ·rw [if_pos c48] at H
                    have c48b0 : decide (x15_3 < (l3.length : Int)) = true := decide_eq_true c48
                    clear c48
                    by_cases c49 : ((((rd_T28 l3 x17_5).f0).toList) == (((rd_T28 l3 x15_3).f0).toList) && ((((rd_T28 l3 x17_5).f1).toList) == (((rd_T28 l3 x15_3).f1).toList) && ((((rd_T28 l3 x17_5).f2).toList) == (((rd_T28 l3 x15_3).f2).toList)))) = true
                    ·rw [if_pos c49] at H
                     have c49b0 : ((((rd_T28 l3 x17_5).f0).toList) == (((rd_T28 l3 x15_3).f0).toList) && ((((rd_T28 l3 x17_5).f1).toList) == (((rd_T28 l3 x15_3).f1).toList) && ((((rd_T28 l3 x17_5).f2).toList) == (((rd_T28 l3 x15_3).f2).toList)))) = true := c49
                     (try (have c49b1 : decide ((((rd_T28 l3 x17_5).f0).toList) = (((rd_T28 l3 x15_3).f0).toList) && ((((rd_T28 l3 x17_5).f1).toList) == (((rd_T28 l3 x15_3).f1).toList) && ((((rd_T28 l3 x17_5).f2).toList) == (((rd_T28 l3 x15_3).f2).toList)))) = true := by simpa using c49))
                     (try (have c49b2 : ((((rd_T28 l3 x17_5).f0).toList) == (((rd_T28 l3 x15_3).f0).toList) && ((((rd_T28 l3 x17_5).f1).toList) == (((rd_T28 l3 x15_3).f1).toList) && ((((rd_T28 l3 x17_5).f2).toList) == (((rd_T28 l3 x15_3).f2).toList)))) = true := by simpa using c49))
                     clear c49
                     replace H := Option.bind_eq_some_iff.mp H
                     obtain ⟨t192, A500, H⟩ := H
                     replace H : (some t192) = some r := H
                     have A50 := Aside0.mk A500
                     clear A500
                     obtain rfl := Option.some.inj H
                     have p190 : 0 ≤ (x17_5 : Int) := of_decide_eq_true (by first | (with_reducible assumption) | assumption)
                     have q190 : x17_5 < (l3.length : Int) := of_decide_eq_true (by first | (with_reducible assumption) | assumption)
                     obtain ⟨ad190, e190, hx190_0, hx190_1, hx190_2⟩ := at_T28 HR3.out x17_5 p190 q190
                     cases e190
                     replace hx190_0 := (HB.out.cell (World.block_lt_of_cell? w _ hx190_0)).trans hx190_0
                     replace hx190_1 := (HB.out.cell (World.block_lt_of_cell? w _ hx190_1)).trans hx190_1
                     replace hx190_2 := (HB.out.cell (World.block_lt_of_cell? w _ hx190_2)).trans hx190_2
                     replace p190 := eq_true p190
                     replace q190 := eq_true q190
                     have p191 : 0 ≤ (x15_3 : Int) := of_decide_eq_true (by first | (with_reducible assumption) | assumption)
                     have q191 : x15_3 < (l3.length : Int) := of_decide_eq_true (by first | (with_reducible assumption) | assumption)
                     obtain ⟨ad191, e191, hx191_0, hx191_1, hx191_2⟩ := at_T28 HR3.out x15_3 p191 q191
                     obtain rfl : ad190 = ad191 := (by injection e191)
                     replace hx191_0 := (HB.out.cell (World.block_lt_of_cell? w _ hx191_0)).trans hx191_0
                     replace hx191_1 := (HB.out.cell (World.block_lt_of_cell? w _ hx191_1)).trans hx191_1
                     replace hx191_2 := (HB.out.cell (World.block_lt_of_cell? w _ hx191_2)).trans hx191_2
                     replace p191 := eq_true p191
                     replace q191 := eq_true q191
                     go_wp2_with (first | (go_at_call 12; (with_reducible refine (laws_awakeRoles.calls k5  t192 _ A50.out).mono ?_); rintro e w51 ⟨rfl, hb⟩; have n0_ := Aside0.mk (below_step (by repeat (first | (with_reducible first | exact HB.out | apply below_alloc | apply pw_below_drewN | apply below_drew1) | exact HB.out)) hb); clear HB; have HB := n0_; clear n0_; (try clear hb); (try clear hb2); (try clear hk); (try clear hi)))
                     repeat (go_quiet (first | (go_at_call 12; (with_reducible refine (laws_awakeRoles.calls k5  t192 _ A50.out).mono ?_); rintro e w51 ⟨rfl, hb⟩; have n0_ := Aside0.mk (below_step (by repeat (first | (with_reducible first | exact HB.out | apply below_alloc | apply pw_below_drewN | apply below_drew1) | exact HB.out)) hb); clear HB; have HB := n0_; clear n0_; (try clear hb); (try clear hb2); (try clear hk); (try clear hi))); try go_wp2_with (first | (go_at_call 12; (with_reducible refine (laws_awakeRoles.calls k5  t192 _ A50.out).mono ?_); rintro e w51 ⟨rfl, hb⟩; have n0_ := Aside0.mk (below_step (by repeat (first | (with_reducible first | exact HB.out | apply below_alloc | apply pw_below_drewN | apply below_drew1) | exact HB.out)) hb); clear HB; have HB := n0_; clear n0_; (try clear hb); (try clear hb2); (try clear hk); (try clear hi))))
                     go_ret
                     exact ⟨by first | rfl | (simp [errW_none, errW_some] <;> rfl) | (simp [*, errW_none, errW_some] <;> rfl), by repeat (first | (with_reducible first | exact HB.out | apply below_alloc | apply pw_below_drewN | apply below_drew1) | exact HB.out)⟩
                    ·rw [if_neg c49] at H
                     have c49b0 : ((((rd_T28 l3 x17_5).f0).toList) == (((rd_T28 l3 x15_3).f0).toList) && ((((rd_T28 l3 x17_5).f1).toList) == (((rd_T28 l3 x15_3).f1).toList) && ((((rd_T28 l3 x17_5).f2).toList) == (((rd_T28 l3 x15_3).f2).toList)))) = false := by simpa using c49
                     (try (have c49b1 : decide ((((rd_T28 l3 x17_5).f0).toList) = (((rd_T28 l3 x15_3).f0).toList) && ((((rd_T28 l3 x17_5).f1).toList) == (((rd_T28 l3 x15_3).f1).toList) && ((((rd_T28 l3 x17_5).f2).toList) == (((rd_T28 l3 x15_3).f2).toList)))) = false := by simpa using c49))
                     (try (have c49b2 : ((((rd_T28 l3 x17_5).f0).toList) == (((rd_T28 l3 x15_3).f0).toList) && ((((rd_T28 l3 x17_5).f1).toList) == (((rd_T28 l3 x15_3).f1).toList) && ((((rd_T28 l3 x17_5).f2).toList) == (((rd_T28 l3 x15_3).f2).toList)))) = false := by simpa using c49))
                     (try (have c49b3 : ¬ ((((rd_T28 l3 x17_5).f0).toList) = (((rd_T28 l3 x15_3).f0).toList) && ((((rd_T28 l3 x17_5).f1).toList) == (((rd_T28 l3 x15_3).f1).toList) && ((((rd_T28 l3 x17_5).f2).toList) == (((rd_T28 l3 x15_3).f2).toList)))) := by simpa using c49))
                     clear c49
                     have H' := Aside0.mk H
                     clear H
                     have p190 : 0 ≤ (x17_5 : Int) := of_decide_eq_true (by first | (with_reducible assumption) | assumption)
                     have q190 : x17_5 < (l3.length : Int) := of_decide_eq_true (by first | (with_reducible assumption) | assumption)
                     obtain ⟨ad190, e190, hx190_0, hx190_1, hx190_2⟩ := at_T28 HR3.out x17_5 p190 q190
                     cases e190
                     replace hx190_0 := (HB.out.cell (World.block_lt_of_cell? w _ hx190_0)).trans hx190_0
                     replace hx190_1 := (HB.out.cell (World.block_lt_of_cell? w _ hx190_1)).trans hx190_1
                     replace hx190_2 := (HB.out.cell (World.block_lt_of_cell? w _ hx190_2)).trans hx190_2
                     replace p190 := eq_true p190
                     replace q190 := eq_true q190
                     have p191 : 0 ≤ (x15_3 : Int) := of_decide_eq_true (by first | (with_reducible assumption) | assumption)
                     have q191 : x15_3 < (l3.length : Int) := of_decide_eq_true (by first | (with_reducible assumption) | assumption)
                     obtain ⟨ad191, e191, hx191_0, hx191_1, hx191_2⟩ := at_T28 HR3.out x15_3 p191 q191
                     obtain rfl : ad190 = ad191 := (by injection e191)
                     replace hx191_0 := (HB.out.cell (World.block_lt_of_cell? w _ hx191_0)).trans hx191_0
                     replace hx191_1 := (HB.out.cell (World.block_lt_of_cell? w _ hx191_1)).trans hx191_1
                     replace hx191_2 := (HB.out.cell (World.block_lt_of_cell? w _ hx191_2)).trans hx191_2
                     replace p191 := eq_true p191
                     replace q191 := eq_true q191
                     go_wp2
                     repeat (go_quiet (fail); try go_wp2)
                     go_roundg k5
                     case measure => have := HJ7.out; have := HJ24.out; have := HK3.out; have := HK4.out; have := HK5.out; omega
                     case rel => exact ⟨(wrap64 (x17_5 + 1)), (by first | rfl | (simp; done) | (simp [*]; done)), H', ⟨by have := HJ7.out; have := HJ24.out; have := HK3.out; have := HK4.out; have := HK5.out; omega⟩, ⟨by repeat (first | (with_reducible first | exact HB.out | apply below_alloc | apply pw_below_drewN | apply below_drew1) | exact HB.out)⟩⟩
                   ·rw [if_neg c48] at H
                    exact absurd H (by simp)
                  ·rw [if_neg c47] at H
                   exact absurd H (by simp)
                 ·rw [if_neg c46] at H
                  exact absurd H (by simp)
                ·rw [if_neg c45] at H
                 exact absurd H (by simp)
               ·rw [if_neg c44] at H
                have c44b0 : decide (x17_5 < x15_3) = false := decide_eq_false c44
                clear c44
                have H' := Aside0.mk H
                clear H
                go_wp2
                repeat (go_quiet (fail); try go_wp2)
                go_roundg k5
                case measure => have := HJ7.out; have := HJ24.out; have := HK3.out; have := HK4.out; have := HK5.out; omega
                case rel => exact ⟨(wrap64 (x15_3 + 1)), (by first | rfl | (simp; done) | (simp [*]; done)), H', ⟨by have := HJ7.out; have := HJ24.out; have := HK3.out; have := HK4.out; have := HK5.out; omega⟩, ⟨by repeat (first | (with_reducible first | exact HB.out | apply below_alloc | apply pw_below_drewN | apply below_drew1) | exact HB.out)⟩⟩
         ·rw [if_neg c36] at H
          have c36b0 : decide (x15_3 < (l3.length : Int)) = false := decide_eq_false c36
          clear c36
          replace H := Option.bind_eq_some_iff.mp H
          obtain ⟨t193, A520, H⟩ := H
          replace H : ((laws_added.f k3 l3).bind fun t196 => (if t193.length + t196.length < 2513169434916 then (laws_FnRolesUndone.l3 k3 a0 a1 l2 l3 a4 a5 a6 (t193 ++ t196) 0) else (none))) = some r := H
          have A52 := Aside0.mk A520
          clear A520
          replace H := Option.bind_eq_some_iff.mp H
          obtain ⟨t196, A530, H⟩ := H
          replace H : (if t193.length + t196.length < 2513169434916 then (laws_FnRolesUndone.l3 k3 a0 a1 l2 l3 a4 a5 a6 (t193 ++ t196) 0) else (none)) = some r := H
          have A53 := Aside0.mk A530
          clear A530
          by_cases c54 : t193.length + t196.length < 2513169434916
          ·rw [if_pos c54] at H
           have LMc54 := Aside0.mk c54
           clear c54
           obtain ⟨y199, hy199⟩ : ∃ y_ : List (S54), y_ = (t193 ++ t196) := ⟨_, rfl⟩
           replace H : (laws_FnRolesUndone.l3 k3 a0 a1 l2 l3 a4 a5 a6 y199 0) = some r := by first | (rw [hy199]; with_reducible exact H) | (have H2_ := (Option.bind_some _ _).symm.trans H; rw [hy199]; with_reducible exact H2_) | (have H2_ := (Option.bind_some _ _).symm.trans H; with_reducible exact H2_) | with_reducible exact H | (rw [hy199]; exact H) | exact H
           have Ny199 := Aside0.mk hy199
           clear hy199
           have H' := Aside0.mk H
           clear H
           go_wp2_with (first | (go_at_call 14; (with_reducible refine (laws_added.calls k3 _ _ l2 t193 _ ?side1 ?side2 A52.out).mono ?_); (case side1 => repeat (first | exact (Kd.C_below HR2.out HB.out) | (with_reducible refine Kd.C_alloc ?_ _) | (with_reducible refine Kd.C_drewN ?_ _) | (with_reducible refine Kd.C_drew ?_))); (case side2 => exact HC2.out); rintro e w55 ⟨v194, rfl, ho0, hb⟩; have n0_ := Aside0.mk (Kd.R_lower ho0 (below_size (by repeat (first | (with_reducible first | exact HB.out | apply below_alloc | apply pw_below_drewN | apply below_drew1) | exact HB.out)))); have n1_ := Aside0.mk (below_step (by repeat (first | (with_reducible first | exact HB.out | apply below_alloc | apply pw_below_drewN | apply below_drew1) | exact HB.out)) hb); clear HB; have HO195 := n0_; have HB := n1_; clear n0_ n1_; (try clear hb); (try clear hb2); (try clear hk); (try clear hi); (try clear ho0)) | (go_at_call 14; (with_reducible refine (laws_added.calls k3 _ _ l3 t196 _ ?side1 ?side2 A53.out).mono ?_); (case side1 => repeat (first | exact (Kd.C_below HR3.out HB.out) | (with_reducible refine Kd.C_alloc ?_ _) | (with_reducible refine Kd.C_drewN ?_ _) | (with_reducible refine Kd.C_drew ?_))); (case side2 => exact HC3.out); rintro e w56 ⟨v197, rfl, ho0, hb⟩; have n0_ := Aside0.mk (Kd.R_elder' (by (with_reducible repeat (first | apply Kd.R_alloc | apply Kd.R_drewN | apply Kd.R_drew)); exact HO195.out) (Kd.R_base ho0) hb); have n1_ := Aside0.mk (Kd.R_lower (Kd.R_new' ho0 (Kd.R_lt (by (with_reducible repeat (first | apply Kd.R_alloc | apply Kd.R_drewN | apply Kd.R_drew)); exact HO195.out))) (below_size (by repeat (first | (with_reducible first | exact HB.out | apply below_alloc | apply pw_below_drewN | apply below_drew1) | exact HB.out)))); have n2_ := Aside0.mk (below_step (by repeat (first | (with_reducible first | exact HB.out | apply below_alloc | apply pw_below_drewN | apply below_drew1) | exact HB.out)) hb); clear HO195; clear HB; have HO195 := n0_; have HO198 := n1_; have HB := n2_; clear n0_ n1_ n2_; (try clear hb); (try clear hb2); (try clear hk); (try clear hi); (try clear ho0); obtain ⟨Ao58, co58, eo58⟩ := Kd.R_slice HO198.out; subst eo58) | ((with_reducible refine gate_builtin (b := .append) (xs := #[.tmp 113, .tmp 115]) rfl ?_); (try (refine gate_guard (by rfl) ?_; dsimp only)); at_builtin; refine Kd.R_append_rows k54 (w0 := w) w.heap.size rfl (.tmp 113) (.tmp 115) 33 54 (.agg #[(.int .i64 0), (.string ⟨#[]⟩), (.string ⟨#[]⟩), (.string ⟨#[]⟩)]) 56 rfl Tryz.underlying33 info54 rfl (by decide) (by omega) v194 t193 t196 _ _ _ (fun k_ => some k_ ≠ (.slice Ao58 t196.length co58 : Value).ownBlock) (fun _ => False) rfl rfl ?aO ?aR (fun _ _ h => h) (fun _ h => h.elim) ?aF ?aB ?aS ?aL ?_; (case aR => repeat (first | exact (Kd.R_reads' HO198.out).2.2 | (with_reducible refine Kd.C_alloc ?_ _) | (with_reducible refine Kd.C_drewN ?_ _) | (with_reducible refine Kd.C_drew ?_))); (case aB => exact (by repeat (first | (with_reducible first | exact HB.out | apply below_alloc | apply pw_below_drewN | apply below_drew1) | exact HB.out))); (case aF => exact (fun k_ hk => Kd.fresh' (Kd.R_lt (by (with_reducible repeat (first | apply Kd.R_alloc | apply Kd.R_drewN | apply Kd.R_drew)); exact HO198.out)) k_ hk)); (case aO => exact (by (with_reducible repeat (first | apply Kd.R_alloc | apply Kd.R_drewN | apply Kd.R_drew)); exact Kd.R_mono HO195.out (fun _ hk => hk.2))); (case aS => exact (below_size (by repeat (first | (with_reducible first | exact HB.out | apply below_alloc | apply pw_below_drewN | apply below_drew1) | exact HB.out)))); (case aL => have := LMc54.out; omega); intro v200 w57 ho hb hg hat; rw [← Ny199.out] at ho; have n0_ := Aside0.mk (Kd.R_after (ok := (fun _ => True)) (by (with_reducible repeat (first | apply Kd.R_alloc | apply Kd.R_drewN | apply Kd.R_drew)); exact HO198.out) hg hat); have n1_ := Aside0.mk (hb); have n2_ := Aside0.mk (ho); clear HO198; clear HB; clear HO195; have HO198 := n0_; have HB := n1_; have HO201 := n2_; clear n0_ n1_ n2_; clear ho hb hg hat))
           repeat (go_quiet (first | (go_at_call 14; (with_reducible refine (laws_added.calls k3 _ _ l2 t193 _ ?side1 ?side2 A52.out).mono ?_); (case side1 => repeat (first | exact (Kd.C_below HR2.out HB.out) | (with_reducible refine Kd.C_alloc ?_ _) | (with_reducible refine Kd.C_drewN ?_ _) | (with_reducible refine Kd.C_drew ?_))); (case side2 => exact HC2.out); rintro e w55 ⟨v194, rfl, ho0, hb⟩; have n0_ := Aside0.mk (Kd.R_lower ho0 (below_size (by repeat (first | (with_reducible first | exact HB.out | apply below_alloc | apply pw_below_drewN | apply below_drew1) | exact HB.out)))); have n1_ := Aside0.mk (below_step (by repeat (first | (with_reducible first | exact HB.out | apply below_alloc | apply pw_below_drewN | apply below_drew1) | exact HB.out)) hb); clear HB; have HO195 := n0_; have HB := n1_; clear n0_ n1_; (try clear hb); (try clear hb2); (try clear hk); (try clear hi); (try clear ho0)) | (go_at_call 14; (with_reducible refine (laws_added.calls k3 _ _ l3 t196 _ ?side1 ?side2 A53.out).mono ?_); (case side1 => repeat (first | exact (Kd.C_below HR3.out HB.out) | (with_reducible refine Kd.C_alloc ?_ _) | (with_reducible refine Kd.C_drewN ?_ _) | (with_reducible refine Kd.C_drew ?_))); (case side2 => exact HC3.out); rintro e w56 ⟨v197, rfl, ho0, hb⟩; have n0_ := Aside0.mk (Kd.R_elder' (by (with_reducible repeat (first | apply Kd.R_alloc | apply Kd.R_drewN | apply Kd.R_drew)); exact HO195.out) (Kd.R_base ho0) hb); have n1_ := Aside0.mk (Kd.R_lower (Kd.R_new' ho0 (Kd.R_lt (by (with_reducible repeat (first | apply Kd.R_alloc | apply Kd.R_drewN | apply Kd.R_drew)); exact HO195.out))) (below_size (by repeat (first | (with_reducible first | exact HB.out | apply below_alloc | apply pw_below_drewN | apply below_drew1) | exact HB.out)))); have n2_ := Aside0.mk (below_step (by repeat (first | (with_reducible first | exact HB.out | apply below_alloc | apply pw_below_drewN | apply below_drew1) | exact HB.out)) hb); clear HO195; clear HB; have HO195 := n0_; have HO198 := n1_; have HB := n2_; clear n0_ n1_ n2_; (try clear hb); (try clear hb2); (try clear hk); (try clear hi); (try clear ho0); obtain ⟨Ao58, co58, eo58⟩ := Kd.R_slice HO198.out; subst eo58) | ((with_reducible refine gate_builtin (b := .append) (xs := #[.tmp 113, .tmp 115]) rfl ?_); (try (refine gate_guard (by rfl) ?_; dsimp only)); at_builtin; refine Kd.R_append_rows k54 (w0 := w) w.heap.size rfl (.tmp 113) (.tmp 115) 33 54 (.agg #[(.int .i64 0), (.string ⟨#[]⟩), (.string ⟨#[]⟩), (.string ⟨#[]⟩)]) 56 rfl Tryz.underlying33 info54 rfl (by decide) (by omega) v194 t193 t196 _ _ _ (fun k_ => some k_ ≠ (.slice Ao58 t196.length co58 : Value).ownBlock) (fun _ => False) rfl rfl ?aO ?aR (fun _ _ h => h) (fun _ h => h.elim) ?aF ?aB ?aS ?aL ?_; (case aR => repeat (first | exact (Kd.R_reads' HO198.out).2.2 | (with_reducible refine Kd.C_alloc ?_ _) | (with_reducible refine Kd.C_drewN ?_ _) | (with_reducible refine Kd.C_drew ?_))); (case aB => exact (by repeat (first | (with_reducible first | exact HB.out | apply below_alloc | apply pw_below_drewN | apply below_drew1) | exact HB.out))); (case aF => exact (fun k_ hk => Kd.fresh' (Kd.R_lt (by (with_reducible repeat (first | apply Kd.R_alloc | apply Kd.R_drewN | apply Kd.R_drew)); exact HO198.out)) k_ hk)); (case aO => exact (by (with_reducible repeat (first | apply Kd.R_alloc | apply Kd.R_drewN | apply Kd.R_drew)); exact Kd.R_mono HO195.out (fun _ hk => hk.2))); (case aS => exact (below_size (by repeat (first | (with_reducible first | exact HB.out | apply below_alloc | apply pw_below_drewN | apply below_drew1) | exact HB.out)))); (case aL => have := LMc54.out; omega); intro v200 w57 ho hb hg hat; rw [← Ny199.out] at ho; have n0_ := Aside0.mk (Kd.R_after (ok := (fun _ => True)) (by (with_reducible repeat (first | apply Kd.R_alloc | apply Kd.R_drewN | apply Kd.R_drew)); exact HO198.out) hg hat); have n1_ := Aside0.mk (hb); have n2_ := Aside0.mk (ho); clear HO198; clear HB; clear HO195; have HO198 := n0_; have HB := n1_; have HO201 := n2_; clear n0_ n1_ n2_; clear ho hb hg hat)); try go_wp2_with (first | (go_at_call 14; (with_reducible refine (laws_added.calls k3 _ _ l2 t193 _ ?side1 ?side2 A52.out).mono ?_); (case side1 => repeat (first | exact (Kd.C_below HR2.out HB.out) | (with_reducible refine Kd.C_alloc ?_ _) | (with_reducible refine Kd.C_drewN ?_ _) | (with_reducible refine Kd.C_drew ?_))); (case side2 => exact HC2.out); rintro e w55 ⟨v194, rfl, ho0, hb⟩; have n0_ := Aside0.mk (Kd.R_lower ho0 (below_size (by repeat (first | (with_reducible first | exact HB.out | apply below_alloc | apply pw_below_drewN | apply below_drew1) | exact HB.out)))); have n1_ := Aside0.mk (below_step (by repeat (first | (with_reducible first | exact HB.out | apply below_alloc | apply pw_below_drewN | apply below_drew1) | exact HB.out)) hb); clear HB; have HO195 := n0_; have HB := n1_; clear n0_ n1_; (try clear hb); (try clear hb2); (try clear hk); (try clear hi); (try clear ho0)) | (go_at_call 14; (with_reducible refine (laws_added.calls k3 _ _ l3 t196 _ ?side1 ?side2 A53.out).mono ?_); (case side1 => repeat (first | exact (Kd.C_below HR3.out HB.out) | (with_reducible refine Kd.C_alloc ?_ _) | (with_reducible refine Kd.C_drewN ?_ _) | (with_reducible refine Kd.C_drew ?_))); (case side2 => exact HC3.out); rintro e w56 ⟨v197, rfl, ho0, hb⟩; have n0_ := Aside0.mk (Kd.R_elder' (by (with_reducible repeat (first | apply Kd.R_alloc | apply Kd.R_drewN | apply Kd.R_drew)); exact HO195.out) (Kd.R_base ho0) hb); have n1_ := Aside0.mk (Kd.R_lower (Kd.R_new' ho0 (Kd.R_lt (by (with_reducible repeat (first | apply Kd.R_alloc | apply Kd.R_drewN | apply Kd.R_drew)); exact HO195.out))) (below_size (by repeat (first | (with_reducible first | exact HB.out | apply below_alloc | apply pw_below_drewN | apply below_drew1) | exact HB.out)))); have n2_ := Aside0.mk (below_step (by repeat (first | (with_reducible first | exact HB.out | apply below_alloc | apply pw_below_drewN | apply below_drew1) | exact HB.out)) hb); clear HO195; clear HB; have HO195 := n0_; have HO198 := n1_; have HB := n2_; clear n0_ n1_ n2_; (try clear hb); (try clear hb2); (try clear hk); (try clear hi); (try clear ho0); obtain ⟨Ao58, co58, eo58⟩ := Kd.R_slice HO198.out; subst eo58) | ((with_reducible refine gate_builtin (b := .append) (xs := #[.tmp 113, .tmp 115]) rfl ?_); (try (refine gate_guard (by rfl) ?_; dsimp only)); at_builtin; refine Kd.R_append_rows k54 (w0 := w) w.heap.size rfl (.tmp 113) (.tmp 115) 33 54 (.agg #[(.int .i64 0), (.string ⟨#[]⟩), (.string ⟨#[]⟩), (.string ⟨#[]⟩)]) 56 rfl Tryz.underlying33 info54 rfl (by decide) (by omega) v194 t193 t196 _ _ _ (fun k_ => some k_ ≠ (.slice Ao58 t196.length co58 : Value).ownBlock) (fun _ => False) rfl rfl ?aO ?aR (fun _ _ h => h) (fun _ h => h.elim) ?aF ?aB ?aS ?aL ?_; (case aR => repeat (first | exact (Kd.R_reads' HO198.out).2.2 | (with_reducible refine Kd.C_alloc ?_ _) | (with_reducible refine Kd.C_drewN ?_ _) | (with_reducible refine Kd.C_drew ?_))); (case aB => exact (by repeat (first | (with_reducible first | exact HB.out | apply below_alloc | apply pw_below_drewN | apply below_drew1) | exact HB.out))); (case aF => exact (fun k_ hk => Kd.fresh' (Kd.R_lt (by (with_reducible repeat (first | apply Kd.R_alloc | apply Kd.R_drewN | apply Kd.R_drew)); exact HO198.out)) k_ hk)); (case aO => exact (by (with_reducible repeat (first | apply Kd.R_alloc | apply Kd.R_drewN | apply Kd.R_drew)); exact Kd.R_mono HO195.out (fun _ hk => hk.2))); (case aS => exact (below_size (by repeat (first | (with_reducible first | exact HB.out | apply below_alloc | apply pw_below_drewN | apply below_drew1) | exact HB.out)))); (case aL => have := LMc54.out; omega); intro v200 w57 ho hb hg hat; rw [← Ny199.out] at ho; have n0_ := Aside0.mk (Kd.R_after (ok := (fun _ => True)) (by (with_reducible repeat (first | apply Kd.R_alloc | apply Kd.R_drewN | apply Kd.R_drew)); exact HO198.out) hg hat); have n1_ := Aside0.mk (hb); have n2_ := Aside0.mk (ho); clear HO198; clear HB; clear HO195; have HO198 := n0_; have HB := n1_; have HO201 := n2_; clear n0_ n1_ n2_; clear ho hb hg hat)))
           go_loopg [18, 19] k3 (fun kq v18 v19 w' => ∃ (x18_4 : List (S54)) (x19_4 : Int), v19 = .int .i64 x19_4 ∧ Aside0 (laws_FnRolesUndone.l3 kq a0 a1 l2 l3 a4 a5 a6 x18_4 x19_4 = some r) ∧ Aside0 (kq ≤ k3) ∧ Aside0 (Kd.R k54 54 w' w.heap.size (fun _ => True) v18 x18_4) ∧ Aside0 (Below w.heap.size w w'))
           case atStart => exact ⟨(y199), (0), (by first | rfl | (simp; done) | (simp [*]; done)), H', ⟨Nat.le_refl _⟩, ⟨by (with_reducible repeat (first | apply Kd.R_alloc | apply Kd.R_drewN | apply Kd.R_drew)); exact Kd.R_mono HO201.out (fun _ hk => trivial)⟩, ⟨by repeat (first | (with_reducible first | exact HB.out | apply below_alloc | apply pw_below_drewN | apply below_drew1) | exact HB.out)⟩⟩
           case round =>
            clear H'
            try clear c1
            try clear p1
            try clear q1
            try clear hx1
            try clear c2
            try clear p2
            try clear c3
            try clear c4
            try clear c5
            try clear p6
            try clear c8
            try clear c10
            try clear c12
            try clear c13
            try clear c13b0
            try clear c13b1
            try clear c16
            try clear c16b0
            try clear c16b1
            try clear p18
            try clear q18
            try clear hx18
            try clear p19
            try clear q19
            try clear hx19
            try clear c24
            try clear c26
            try clear c26b0
            try clear c27
            try clear c27b0
            try clear c29
            try clear c31
            try clear c33
            try clear c36
            try clear c36b0
            try clear c37
            try clear c37b0
            try clear c38
            try clear c38b0
            try clear c39
            try clear c39b0
            try clear c40
            try clear c40b0
            try clear c41
            try clear c41b0
            try clear c41b1
            try clear c41b2
            try clear c44
            try clear c44b0
            try clear c45
            try clear c45b0
            try clear c46
            try clear c46b0
            try clear c47
            try clear c47b0
            try clear c48
            try clear c48b0
            try clear c49
            try clear c49b0
            try clear c49b1
            try clear c49b2
            try clear c54
            try clear hx187_0
            try clear hx187_1
            try clear hx187_2
            try clear hx188_0
            try clear hx188_1
            try clear hx188_2
            try clear hx190_0
            try clear hx190_1
            try clear hx190_2
            try clear hx191_0
            try clear hx191_1
            try clear hx191_2
            try clear p1
            try clear p18
            try clear p187
            try clear p188
            try clear p190
            try clear p191
            try clear p2
            try clear p6
            try clear q1
            try clear q18
            try clear q187
            try clear q188
            try clear q190
            try clear q191
            obtain ⟨x18_4, x19_4, rfl, HA, HK4, HO_18, HB⟩ := hrel
            cases gk with
            | zero => exact absurd HA.out (by simp [laws_FnRolesUndone.l3])
            | succ k4 =>
             have H := HA.out
             clear HA
             simp only [laws_FnRolesUndone.l3] at H
             by_cases c59 : x19_4 < (l3.length : Int)
             ·rw [if_pos c59] at H
              have c59b0 : decide (x19_4 < (l3.length : Int)) = true := decide_eq_true c59
              clear c59
              by_cases c60 : 0 ≤ x19_4
              ·rw [if_pos c60] at H
               have c60b0 : decide (0 ≤ x19_4) = true := decide_eq_true c60
               clear c60
               by_cases c61 : x18_4.length < 2513169434916
               ·rw [if_pos c61] at H
                have LMc61 := Aside0.mk c61
                clear c61
                obtain ⟨y203, hy203⟩ : ∃ y_ : List (S54), y_ = (x18_4 ++ [(⟨1, (⟨(rd_T28 l3 x19_4).f0, (rd_T28 l3 x19_4).f1, (rd_T28 l3 x19_4).f2⟩ : S28)⟩ : S54)]) := ⟨_, rfl⟩
                replace H : (laws_FnRolesUndone.l3 k4 a0 a1 l2 l3 a4 a5 a6 y203 (wrap64 (x19_4 + 1))) = some r := by first | (rw [hy203]; with_reducible exact H) | (have H2_ := (Option.bind_some _ _).symm.trans H; rw [hy203]; with_reducible exact H2_) | (have H2_ := (Option.bind_some _ _).symm.trans H; with_reducible exact H2_) | with_reducible exact H | (rw [hy203]; exact H) | exact H
                have Ny203 := Aside0.mk hy203
                clear hy203
                have H' := Aside0.mk H
                clear H
                have p202 : 0 ≤ (x19_4 : Int) := of_decide_eq_true (by first | (with_reducible assumption) | assumption)
                have q202 : x19_4 < (l3.length : Int) := of_decide_eq_true (by first | (with_reducible assumption) | assumption)
                obtain ⟨ad202, e202, hx202_0, hx202_1, hx202_2⟩ := at_T28 HR3.out x19_4 p202 q202
                cases e202
                replace hx202_0 := (HB.out.cell (World.block_lt_of_cell? w _ hx202_0)).trans hx202_0
                replace hx202_1 := (HB.out.cell (World.block_lt_of_cell? w _ hx202_1)).trans hx202_1
                replace hx202_2 := (HB.out.cell (World.block_lt_of_cell? w _ hx202_2)).trans hx202_2
                replace p202 := eq_true p202
                replace q202 := eq_true q202
                go_wp2_with (first | ((with_reducible refine gate_builtin (b := .append) (xs := #[.tmp 123, .tmp 129]) rfl ?_); (try (refine gate_guard (by rfl) ?_; dsimp only)); at_builtin; refine Kd.R_append k54 (w0 := w) w.heap.size rfl (.tmp 123) (.tmp 129) 33 54 (.agg #[(.int .i64 0), (.string ⟨#[]⟩), (.string ⟨#[]⟩), (.string ⟨#[]⟩)]) 56 rfl Tryz.underlying33 info54 rfl (by decide) (by omega) u18 x18_4 (⟨1, (⟨(rd_T28 l3 x19_4).f0, (rd_T28 l3 x19_4).f1, (rd_T28 l3 x19_4).f2⟩ : S28)⟩ : S54) [.int .i64 1, .string ((rd_T28 l3 x19_4).f0), .string ((rd_T28 l3 x19_4).f1), .string ((rd_T28 l3 x19_4).f2)] (fun _ => True) (fun _ => False) rfl rfl ?aP (fun _ hk => hk.elim) ?aF ?aO ?aB ?aS ?aL ?_; (case aP => exact k54_mkM _ _ _ (⟨1, (⟨(rd_T28 l3 x19_4).f0, (rd_T28 l3 x19_4).f1, (rd_T28 l3 x19_4).f2⟩ : S28)⟩ : S54)); (case aB => exact (by repeat (first | (with_reducible first | exact HB.out | apply below_alloc | apply pw_below_drewN | apply below_drew1) | exact HB.out))); (case aF => exact (fun _ _ => trivial)); (case aO => exact (by (with_reducible repeat (first | apply Kd.R_alloc | apply Kd.R_drewN | apply Kd.R_drew)); exact HO_18.out)); (case aS => exact (below_size (by repeat (first | (with_reducible first | exact HB.out | apply below_alloc | apply pw_below_drewN | apply below_drew1) | exact HB.out)))); (case aL => have := LMc61.out; omega); intro v204 w62 ho hb hg hat; rw [← Ny203.out] at ho; have n0_ := Aside0.mk (hb); have n1_ := Aside0.mk (ho); clear HB; clear HO_18; have HB := n0_; have HO205 := n1_; clear n0_ n1_; clear ho hb hg hat))
                repeat (go_quiet (first | ((with_reducible refine gate_builtin (b := .append) (xs := #[.tmp 123, .tmp 129]) rfl ?_); (try (refine gate_guard (by rfl) ?_; dsimp only)); at_builtin; refine Kd.R_append k54 (w0 := w) w.heap.size rfl (.tmp 123) (.tmp 129) 33 54 (.agg #[(.int .i64 0), (.string ⟨#[]⟩), (.string ⟨#[]⟩), (.string ⟨#[]⟩)]) 56 rfl Tryz.underlying33 info54 rfl (by decide) (by omega) u18 x18_4 (⟨1, (⟨(rd_T28 l3 x19_4).f0, (rd_T28 l3 x19_4).f1, (rd_T28 l3 x19_4).f2⟩ : S28)⟩ : S54) [.int .i64 1, .string ((rd_T28 l3 x19_4).f0), .string ((rd_T28 l3 x19_4).f1), .string ((rd_T28 l3 x19_4).f2)] (fun _ => True) (fun _ => False) rfl rfl ?aP (fun _ hk => hk.elim) ?aF ?aO ?aB ?aS ?aL ?_; (case aP => exact k54_mkM _ _ _ (⟨1, (⟨(rd_T28 l3 x19_4).f0, (rd_T28 l3 x19_4).f1, (rd_T28 l3 x19_4).f2⟩ : S28)⟩ : S54)); (case aB => exact (by repeat (first | (with_reducible first | exact HB.out | apply below_alloc | apply pw_below_drewN | apply below_drew1) | exact HB.out))); (case aF => exact (fun _ _ => trivial)); (case aO => exact (by (with_reducible repeat (first | apply Kd.R_alloc | apply Kd.R_drewN | apply Kd.R_drew)); exact HO_18.out)); (case aS => exact (below_size (by repeat (first | (with_reducible first | exact HB.out | apply below_alloc | apply pw_below_drewN | apply below_drew1) | exact HB.out)))); (case aL => have := LMc61.out; omega); intro v204 w62 ho hb hg hat; rw [← Ny203.out] at ho; have n0_ := Aside0.mk (hb); have n1_ := Aside0.mk (ho); clear HB; clear HO_18; have HB := n0_; have HO205 := n1_; clear n0_ n1_; clear ho hb hg hat)); try go_wp2_with (first | ((with_reducible refine gate_builtin (b := .append) (xs := #[.tmp 123, .tmp 129]) rfl ?_); (try (refine gate_guard (by rfl) ?_; dsimp only)); at_builtin; refine Kd.R_append k54 (w0 := w) w.heap.size rfl (.tmp 123) (.tmp 129) 33 54 (.agg #[(.int .i64 0), (.string ⟨#[]⟩), (.string ⟨#[]⟩), (.string ⟨#[]⟩)]) 56 rfl Tryz.underlying33 info54 rfl (by decide) (by omega) u18 x18_4 (⟨1, (⟨(rd_T28 l3 x19_4).f0, (rd_T28 l3 x19_4).f1, (rd_T28 l3 x19_4).f2⟩ : S28)⟩ : S54) [.int .i64 1, .string ((rd_T28 l3 x19_4).f0), .string ((rd_T28 l3 x19_4).f1), .string ((rd_T28 l3 x19_4).f2)] (fun _ => True) (fun _ => False) rfl rfl ?aP (fun _ hk => hk.elim) ?aF ?aO ?aB ?aS ?aL ?_; (case aP => exact k54_mkM _ _ _ (⟨1, (⟨(rd_T28 l3 x19_4).f0, (rd_T28 l3 x19_4).f1, (rd_T28 l3 x19_4).f2⟩ : S28)⟩ : S54)); (case aB => exact (by repeat (first | (with_reducible first | exact HB.out | apply below_alloc | apply pw_below_drewN | apply below_drew1) | exact HB.out))); (case aF => exact (fun _ _ => trivial)); (case aO => exact (by (with_reducible repeat (first | apply Kd.R_alloc | apply Kd.R_drewN | apply Kd.R_drew)); exact HO_18.out)); (case aS => exact (below_size (by repeat (first | (with_reducible first | exact HB.out | apply below_alloc | apply pw_below_drewN | apply below_drew1) | exact HB.out)))); (case aL => have := LMc61.out; omega); intro v204 w62 ho hb hg hat; rw [← Ny203.out] at ho; have n0_ := Aside0.mk (hb); have n1_ := Aside0.mk (ho); clear HB; clear HO_18; have HB := n0_; have HO205 := n1_; clear n0_ n1_; clear ho hb hg hat)))
                go_roundg k4
                case measure => have := HJ7.out; have := HJ24.out; have := HK3.out; have := HK4.out; omega
                case rel => exact ⟨(y203), (wrap64 (x19_4 + 1)), (by first | rfl | (simp; done) | (simp [*]; done)), H', ⟨by have := HJ7.out; have := HJ24.out; have := HK3.out; have := HK4.out; omega⟩, ⟨by (with_reducible repeat (first | apply Kd.R_alloc | apply Kd.R_drewN | apply Kd.R_drew)); exact HO205.out⟩, ⟨by repeat (first | (with_reducible first | exact HB.out | apply below_alloc | apply pw_below_drewN | apply below_drew1) | exact HB.out)⟩⟩
               ·rw [if_neg c61] at H
                exact absurd H (by simp)
              ·rw [if_neg c60] at H
               exact absurd H (by simp)
             ·rw [if_neg c59] at H
              have c59b0 : decide (x19_4 < (l3.length : Int)) = false := decide_eq_false c59
              clear c59
              replace H := Option.bind_eq_some_iff.mp H
              obtain ⟨t206, A630, H⟩ := H
              replace H : ((laws_all.f a4 a5 a6).bind fun t209 => ((impl_Roles.f k4 a0 a1 0 0 t206 t209).bind fun bt212 => ((laws_all.f a4 a5 a6).bind fun t218 => ((impl_Roles.f k4 a0 a1 0 0 x18_4 t218).bind fun bt221 => (laws_FnRolesUndone.l4 k4 x18_4 bt212.2 bt221.1 bt221.2 0))))) = some r := H
              have A63 := Aside0.mk A630
              clear A630
              replace H := Option.bind_eq_some_iff.mp H
              obtain ⟨t209, A640, H⟩ := H
              replace H : ((impl_Roles.f k4 a0 a1 0 0 t206 t209).bind fun bt212 => ((laws_all.f a4 a5 a6).bind fun t218 => ((impl_Roles.f k4 a0 a1 0 0 x18_4 t218).bind fun bt221 => (laws_FnRolesUndone.l4 k4 x18_4 bt212.2 bt221.1 bt221.2 0)))) = some r := H
              have A64 := Aside0.mk A640
              clear A640
              replace H := Option.bind_eq_some_iff.mp H
              obtain ⟨⟨t212, t213⟩, A650, H⟩ := H
              replace H : ((laws_all.f a4 a5 a6).bind fun t218 => ((impl_Roles.f k4 a0 a1 0 0 x18_4 t218).bind fun bt221 => (laws_FnRolesUndone.l4 k4 x18_4 t213 bt221.1 bt221.2 0))) = some r := H
              have A65 := Aside0.mk A650
              clear A650
              replace H := Option.bind_eq_some_iff.mp H
              obtain ⟨t218, A660, H⟩ := H
              replace H : ((impl_Roles.f k4 a0 a1 0 0 x18_4 t218).bind fun bt221 => (laws_FnRolesUndone.l4 k4 x18_4 t213 bt221.1 bt221.2 0)) = some r := H
              have A66 := Aside0.mk A660
              clear A660
              replace H := Option.bind_eq_some_iff.mp H
              obtain ⟨⟨t221, t222⟩, A670, H⟩ := H
              replace H : (laws_FnRolesUndone.l4 k4 x18_4 t213 t221 t222 0) = some r := H
              have A67 := Aside0.mk A670
              clear A670
              have H' := Aside0.mk H
              clear H
              go_wp2_with (first | (go_at_call 14; (with_reducible refine (laws_added.calls k4 _ _ l2 t206 _ ?side1 ?side2 A63.out).mono ?_); (case side1 => repeat (first | exact (Kd.C_below HR2.out HB.out) | (with_reducible refine Kd.C_alloc ?_ _) | (with_reducible refine Kd.C_drewN ?_ _) | (with_reducible refine Kd.C_drew ?_))); (case side2 => exact HC2.out); rintro e w68 ⟨v207, rfl, ho0, hb⟩; have n0_ := Aside0.mk (Kd.R_elder' (by (with_reducible repeat (first | apply Kd.R_alloc | apply Kd.R_drewN | apply Kd.R_drew)); exact HO_18.out) (Kd.R_base ho0) hb); have n1_ := Aside0.mk (Kd.R_lower (Kd.R_new' ho0 (Kd.R_lt (by (with_reducible repeat (first | apply Kd.R_alloc | apply Kd.R_drewN | apply Kd.R_drew)); exact HO_18.out))) (below_size (by repeat (first | (with_reducible first | exact HB.out | apply below_alloc | apply pw_below_drewN | apply below_drew1) | exact HB.out)))); have n2_ := Aside0.mk (below_step (by repeat (first | (with_reducible first | exact HB.out | apply below_alloc | apply pw_below_drewN | apply below_drew1) | exact HB.out)) hb); clear HO_18; clear HB; have HO_18 := n0_; have HO208 := n1_; have HB := n2_; clear n0_ n1_ n2_; (try clear hb); (try clear hb2); (try clear hk); (try clear hi); (try clear ho0)) | (go_at_call 15; (with_reducible refine (laws_all.calls a4 a5 a6 t209 _ A64.out).mono ?_); rintro e w69 ⟨v210, rfl, ho0, hb⟩; have n0_ := Aside0.mk (Kd.R_below (by (with_reducible repeat (first | apply Kd.R_alloc | apply Kd.R_drewN | apply Kd.R_drew)); exact HO_18.out) hb); have n1_ := Aside0.mk (Kd.R_below (by (with_reducible repeat (first | apply Kd.R_alloc | apply Kd.R_drewN | apply Kd.R_drew)); exact HO208.out) hb); have n2_ := Aside0.mk (Kd.R_lower ho0 (below_size (by repeat (first | (with_reducible first | exact HB.out | apply below_alloc | apply pw_below_drewN | apply below_drew1) | exact HB.out)))); have n3_ := Aside0.mk (below_step (by repeat (first | (with_reducible first | exact HB.out | apply below_alloc | apply pw_below_drewN | apply below_drew1) | exact HB.out)) hb); clear HO_18; clear HO208; clear HB; have HO_18 := n0_; have HO208 := n1_; have HO211 := n2_; have HB := n3_; clear n0_ n1_ n2_ n3_; (try clear hb); (try clear hb2); (try clear hk); (try clear hi); (try clear ho0); obtain ⟨Ao70, co70, eo70⟩ := Kd.R_slice HO208.out; subst eo70; obtain ⟨Ao71, co71, eo71⟩ := Kd.R_slice HO211.out; subst eo71) | (go_at_call 13; (with_reducible refine (impl_Roles.calls k4 a0 a1 0 0 _ _ t206 _ _ t209 t212 t213 _ ?side1 ?side2 ?side3 ?side4 A65.out).mono ?_); (case side1 => repeat (first | exact (Kd.R_reads' HO208.out).2.2 | (with_reducible refine Kd.C_alloc ?_ _) | (with_reducible refine Kd.C_drewN ?_ _) | (with_reducible refine Kd.C_drew ?_))); (case side2 => exact (Kd.R_reads' HO208.out).2.1); (case side3 => repeat (first | exact (Kd.R_reads' HO211.out).2.2 | (with_reducible refine Kd.C_alloc ?_ _) | (with_reducible refine Kd.C_drewN ?_ _) | (with_reducible refine Kd.C_drew ?_))); (case side4 => exact (Kd.R_reads' HO211.out).2.1); rintro e w72 ⟨v214, v216, rfl, ho0, ⟨lp_t213, hp_, ho1⟩, hb⟩; have HTt213 := Aside0.mk hp_; have HLt213 := Aside0.mk hp_.len; clear hp_; have n0_ := Aside0.mk (Kd.R_below (by (with_reducible repeat (first | apply Kd.R_alloc | apply Kd.R_drewN | apply Kd.R_drew)); exact HO_18.out) hb); have n1_ := Aside0.mk (Kd.R_below (by (with_reducible repeat (first | apply Kd.R_alloc | apply Kd.R_drewN | apply Kd.R_drew)); exact HO208.out) hb); have n2_ := Aside0.mk (Kd.R_below (by (with_reducible repeat (first | apply Kd.R_alloc | apply Kd.R_drewN | apply Kd.R_drew)); exact HO211.out) hb); have n3_ := Aside0.mk (Kd.R_lower ho0 (below_size (by repeat (first | (with_reducible first | exact HB.out | apply below_alloc | apply pw_below_drewN | apply below_drew1) | exact HB.out)))); have n4_ := Aside0.mk (Kd.S_lower ho1 (below_size (by repeat (first | (with_reducible first | exact HB.out | apply below_alloc | apply pw_below_drewN | apply below_drew1) | exact HB.out)))); have n5_ := Aside0.mk (below_step (by repeat (first | (with_reducible first | exact HB.out | apply below_alloc | apply pw_below_drewN | apply below_drew1) | exact HB.out)) hb); clear HO_18; clear HO208; clear HO211; clear HB; have HO_18 := n0_; have HO208 := n1_; have HO211 := n2_; have HO215 := n3_; have HO217 := n4_; have HB := n5_; clear n0_ n1_ n2_ n3_ n4_ n5_; (try clear hb); (try clear hb2); (try clear hk); (try clear hi); (try clear ho0); (try clear ho1)) | (go_at_call 15; (with_reducible refine (laws_all.calls a4 a5 a6 t218 _ A66.out).mono ?_); rintro e w73 ⟨v219, rfl, ho0, hb⟩; have n0_ := Aside0.mk (Kd.R_below (by (with_reducible repeat (first | apply Kd.R_alloc | apply Kd.R_drewN | apply Kd.R_drew)); exact HO_18.out) hb); have n1_ := Aside0.mk (Kd.R_below (by (with_reducible repeat (first | apply Kd.R_alloc | apply Kd.R_drewN | apply Kd.R_drew)); exact HO208.out) hb); have n2_ := Aside0.mk (Kd.R_elder' (by (with_reducible repeat (first | apply Kd.R_alloc | apply Kd.R_drewN | apply Kd.R_drew)); exact HO211.out) (Kd.R_base ho0) hb); have n3_ := Aside0.mk (Kd.R_below (by (with_reducible repeat (first | apply Kd.R_alloc | apply Kd.R_drewN | apply Kd.R_drew)); exact HO215.out) hb); have n4_ := Aside0.mk (Kd.S_below (by (with_reducible repeat (first | apply Kd.S_alloc | apply Kd.S_drewN | apply Kd.S_drew)); exact HO217.out) hb); have n5_ := Aside0.mk (Kd.R_lower (Kd.R_new' ho0 (Kd.R_lt (by (with_reducible repeat (first | apply Kd.R_alloc | apply Kd.R_drewN | apply Kd.R_drew)); exact HO211.out))) (below_size (by repeat (first | (with_reducible first | exact HB.out | apply below_alloc | apply pw_below_drewN | apply below_drew1) | exact HB.out)))); have n6_ := Aside0.mk (below_step (by repeat (first | (with_reducible first | exact HB.out | apply below_alloc | apply pw_below_drewN | apply below_drew1) | exact HB.out)) hb); clear HO_18; clear HO208; clear HO211; clear HO215; clear HO217; clear HB; have HO_18 := n0_; have HO208 := n1_; have HO211 := n2_; have HO215 := n3_; have HO217 := n4_; have HO220 := n5_; have HB := n6_; clear n0_ n1_ n2_ n3_ n4_ n5_ n6_; (try clear hb); (try clear hb2); (try clear hk); (try clear hi); (try clear ho0); obtain ⟨Ao74, co74, eo74⟩ := Kd.R_slice HO_18.out; subst eo74; obtain ⟨Ao75, co75, eo75⟩ := Kd.R_slice HO220.out; subst eo75) | (go_at_call 13; (with_reducible refine (impl_Roles.calls k4 a0 a1 0 0 _ _ x18_4 _ _ t218 t221 t222 _ ?side1 ?side2 ?side3 ?side4 A67.out).mono ?_); (case side1 => repeat (first | exact (Kd.R_reads' HO_18.out).2.2 | (with_reducible refine Kd.C_alloc ?_ _) | (with_reducible refine Kd.C_drewN ?_ _) | (with_reducible refine Kd.C_drew ?_))); (case side2 => exact (Kd.R_reads' HO_18.out).2.1); (case side3 => repeat (first | exact (Kd.R_reads' HO220.out).2.2 | (with_reducible refine Kd.C_alloc ?_ _) | (with_reducible refine Kd.C_drewN ?_ _) | (with_reducible refine Kd.C_drew ?_))); (case side4 => exact (Kd.R_reads' HO220.out).2.1); rintro e w76 ⟨v223, v225, rfl, ho0, ⟨lp_t222, hp_, ho1⟩, hb⟩; have HTt222 := Aside0.mk hp_; have HLt222 := Aside0.mk hp_.len; clear hp_; have n0_ := Aside0.mk (Kd.R_below (by (with_reducible repeat (first | apply Kd.R_alloc | apply Kd.R_drewN | apply Kd.R_drew)); exact HO_18.out) hb); have n1_ := Aside0.mk (Kd.R_below (by (with_reducible repeat (first | apply Kd.R_alloc | apply Kd.R_drewN | apply Kd.R_drew)); exact HO208.out) hb); have n2_ := Aside0.mk (Kd.R_below (by (with_reducible repeat (first | apply Kd.R_alloc | apply Kd.R_drewN | apply Kd.R_drew)); exact HO211.out) hb); have n3_ := Aside0.mk (Kd.R_elder' (by (with_reducible repeat (first | apply Kd.R_alloc | apply Kd.R_drewN | apply Kd.R_drew)); exact HO215.out) (Kd.R_base ho0) hb); have n4_ := Aside0.mk (Kd.S_elder' (by (with_reducible repeat (first | apply Kd.S_alloc | apply Kd.S_drewN | apply Kd.S_drew)); exact HO217.out) (Kd.S_base ho1) hb); have n5_ := Aside0.mk (Kd.R_below (by (with_reducible repeat (first | apply Kd.R_alloc | apply Kd.R_drewN | apply Kd.R_drew)); exact HO220.out) hb); have n6_ := Aside0.mk (Kd.R_lower (Kd.R_new' ho0 (Kd.R_lt (by (with_reducible repeat (first | apply Kd.R_alloc | apply Kd.R_drewN | apply Kd.R_drew)); exact HO215.out))) (below_size (by repeat (first | (with_reducible first | exact HB.out | apply below_alloc | apply pw_below_drewN | apply below_drew1) | exact HB.out)))); have n7_ := Aside0.mk (Kd.S_lower (Kd.S_new' ho1 (Kd.S_lt (by (with_reducible repeat (first | apply Kd.S_alloc | apply Kd.S_drewN | apply Kd.S_drew)); exact HO217.out))) (below_size (by repeat (first | (with_reducible first | exact HB.out | apply below_alloc | apply pw_below_drewN | apply below_drew1) | exact HB.out)))); have n8_ := Aside0.mk (below_step (by repeat (first | (with_reducible first | exact HB.out | apply below_alloc | apply pw_below_drewN | apply below_drew1) | exact HB.out)) hb); clear HO_18; clear HO208; clear HO211; clear HO215; clear HO217; clear HO220; clear HB; have HO_18 := n0_; have HO208 := n1_; have HO211 := n2_; have HO215 := n3_; have HO217 := n4_; have HO220 := n5_; have HO224 := n6_; have HO226 := n7_; have HB := n8_; clear n0_ n1_ n2_ n3_ n4_ n5_ n6_ n7_ n8_; (try clear hb); (try clear hb2); (try clear hk); (try clear hi); (try clear ho0); (try clear ho1)))
              repeat (go_quiet (first | (go_at_call 14; (with_reducible refine (laws_added.calls k4 _ _ l2 t206 _ ?side1 ?side2 A63.out).mono ?_); (case side1 => repeat (first | exact (Kd.C_below HR2.out HB.out) | (with_reducible refine Kd.C_alloc ?_ _) | (with_reducible refine Kd.C_drewN ?_ _) | (with_reducible refine Kd.C_drew ?_))); (case side2 => exact HC2.out); rintro e w68 ⟨v207, rfl, ho0, hb⟩; have n0_ := Aside0.mk (Kd.R_elder' (by (with_reducible repeat (first | apply Kd.R_alloc | apply Kd.R_drewN | apply Kd.R_drew)); exact HO_18.out) (Kd.R_base ho0) hb); have n1_ := Aside0.mk (Kd.R_lower (Kd.R_new' ho0 (Kd.R_lt (by (with_reducible repeat (first | apply Kd.R_alloc | apply Kd.R_drewN | apply Kd.R_drew)); exact HO_18.out))) (below_size (by repeat (first | (with_reducible first | exact HB.out | apply below_alloc | apply pw_below_drewN | apply below_drew1) | exact HB.out)))); have n2_ := Aside0.mk (below_step (by repeat (first | (with_reducible first | exact HB.out | apply below_alloc | apply pw_below_drewN | apply below_drew1) | exact HB.out)) hb); clear HO_18; clear HB; have HO_18 := n0_; have HO208 := n1_; have HB := n2_; clear n0_ n1_ n2_; (try clear hb); (try clear hb2); (try clear hk); (try clear hi); (try clear ho0)) | (go_at_call 15; (with_reducible refine (laws_all.calls a4 a5 a6 t209 _ A64.out).mono ?_); rintro e w69 ⟨v210, rfl, ho0, hb⟩; have n0_ := Aside0.mk (Kd.R_below (by (with_reducible repeat (first | apply Kd.R_alloc | apply Kd.R_drewN | apply Kd.R_drew)); exact HO_18.out) hb); have n1_ := Aside0.mk (Kd.R_below (by (with_reducible repeat (first | apply Kd.R_alloc | apply Kd.R_drewN | apply Kd.R_drew)); exact HO208.out) hb); have n2_ := Aside0.mk (Kd.R_lower ho0 (below_size (by repeat (first | (with_reducible first | exact HB.out | apply below_alloc | apply pw_below_drewN | apply below_drew1) | exact HB.out)))); have n3_ := Aside0.mk (below_step (by repeat (first | (with_reducible first | exact HB.out | apply below_alloc | apply pw_below_drewN | apply below_drew1) | exact HB.out)) hb); clear HO_18; clear HO208; clear HB; have HO_18 := n0_; have HO208 := n1_; have HO211 := n2_; have HB := n3_; clear n0_ n1_ n2_ n3_; (try clear hb); (try clear hb2); (try clear hk); (try clear hi); (try clear ho0); obtain ⟨Ao70, co70, eo70⟩ := Kd.R_slice HO208.out; subst eo70; obtain ⟨Ao71, co71, eo71⟩ := Kd.R_slice HO211.out; subst eo71) | (go_at_call 13; (with_reducible refine (impl_Roles.calls k4 a0 a1 0 0 _ _ t206 _ _ t209 t212 t213 _ ?side1 ?side2 ?side3 ?side4 A65.out).mono ?_); (case side1 => repeat (first | exact (Kd.R_reads' HO208.out).2.2 | (with_reducible refine Kd.C_alloc ?_ _) | (with_reducible refine Kd.C_drewN ?_ _) | (with_reducible refine Kd.C_drew ?_))); (case side2 => exact (Kd.R_reads' HO208.out).2.1); (case side3 => repeat (first | exact (Kd.R_reads' HO211.out).2.2 | (with_reducible refine Kd.C_alloc ?_ _) | (with_reducible refine Kd.C_drewN ?_ _) | (with_reducible refine Kd.C_drew ?_))); (case side4 => exact (Kd.R_reads' HO211.out).2.1); rintro e w72 ⟨v214, v216, rfl, ho0, ⟨lp_t213, hp_, ho1⟩, hb⟩; have HTt213 := Aside0.mk hp_; have HLt213 := Aside0.mk hp_.len; clear hp_; have n0_ := Aside0.mk (Kd.R_below (by (with_reducible repeat (first | apply Kd.R_alloc | apply Kd.R_drewN | apply Kd.R_drew)); exact HO_18.out) hb); have n1_ := Aside0.mk (Kd.R_below (by (with_reducible repeat (first | apply Kd.R_alloc | apply Kd.R_drewN | apply Kd.R_drew)); exact HO208.out) hb); have n2_ := Aside0.mk (Kd.R_below (by (with_reducible repeat (first | apply Kd.R_alloc | apply Kd.R_drewN | apply Kd.R_drew)); exact HO211.out) hb); have n3_ := Aside0.mk (Kd.R_lower ho0 (below_size (by repeat (first | (with_reducible first | exact HB.out | apply below_alloc | apply pw_below_drewN | apply below_drew1) | exact HB.out)))); have n4_ := Aside0.mk (Kd.S_lower ho1 (below_size (by repeat (first | (with_reducible first | exact HB.out | apply below_alloc | apply pw_below_drewN | apply below_drew1) | exact HB.out)))); have n5_ := Aside0.mk (below_step (by repeat (first | (with_reducible first | exact HB.out | apply below_alloc | apply pw_below_drewN | apply below_drew1) | exact HB.out)) hb); clear HO_18; clear HO208; clear HO211; clear HB; have HO_18 := n0_; have HO208 := n1_; have HO211 := n2_; have HO215 := n3_; have HO217 := n4_; have HB := n5_; clear n0_ n1_ n2_ n3_ n4_ n5_; (try clear hb); (try clear hb2); (try clear hk); (try clear hi); (try clear ho0); (try clear ho1)) | (go_at_call 15; (with_reducible refine (laws_all.calls a4 a5 a6 t218 _ A66.out).mono ?_); rintro e w73 ⟨v219, rfl, ho0, hb⟩; have n0_ := Aside0.mk (Kd.R_below (by (with_reducible repeat (first | apply Kd.R_alloc | apply Kd.R_drewN | apply Kd.R_drew)); exact HO_18.out) hb); have n1_ := Aside0.mk (Kd.R_below (by (with_reducible repeat (first | apply Kd.R_alloc | apply Kd.R_drewN | apply Kd.R_drew)); exact HO208.out) hb); have n2_ := Aside0.mk (Kd.R_elder' (by (with_reducible repeat (first | apply Kd.R_alloc | apply Kd.R_drewN | apply Kd.R_drew)); exact HO211.out) (Kd.R_base ho0) hb); have n3_ := Aside0.mk (Kd.R_below (by (with_reducible repeat (first | apply Kd.R_alloc | apply Kd.R_drewN | apply Kd.R_drew)); exact HO215.out) hb); have n4_ := Aside0.mk (Kd.S_below (by (with_reducible repeat (first | apply Kd.S_alloc | apply Kd.S_drewN | apply Kd.S_drew)); exact HO217.out) hb); have n5_ := Aside0.mk (Kd.R_lower (Kd.R_new' ho0 (Kd.R_lt (by (with_reducible repeat (first | apply Kd.R_alloc | apply Kd.R_drewN | apply Kd.R_drew)); exact HO211.out))) (below_size (by repeat (first | (with_reducible first | exact HB.out | apply below_alloc | apply pw_below_drewN | apply below_drew1) | exact HB.out)))); have n6_ := Aside0.mk (below_step (by repeat (first | (with_reducible first | exact HB.out | apply below_alloc | apply pw_below_drewN | apply below_drew1) | exact HB.out)) hb); clear HO_18; clear HO208; clear HO211; clear HO215; clear HO217; clear HB; have HO_18 := n0_; have HO208 := n1_; have HO211 := n2_; have HO215 := n3_; have HO217 := n4_; have HO220 := n5_; have HB := n6_; clear n0_ n1_ n2_ n3_ n4_ n5_ n6_; (try clear hb); (try clear hb2); (try clear hk); (try clear hi); (try clear ho0); obtain ⟨Ao74, co74, eo74⟩ := Kd.R_slice HO_18.out; subst eo74; obtain ⟨Ao75, co75, eo75⟩ := Kd.R_slice HO220.out; subst eo75) | (go_at_call 13; (with_reducible refine (impl_Roles.calls k4 a0 a1 0 0 _ _ x18_4 _ _ t218 t221 t222 _ ?side1 ?side2 ?side3 ?side4 A67.out).mono ?_); (case side1 => repeat (first | exact (Kd.R_reads' HO_18.out).2.2 | (with_reducible refine Kd.C_alloc ?_ _) | (with_reducible refine Kd.C_drewN ?_ _) | (with_reducible refine Kd.C_drew ?_))); (case side2 => exact (Kd.R_reads' HO_18.out).2.1); (case side3 => repeat (first | exact (Kd.R_reads' HO220.out).2.2 | (with_reducible refine Kd.C_alloc ?_ _) | (with_reducible refine Kd.C_drewN ?_ _) | (with_reducible refine Kd.C_drew ?_))); (case side4 => exact (Kd.R_reads' HO220.out).2.1); rintro e w76 ⟨v223, v225, rfl, ho0, ⟨lp_t222, hp_, ho1⟩, hb⟩; have HTt222 := Aside0.mk hp_; have HLt222 := Aside0.mk hp_.len; clear hp_; have n0_ := Aside0.mk (Kd.R_below (by (with_reducible repeat (first | apply Kd.R_alloc | apply Kd.R_drewN | apply Kd.R_drew)); exact HO_18.out) hb); have n1_ := Aside0.mk (Kd.R_below (by (with_reducible repeat (first | apply Kd.R_alloc | apply Kd.R_drewN | apply Kd.R_drew)); exact HO208.out) hb); have n2_ := Aside0.mk (Kd.R_below (by (with_reducible repeat (first | apply Kd.R_alloc | apply Kd.R_drewN | apply Kd.R_drew)); exact HO211.out) hb); have n3_ := Aside0.mk (Kd.R_elder' (by (with_reducible repeat (first | apply Kd.R_alloc | apply Kd.R_drewN | apply Kd.R_drew)); exact HO215.out) (Kd.R_base ho0) hb); have n4_ := Aside0.mk (Kd.S_elder' (by (with_reducible repeat (first | apply Kd.S_alloc | apply Kd.S_drewN | apply Kd.S_drew)); exact HO217.out) (Kd.S_base ho1) hb); have n5_ := Aside0.mk (Kd.R_below (by (with_reducible repeat (first | apply Kd.R_alloc | apply Kd.R_drewN | apply Kd.R_drew)); exact HO220.out) hb); have n6_ := Aside0.mk (Kd.R_lower (Kd.R_new' ho0 (Kd.R_lt (by (with_reducible repeat (first | apply Kd.R_alloc | apply Kd.R_drewN | apply Kd.R_drew)); exact HO215.out))) (below_size (by repeat (first | (with_reducible first | exact HB.out | apply below_alloc | apply pw_below_drewN | apply below_drew1) | exact HB.out)))); have n7_ := Aside0.mk (Kd.S_lower (Kd.S_new' ho1 (Kd.S_lt (by (with_reducible repeat (first | apply Kd.S_alloc | apply Kd.S_drewN | apply Kd.S_drew)); exact HO217.out))) (below_size (by repeat (first | (with_reducible first | exact HB.out | apply below_alloc | apply pw_below_drewN | apply below_drew1) | exact HB.out)))); have n8_ := Aside0.mk (below_step (by repeat (first | (with_reducible first | exact HB.out | apply below_alloc | apply pw_below_drewN | apply below_drew1) | exact HB.out)) hb); clear HO_18; clear HO208; clear HO211; clear HO215; clear HO217; clear HO220; clear HB; have HO_18 := n0_; have HO208 := n1_; have HO211 := n2_; have HO215 := n3_; have HO217 := n4_; have HO220 := n5_; have HO224 := n6_; have HO226 := n7_; have HB := n8_; clear n0_ n1_ n2_ n3_ n4_ n5_ n6_ n7_ n8_; (try clear hb); (try clear hb2); (try clear hk); (try clear hi); (try clear ho0); (try clear ho1))); try go_wp2_with (first | (go_at_call 14; (with_reducible refine (laws_added.calls k4 _ _ l2 t206 _ ?side1 ?side2 A63.out).mono ?_); (case side1 => repeat (first | exact (Kd.C_below HR2.out HB.out) | (with_reducible refine Kd.C_alloc ?_ _) | (with_reducible refine Kd.C_drewN ?_ _) | (with_reducible refine Kd.C_drew ?_))); (case side2 => exact HC2.out); rintro e w68 ⟨v207, rfl, ho0, hb⟩; have n0_ := Aside0.mk (Kd.R_elder' (by (with_reducible repeat (first | apply Kd.R_alloc | apply Kd.R_drewN | apply Kd.R_drew)); exact HO_18.out) (Kd.R_base ho0) hb); have n1_ := Aside0.mk (Kd.R_lower (Kd.R_new' ho0 (Kd.R_lt (by (with_reducible repeat (first | apply Kd.R_alloc | apply Kd.R_drewN | apply Kd.R_drew)); exact HO_18.out))) (below_size (by repeat (first | (with_reducible first | exact HB.out | apply below_alloc | apply pw_below_drewN | apply below_drew1) | exact HB.out)))); have n2_ := Aside0.mk (below_step (by repeat (first | (with_reducible first | exact HB.out | apply below_alloc | apply pw_below_drewN | apply below_drew1) | exact HB.out)) hb); clear HO_18; clear HB; have HO_18 := n0_; have HO208 := n1_; have HB := n2_; clear n0_ n1_ n2_; (try clear hb); (try clear hb2); (try clear hk); (try clear hi); (try clear ho0)) | (go_at_call 15; (with_reducible refine (laws_all.calls a4 a5 a6 t209 _ A64.out).mono ?_); rintro e w69 ⟨v210, rfl, ho0, hb⟩; have n0_ := Aside0.mk (Kd.R_below (by (with_reducible repeat (first | apply Kd.R_alloc | apply Kd.R_drewN | apply Kd.R_drew)); exact HO_18.out) hb); have n1_ := Aside0.mk (Kd.R_below (by (with_reducible repeat (first | apply Kd.R_alloc | apply Kd.R_drewN | apply Kd.R_drew)); exact HO208.out) hb); have n2_ := Aside0.mk (Kd.R_lower ho0 (below_size (by repeat (first | (with_reducible first | exact HB.out | apply below_alloc | apply pw_below_drewN | apply below_drew1) | exact HB.out)))); have n3_ := Aside0.mk (below_step (by repeat (first | (with_reducible first | exact HB.out | apply below_alloc | apply pw_below_drewN | apply below_drew1) | exact HB.out)) hb); clear HO_18; clear HO208; clear HB; have HO_18 := n0_; have HO208 := n1_; have HO211 := n2_; have HB := n3_; clear n0_ n1_ n2_ n3_; (try clear hb); (try clear hb2); (try clear hk); (try clear hi); (try clear ho0); obtain ⟨Ao70, co70, eo70⟩ := Kd.R_slice HO208.out; subst eo70; obtain ⟨Ao71, co71, eo71⟩ := Kd.R_slice HO211.out; subst eo71) | (go_at_call 13; (with_reducible refine (impl_Roles.calls k4 a0 a1 0 0 _ _ t206 _ _ t209 t212 t213 _ ?side1 ?side2 ?side3 ?side4 A65.out).mono ?_); (case side1 => repeat (first | exact (Kd.R_reads' HO208.out).2.2 | (with_reducible refine Kd.C_alloc ?_ _) | (with_reducible refine Kd.C_drewN ?_ _) | (with_reducible refine Kd.C_drew ?_))); (case side2 => exact (Kd.R_reads' HO208.out).2.1); (case side3 => repeat (first | exact (Kd.R_reads' HO211.out).2.2 | (with_reducible refine Kd.C_alloc ?_ _) | (with_reducible refine Kd.C_drewN ?_ _) | (with_reducible refine Kd.C_drew ?_))); (case side4 => exact (Kd.R_reads' HO211.out).2.1); rintro e w72 ⟨v214, v216, rfl, ho0, ⟨lp_t213, hp_, ho1⟩, hb⟩; have HTt213 := Aside0.mk hp_; have HLt213 := Aside0.mk hp_.len; clear hp_; have n0_ := Aside0.mk (Kd.R_below (by (with_reducible repeat (first | apply Kd.R_alloc | apply Kd.R_drewN | apply Kd.R_drew)); exact HO_18.out) hb); have n1_ := Aside0.mk (Kd.R_below (by (with_reducible repeat (first | apply Kd.R_alloc | apply Kd.R_drewN | apply Kd.R_drew)); exact HO208.out) hb); have n2_ := Aside0.mk (Kd.R_below (by (with_reducible repeat (first | apply Kd.R_alloc | apply Kd.R_drewN | apply Kd.R_drew)); exact HO211.out) hb); have n3_ := Aside0.mk (Kd.R_lower ho0 (below_size (by repeat (first | (with_reducible first | exact HB.out | apply below_alloc | apply pw_below_drewN | apply below_drew1) | exact HB.out)))); have n4_ := Aside0.mk (Kd.S_lower ho1 (below_size (by repeat (first | (with_reducible first | exact HB.out | apply below_alloc | apply pw_below_drewN | apply below_drew1) | exact HB.out)))); have n5_ := Aside0.mk (below_step (by repeat (first | (with_reducible first | exact HB.out | apply below_alloc | apply pw_below_drewN | apply below_drew1) | exact HB.out)) hb); clear HO_18; clear HO208; clear HO211; clear HB; have HO_18 := n0_; have HO208 := n1_; have HO211 := n2_; have HO215 := n3_; have HO217 := n4_; have HB := n5_; clear n0_ n1_ n2_ n3_ n4_ n5_; (try clear hb); (try clear hb2); (try clear hk); (try clear hi); (try clear ho0); (try clear ho1)) | (go_at_call 15; (with_reducible refine (laws_all.calls a4 a5 a6 t218 _ A66.out).mono ?_); rintro e w73 ⟨v219, rfl, ho0, hb⟩; have n0_ := Aside0.mk (Kd.R_below (by (with_reducible repeat (first | apply Kd.R_alloc | apply Kd.R_drewN | apply Kd.R_drew)); exact HO_18.out) hb); have n1_ := Aside0.mk (Kd.R_below (by (with_reducible repeat (first | apply Kd.R_alloc | apply Kd.R_drewN | apply Kd.R_drew)); exact HO208.out) hb); have n2_ := Aside0.mk (Kd.R_elder' (by (with_reducible repeat (first | apply Kd.R_alloc | apply Kd.R_drewN | apply Kd.R_drew)); exact HO211.out) (Kd.R_base ho0) hb); have n3_ := Aside0.mk (Kd.R_below (by (with_reducible repeat (first | apply Kd.R_alloc | apply Kd.R_drewN | apply Kd.R_drew)); exact HO215.out) hb); have n4_ := Aside0.mk (Kd.S_below (by (with_reducible repeat (first | apply Kd.S_alloc | apply Kd.S_drewN | apply Kd.S_drew)); exact HO217.out) hb); have n5_ := Aside0.mk (Kd.R_lower (Kd.R_new' ho0 (Kd.R_lt (by (with_reducible repeat (first | apply Kd.R_alloc | apply Kd.R_drewN | apply Kd.R_drew)); exact HO211.out))) (below_size (by repeat (first | (with_reducible first | exact HB.out | apply below_alloc | apply pw_below_drewN | apply below_drew1) | exact HB.out)))); have n6_ := Aside0.mk (below_step (by repeat (first | (with_reducible first | exact HB.out | apply below_alloc | apply pw_below_drewN | apply below_drew1) | exact HB.out)) hb); clear HO_18; clear HO208; clear HO211; clear HO215; clear HO217; clear HB; have HO_18 := n0_; have HO208 := n1_; have HO211 := n2_; have HO215 := n3_; have HO217 := n4_; have HO220 := n5_; have HB := n6_; clear n0_ n1_ n2_ n3_ n4_ n5_ n6_; (try clear hb); (try clear hb2); (try clear hk); (try clear hi); (try clear ho0); obtain ⟨Ao74, co74, eo74⟩ := Kd.R_slice HO_18.out; subst eo74; obtain ⟨Ao75, co75, eo75⟩ := Kd.R_slice HO220.out; subst eo75) | (go_at_call 13; (with_reducible refine (impl_Roles.calls k4 a0 a1 0 0 _ _ x18_4 _ _ t218 t221 t222 _ ?side1 ?side2 ?side3 ?side4 A67.out).mono ?_); (case side1 => repeat (first | exact (Kd.R_reads' HO_18.out).2.2 | (with_reducible refine Kd.C_alloc ?_ _) | (with_reducible refine Kd.C_drewN ?_ _) | (with_reducible refine Kd.C_drew ?_))); (case side2 => exact (Kd.R_reads' HO_18.out).2.1); (case side3 => repeat (first | exact (Kd.R_reads' HO220.out).2.2 | (with_reducible refine Kd.C_alloc ?_ _) | (with_reducible refine Kd.C_drewN ?_ _) | (with_reducible refine Kd.C_drew ?_))); (case side4 => exact (Kd.R_reads' HO220.out).2.1); rintro e w76 ⟨v223, v225, rfl, ho0, ⟨lp_t222, hp_, ho1⟩, hb⟩; have HTt222 := Aside0.mk hp_; have HLt222 := Aside0.mk hp_.len; clear hp_; have n0_ := Aside0.mk (Kd.R_below (by (with_reducible repeat (first | apply Kd.R_alloc | apply Kd.R_drewN | apply Kd.R_drew)); exact HO_18.out) hb); have n1_ := Aside0.mk (Kd.R_below (by (with_reducible repeat (first | apply Kd.R_alloc | apply Kd.R_drewN | apply Kd.R_drew)); exact HO208.out) hb); have n2_ := Aside0.mk (Kd.R_below (by (with_reducible repeat (first | apply Kd.R_alloc | apply Kd.R_drewN | apply Kd.R_drew)); exact HO211.out) hb); have n3_ := Aside0.mk (Kd.R_elder' (by (with_reducible repeat (first | apply Kd.R_alloc | apply Kd.R_drewN | apply Kd.R_drew)); exact HO215.out) (Kd.R_base ho0) hb); have n4_ := Aside0.mk (Kd.S_elder' (by (with_reducible repeat (first | apply Kd.S_alloc | apply Kd.S_drewN | apply Kd.S_drew)); exact HO217.out) (Kd.S_base ho1) hb); have n5_ := Aside0.mk (Kd.R_below (by (with_reducible repeat (first | apply Kd.R_alloc | apply Kd.R_drewN | apply Kd.R_drew)); exact HO220.out) hb); have n6_ := Aside0.mk (Kd.R_lower (Kd.R_new' ho0 (Kd.R_lt (by (with_reducible repeat (first | apply Kd.R_alloc | apply Kd.R_drewN | apply Kd.R_drew)); exact HO215.out))) (below_size (by repeat (first | (with_reducible first | exact HB.out | apply below_alloc | apply pw_below_drewN | apply below_drew1) | exact HB.out)))); have n7_ := Aside0.mk (Kd.S_lower (Kd.S_new' ho1 (Kd.S_lt (by (with_reducible repeat (first | apply Kd.S_alloc | apply Kd.S_drewN | apply Kd.S_drew)); exact HO217.out))) (below_size (by repeat (first | (with_reducible first | exact HB.out | apply below_alloc | apply pw_below_drewN | apply below_drew1) | exact HB.out)))); have n8_ := Aside0.mk (below_step (by repeat (first | (with_reducible first | exact HB.out | apply below_alloc | apply pw_below_drewN | apply below_drew1) | exact HB.out)) hb); clear HO_18; clear HO208; clear HO211; clear HO215; clear HO217; clear HO220; clear HB; have HO_18 := n0_; have HO208 := n1_; have HO211 := n2_; have HO215 := n3_; have HO217 := n4_; have HO220 := n5_; have HO224 := n6_; have HO226 := n7_; have HB := n8_; clear n0_ n1_ n2_ n3_ n4_ n5_ n6_ n7_ n8_; (try clear hb); (try clear hb2); (try clear hk); (try clear hi); (try clear ho0); (try clear ho1))))
              go_loopg [24] k4 (fun kq v24 w' => ∃ (x24_5 : Int), v24 = .int .i64 x24_5 ∧ Aside0 (laws_FnRolesUndone.l4 kq x18_4 t213 t221 t222 x24_5 = some r) ∧ Aside0 (kq ≤ k4) ∧ Aside0 (Kd.R k54 54 w' w.heap.size (fun _ => True) (.slice Ao74 x18_4.length co74) x18_4) ∧ Aside0 (Kd.S k40 40 w' w.heap.size (fun k_ => some k_ ≠ (v225 : Value).ownBlock) v216 lp_t213) ∧ Aside0 (Kd.R (Kd.int .i64) 3 w' w.heap.size (fun _ => True) v223 t221) ∧ Aside0 (Kd.S k40 40 w' w.heap.size (fun k_ => some k_ ≠ (v216 : Value).ownBlock) v225 lp_t222) ∧ Aside0 (Below w.heap.size w w'))
              case atStart => exact ⟨(0), (by first | rfl | (simp; done) | (simp [*]; done)), H', ⟨Nat.le_refl _⟩, ⟨by (with_reducible repeat (first | apply Kd.R_alloc | apply Kd.R_drewN | apply Kd.R_drew)); exact Kd.R_mono HO_18.out (fun _ hk => trivial)⟩, ⟨by (with_reducible repeat (first | apply Kd.S_alloc | apply Kd.S_drewN | apply Kd.S_drew)); exact Kd.S_mono HO217.out (fun _ hk => hk.2)⟩, ⟨by (with_reducible repeat (first | apply Kd.R_alloc | apply Kd.R_drewN | apply Kd.R_drew)); exact Kd.R_mono HO224.out (fun _ hk => trivial)⟩, ⟨by (with_reducible repeat (first | apply Kd.S_alloc | apply Kd.S_drewN | apply Kd.S_drew)); exact Kd.S_mono HO226.out (fun _ hk => hk.2)⟩, ⟨by repeat (first | (with_reducible first | exact HB.out | apply below_alloc | apply pw_below_drewN | apply below_drew1) | exact HB.out)⟩⟩
              case round =>
               clear H'
               try clear c1
               try clear p1
               try clear q1
               try clear hx1
               try clear c2
               try clear p2
               try clear q2
               try clear hx2
               try clear c3
               try clear c4
               try clear c5
               try clear c6
               try clear p6
               try clear c8
               try clear c10
               try clear c12
               try clear c13
               try clear c13b0
               try clear c13b1
               try clear c16
               try clear c16b0
               try clear c16b1
               try clear p18
               try clear q18
               try clear hx18
               try clear p19
               try clear q19
               try clear hx19
               try clear p20
               try clear q20
               try clear hx20
               try clear c24
               try clear c26
               try clear c26b0
               try clear c27
               try clear c27b0
               try clear c29
               try clear c31
               try clear c33
               try clear c36
               try clear c36b0
               try clear c37
               try clear c37b0
               try clear c38
               try clear c38b0
               try clear c39
               try clear c39b0
               try clear c40
               try clear c40b0
               try clear c41
               try clear c41b0
               try clear c41b1
               try clear c41b2
               try clear c44
               try clear c44b0
               try clear c45
               try clear c45b0
               try clear c46
               try clear c46b0
               try clear c47
               try clear c47b0
               try clear c48
               try clear c48b0
               try clear c49
               try clear c49b0
               try clear c49b1
               try clear c49b2
               try clear c54
               try clear c59
               try clear c59b0
               try clear c60
               try clear c60b0
               try clear c61
               try clear p64
               try clear hx187_0
               try clear hx187_1
               try clear hx187_2
               try clear hx188_0
               try clear hx188_1
               try clear hx188_2
               try clear hx190_0
               try clear hx190_1
               try clear hx190_2
               try clear hx191_0
               try clear hx191_1
               try clear hx191_2
               try clear hx202_0
               try clear hx202_1
               try clear hx202_2
               try clear p1
               try clear p18
               try clear p187
               try clear p188
               try clear p19
               try clear p190
               try clear p191
               try clear p2
               try clear p202
               try clear p6
               try clear q1
               try clear q18
               try clear q187
               try clear q188
               try clear q19
               try clear q190
               try clear q191
               try clear q202
               obtain ⟨x24_5, rfl, HA, HK5, HO_18, HO_21, HO_22, HO_23, HB⟩ := hrel
               cases gk with
               | zero => exact absurd HA.out (by simp [laws_FnRolesUndone.l4])
               | succ k5 =>
                have H := HA.out
                clear HA
                simp only [laws_FnRolesUndone.l4] at H
                by_cases c77 : x24_5 < (t221.length : Int)
                ·rw [if_pos c77] at H
                 have c77b0 : decide (x24_5 < (t221.length : Int)) = true := decide_eq_true c77
                 clear c77
                 by_cases c78 : 0 ≤ x24_5
                 ·rw [if_pos c78] at H
                  have c78b0 : decide (0 ≤ x24_5) = true := decide_eq_true c78
                  clear c78
                  by_cases c79 : (rd t221 x24_5) = 0
                  ·rw [if_pos c79] at H
                   have c79b0 : ((rd t221 x24_5) == 0) = true := beq_iff_eq.mpr c79
                   have c79b1 : ((rd t221 x24_5) != 0) = false := bne_eq_false_iff_eq.mpr c79
                   clear c79
                   have H' := Aside0.mk H
                   clear H
                   obtain ⟨Ao80, co80, eo80⟩ := Kd.R_slice HO_22.out
                   subst eo80
                   have p227 : 0 ≤ (x24_5 : Int) := of_decide_eq_true (by first | (with_reducible assumption) | assumption)
                   have q227 : x24_5 < (t221.length : Int) := of_decide_eq_true (by first | (with_reducible assumption) | assumption)
                   obtain ⟨ad227, e227, hx227_0⟩ := Kd.at_int (Kd.R_reads' HO_22.out).2.2 x24_5 p227 q227
                   cases e227
                   replace p227 := eq_true p227
                   replace q227 := eq_true q227
                   go_wp2
                   repeat (go_quiet (fail); try go_wp2)
                   go_roundg k5
                   case measure => have := HJ7.out; have := HJ24.out; have := HK3.out; have := HK4.out; have := HK5.out; omega
                   case rel => exact ⟨(wrap64 (x24_5 + 1)), (by first | rfl | (simp; done) | (simp [*]; done)), H', ⟨by have := HJ7.out; have := HJ24.out; have := HK3.out; have := HK4.out; have := HK5.out; omega⟩, ⟨by (with_reducible repeat (first | apply Kd.R_alloc | apply Kd.R_drewN | apply Kd.R_drew)); exact HO_18.out⟩, ⟨by (with_reducible repeat (first | apply Kd.S_alloc | apply Kd.S_drewN | apply Kd.S_drew)); exact HO_21.out⟩, ⟨by (with_reducible repeat (first | apply Kd.R_alloc | apply Kd.R_drewN | apply Kd.R_drew)); exact HO_22.out⟩, ⟨by (with_reducible repeat (first | apply Kd.S_alloc | apply Kd.S_drewN | apply Kd.S_drew)); exact HO_23.out⟩, ⟨by repeat (first | (with_reducible first | exact HB.out | apply below_alloc | apply pw_below_drewN | apply below_drew1) | exact HB.out)⟩⟩
                  ·rw [if_neg c79] at H
                   have c79b0 : ((rd t221 x24_5) == 0) = false := beq_eq_false_iff_ne.mpr c79
                   have c79b1 : ((rd t221 x24_5) != 0) = true := bne_iff_ne.mpr c79
                   obtain rfl := Option.some.inj H
                   obtain ⟨Ao81, co81, eo81⟩ := Kd.R_slice HO_22.out
                   subst eo81
                   have p227 : 0 ≤ (x24_5 : Int) := of_decide_eq_true (by first | (with_reducible assumption) | assumption)
                   have q227 : x24_5 < (t221.length : Int) := of_decide_eq_true (by first | (with_reducible assumption) | assumption)
                   obtain ⟨ad227, e227, hx227_0⟩ := Kd.at_int (Kd.R_reads' HO_22.out).2.2 x24_5 p227 q227
                   cases e227
                   replace p227 := eq_true p227
                   replace q227 := eq_true q227
                   go_wp2
                   repeat (go_quiet (fail); try go_wp2)
                   go_ret
                   exact ⟨by first | rfl | (simp [errW_none, errW_some] <;> rfl) | (simp [*, errW_none, errW_some] <;> rfl), by repeat (first | (with_reducible first | exact HB.out | apply below_alloc | apply pw_below_drewN | apply below_drew1) | exact HB.out)⟩
                 ·rw [if_neg c78] at H
                  exact absurd H (by simp)
                ·rw [if_neg c77] at H
                 have c77b0 : decide (x24_5 < (t221.length : Int)) = false := decide_eq_false c77
                 clear c77
                 by_cases c82 : (t221.length : Int) = (x18_4.length : Int)
                 ·rw [if_pos c82] at H
                  have c82b0 : ((t221.length : Int) == (x18_4.length : Int)) = true := beq_iff_eq.mpr c82
                  have c82b1 : ((t221.length : Int) != (x18_4.length : Int)) = false := bne_eq_false_iff_eq.mpr c82
                  have c82b2 : (t221.length == x18_4.length) = true := by first | simpa using c82 | (simp at c82 ⊢; omega)
                  clear c82
                  by_cases c83 : (t213.length : Int) = 8
                  ·rw [if_pos c83] at H
                   have c83b0 : ((t213.length : Int) == 8) = true := beq_iff_eq.mpr c83
                   try rw [← HLt213.out] at c83b0
                   have c83b1 : ((t213.length : Int) != 8) = false := bne_eq_false_iff_eq.mpr c83
                   try rw [← HLt213.out] at c83b1
                   clear c83
                   replace H := Option.bind_eq_some_iff.mp H
                   obtain ⟨t228, A840, H⟩ := H
                   replace H : (if t228 = true then ((laws_awakeRoles.f k5).bind fun t229 => (some t229)) else (some false)) = some r := H
                   have A84 := Aside0.mk A840
                   clear A840
                   by_cases c85 : t228 = true
                   ·subst c85
                    have H1 : ((laws_awakeRoles.f k5).bind fun t229 => (some t229)) = some r := by rw [if_pos rfl] at H; exact H
                    clear H
                    have H := H1
                    clear H1
                    replace H := Option.bind_eq_some_iff.mp H
                    obtain ⟨t229, A860, H⟩ := H
                    replace H : (some t229) = some r := H
                    have A86 := Aside0.mk A860
                    clear A860
                    obtain rfl := Option.some.inj H
                    obtain ⟨Ao87, co87, eo87⟩ := Kd.R_slice HO_22.out
                    subst eo87
                    obtain ⟨Ao88, co88, eo88⟩ := Kd.S_slice HO_21.out
                    subst eo88
                    obtain ⟨Ao89, co89, eo89⟩ := Kd.S_slice HO_23.out
                    subst eo89
                    go_wp2_with (first | (go_at_call 16; (with_reducible refine (laws_sameTold.calls _ _ _ lp_t213 _ _ lp_t222 true _ ?side1 ?side2 ?side3 ?side4 (sameTold_told HTt213.out HTt222.out A84.out).choose_spec).mono ?_); (case side1 => repeat (first | exact (Kd.S_reads' HO_21.out).2.2 | (with_reducible refine Kd.C_alloc ?_ _) | (with_reducible refine Kd.C_drewN ?_ _) | (with_reducible refine Kd.C_drew ?_))); (case side2 => exact (Kd.S_reads' HO_21.out).2.1); (case side3 => repeat (first | exact (Kd.S_reads' HO_23.out).2.2 | (with_reducible refine Kd.C_alloc ?_ _) | (with_reducible refine Kd.C_drewN ?_ _) | (with_reducible refine Kd.C_drew ?_))); (case side4 => exact (Kd.S_reads' HO_23.out).2.1); rintro e w90 ⟨rfl, hb⟩; have n0_ := Aside0.mk (Kd.R_below (by (with_reducible repeat (first | apply Kd.R_alloc | apply Kd.R_drewN | apply Kd.R_drew)); exact HO_18.out) hb); have n1_ := Aside0.mk (Kd.S_below (by (with_reducible repeat (first | apply Kd.S_alloc | apply Kd.S_drewN | apply Kd.S_drew)); exact HO_21.out) hb); have n2_ := Aside0.mk (Kd.R_below (by (with_reducible repeat (first | apply Kd.R_alloc | apply Kd.R_drewN | apply Kd.R_drew)); exact HO_22.out) hb); have n3_ := Aside0.mk (Kd.S_below (by (with_reducible repeat (first | apply Kd.S_alloc | apply Kd.S_drewN | apply Kd.S_drew)); exact HO_23.out) hb); have n4_ := Aside0.mk (below_step (by repeat (first | (with_reducible first | exact HB.out | apply below_alloc | apply pw_below_drewN | apply below_drew1) | exact HB.out)) hb); clear HO_18; clear HO_21; clear HO_22; clear HO_23; clear HB; have HO_18 := n0_; have HO_21 := n1_; have HO_22 := n2_; have HO_23 := n3_; have HB := n4_; clear n0_ n1_ n2_ n3_ n4_; (try clear hb); (try clear hb2); (try clear hk); (try clear hi)) | (go_at_call 12; (with_reducible refine (laws_awakeRoles.calls k5  t229 _ A86.out).mono ?_); rintro e w91 ⟨rfl, hb⟩; have n0_ := Aside0.mk (Kd.R_below (by (with_reducible repeat (first | apply Kd.R_alloc | apply Kd.R_drewN | apply Kd.R_drew)); exact HO_18.out) hb); have n1_ := Aside0.mk (Kd.S_below (by (with_reducible repeat (first | apply Kd.S_alloc | apply Kd.S_drewN | apply Kd.S_drew)); exact HO_21.out) hb); have n2_ := Aside0.mk (Kd.R_below (by (with_reducible repeat (first | apply Kd.R_alloc | apply Kd.R_drewN | apply Kd.R_drew)); exact HO_22.out) hb); have n3_ := Aside0.mk (Kd.S_below (by (with_reducible repeat (first | apply Kd.S_alloc | apply Kd.S_drewN | apply Kd.S_drew)); exact HO_23.out) hb); have n4_ := Aside0.mk (below_step (by repeat (first | (with_reducible first | exact HB.out | apply below_alloc | apply pw_below_drewN | apply below_drew1) | exact HB.out)) hb); clear HO_18; clear HO_21; clear HO_22; clear HO_23; clear HB; have HO_18 := n0_; have HO_21 := n1_; have HO_22 := n2_; have HO_23 := n3_; have HB := n4_; clear n0_ n1_ n2_ n3_ n4_; (try clear hb); (try clear hb2); (try clear hk); (try clear hi)))
                    repeat (go_quiet (first | (go_at_call 16; (with_reducible refine (laws_sameTold.calls _ _ _ lp_t213 _ _ lp_t222 true _ ?side1 ?side2 ?side3 ?side4 (sameTold_told HTt213.out HTt222.out A84.out).choose_spec).mono ?_); (case side1 => repeat (first | exact (Kd.S_reads' HO_21.out).2.2 | (with_reducible refine Kd.C_alloc ?_ _) | (with_reducible refine Kd.C_drewN ?_ _) | (with_reducible refine Kd.C_drew ?_))); (case side2 => exact (Kd.S_reads' HO_21.out).2.1); (case side3 => repeat (first | exact (Kd.S_reads' HO_23.out).2.2 | (with_reducible refine Kd.C_alloc ?_ _) | (with_reducible refine Kd.C_drewN ?_ _) | (with_reducible refine Kd.C_drew ?_))); (case side4 => exact (Kd.S_reads' HO_23.out).2.1); rintro e w90 ⟨rfl, hb⟩; have n0_ := Aside0.mk (Kd.R_below (by (with_reducible repeat (first | apply Kd.R_alloc | apply Kd.R_drewN | apply Kd.R_drew)); exact HO_18.out) hb); have n1_ := Aside0.mk (Kd.S_below (by (with_reducible repeat (first | apply Kd.S_alloc | apply Kd.S_drewN | apply Kd.S_drew)); exact HO_21.out) hb); have n2_ := Aside0.mk (Kd.R_below (by (with_reducible repeat (first | apply Kd.R_alloc | apply Kd.R_drewN | apply Kd.R_drew)); exact HO_22.out) hb); have n3_ := Aside0.mk (Kd.S_below (by (with_reducible repeat (first | apply Kd.S_alloc | apply Kd.S_drewN | apply Kd.S_drew)); exact HO_23.out) hb); have n4_ := Aside0.mk (below_step (by repeat (first | (with_reducible first | exact HB.out | apply below_alloc | apply pw_below_drewN | apply below_drew1) | exact HB.out)) hb); clear HO_18; clear HO_21; clear HO_22; clear HO_23; clear HB; have HO_18 := n0_; have HO_21 := n1_; have HO_22 := n2_; have HO_23 := n3_; have HB := n4_; clear n0_ n1_ n2_ n3_ n4_; (try clear hb); (try clear hb2); (try clear hk); (try clear hi)) | (go_at_call 12; (with_reducible refine (laws_awakeRoles.calls k5  t229 _ A86.out).mono ?_); rintro e w91 ⟨rfl, hb⟩; have n0_ := Aside0.mk (Kd.R_below (by (with_reducible repeat (first | apply Kd.R_alloc | apply Kd.R_drewN | apply Kd.R_drew)); exact HO_18.out) hb); have n1_ := Aside0.mk (Kd.S_below (by (with_reducible repeat (first | apply Kd.S_alloc | apply Kd.S_drewN | apply Kd.S_drew)); exact HO_21.out) hb); have n2_ := Aside0.mk (Kd.R_below (by (with_reducible repeat (first | apply Kd.R_alloc | apply Kd.R_drewN | apply Kd.R_drew)); exact HO_22.out) hb); have n3_ := Aside0.mk (Kd.S_below (by (with_reducible repeat (first | apply Kd.S_alloc | apply Kd.S_drewN | apply Kd.S_drew)); exact HO_23.out) hb); have n4_ := Aside0.mk (below_step (by repeat (first | (with_reducible first | exact HB.out | apply below_alloc | apply pw_below_drewN | apply below_drew1) | exact HB.out)) hb); clear HO_18; clear HO_21; clear HO_22; clear HO_23; clear HB; have HO_18 := n0_; have HO_21 := n1_; have HO_22 := n2_; have HO_23 := n3_; have HB := n4_; clear n0_ n1_ n2_ n3_ n4_; (try clear hb); (try clear hb2); (try clear hk); (try clear hi))); try go_wp2_with (first | (go_at_call 16; (with_reducible refine (laws_sameTold.calls _ _ _ lp_t213 _ _ lp_t222 true _ ?side1 ?side2 ?side3 ?side4 (sameTold_told HTt213.out HTt222.out A84.out).choose_spec).mono ?_); (case side1 => repeat (first | exact (Kd.S_reads' HO_21.out).2.2 | (with_reducible refine Kd.C_alloc ?_ _) | (with_reducible refine Kd.C_drewN ?_ _) | (with_reducible refine Kd.C_drew ?_))); (case side2 => exact (Kd.S_reads' HO_21.out).2.1); (case side3 => repeat (first | exact (Kd.S_reads' HO_23.out).2.2 | (with_reducible refine Kd.C_alloc ?_ _) | (with_reducible refine Kd.C_drewN ?_ _) | (with_reducible refine Kd.C_drew ?_))); (case side4 => exact (Kd.S_reads' HO_23.out).2.1); rintro e w90 ⟨rfl, hb⟩; have n0_ := Aside0.mk (Kd.R_below (by (with_reducible repeat (first | apply Kd.R_alloc | apply Kd.R_drewN | apply Kd.R_drew)); exact HO_18.out) hb); have n1_ := Aside0.mk (Kd.S_below (by (with_reducible repeat (first | apply Kd.S_alloc | apply Kd.S_drewN | apply Kd.S_drew)); exact HO_21.out) hb); have n2_ := Aside0.mk (Kd.R_below (by (with_reducible repeat (first | apply Kd.R_alloc | apply Kd.R_drewN | apply Kd.R_drew)); exact HO_22.out) hb); have n3_ := Aside0.mk (Kd.S_below (by (with_reducible repeat (first | apply Kd.S_alloc | apply Kd.S_drewN | apply Kd.S_drew)); exact HO_23.out) hb); have n4_ := Aside0.mk (below_step (by repeat (first | (with_reducible first | exact HB.out | apply below_alloc | apply pw_below_drewN | apply below_drew1) | exact HB.out)) hb); clear HO_18; clear HO_21; clear HO_22; clear HO_23; clear HB; have HO_18 := n0_; have HO_21 := n1_; have HO_22 := n2_; have HO_23 := n3_; have HB := n4_; clear n0_ n1_ n2_ n3_ n4_; (try clear hb); (try clear hb2); (try clear hk); (try clear hi)) | (go_at_call 12; (with_reducible refine (laws_awakeRoles.calls k5  t229 _ A86.out).mono ?_); rintro e w91 ⟨rfl, hb⟩; have n0_ := Aside0.mk (Kd.R_below (by (with_reducible repeat (first | apply Kd.R_alloc | apply Kd.R_drewN | apply Kd.R_drew)); exact HO_18.out) hb); have n1_ := Aside0.mk (Kd.S_below (by (with_reducible repeat (first | apply Kd.S_alloc | apply Kd.S_drewN | apply Kd.S_drew)); exact HO_21.out) hb); have n2_ := Aside0.mk (Kd.R_below (by (with_reducible repeat (first | apply Kd.R_alloc | apply Kd.R_drewN | apply Kd.R_drew)); exact HO_22.out) hb); have n3_ := Aside0.mk (Kd.S_below (by (with_reducible repeat (first | apply Kd.S_alloc | apply Kd.S_drewN | apply Kd.S_drew)); exact HO_23.out) hb); have n4_ := Aside0.mk (below_step (by repeat (first | (with_reducible first | exact HB.out | apply below_alloc | apply pw_below_drewN | apply below_drew1) | exact HB.out)) hb); clear HO_18; clear HO_21; clear HO_22; clear HO_23; clear HB; have HO_18 := n0_; have HO_21 := n1_; have HO_22 := n2_; have HO_23 := n3_; have HB := n4_; clear n0_ n1_ n2_ n3_ n4_; (try clear hb); (try clear hb2); (try clear hk); (try clear hi))))
                    go_ret
                    exact ⟨by first | rfl | (simp [errW_none, errW_some] <;> rfl) | (simp [*, errW_none, errW_some] <;> rfl), by repeat (first | (with_reducible first | exact HB.out | apply below_alloc | apply pw_below_drewN | apply below_drew1) | exact HB.out)⟩
                   ·replace c85 := Bool.eq_false_iff.mpr c85
                    subst c85
                    have H1 : (some false) = some r := by rw [if_neg (show ¬ (false = true) by decide)] at H; exact H
                    clear H
                    have H := H1
                    clear H1
                    obtain rfl := Option.some.inj H
                    obtain ⟨Ao92, co92, eo92⟩ := Kd.R_slice HO_22.out
                    subst eo92
                    obtain ⟨Ao93, co93, eo93⟩ := Kd.S_slice HO_21.out
                    subst eo93
                    obtain ⟨Ao94, co94, eo94⟩ := Kd.S_slice HO_23.out
                    subst eo94
                    go_wp2_with (first | (go_at_call 16; (with_reducible refine (laws_sameTold.calls _ _ _ lp_t213 _ _ lp_t222 false _ ?side1 ?side2 ?side3 ?side4 (sameTold_told HTt213.out HTt222.out A84.out).choose_spec).mono ?_); (case side1 => repeat (first | exact (Kd.S_reads' HO_21.out).2.2 | (with_reducible refine Kd.C_alloc ?_ _) | (with_reducible refine Kd.C_drewN ?_ _) | (with_reducible refine Kd.C_drew ?_))); (case side2 => exact (Kd.S_reads' HO_21.out).2.1); (case side3 => repeat (first | exact (Kd.S_reads' HO_23.out).2.2 | (with_reducible refine Kd.C_alloc ?_ _) | (with_reducible refine Kd.C_drewN ?_ _) | (with_reducible refine Kd.C_drew ?_))); (case side4 => exact (Kd.S_reads' HO_23.out).2.1); rintro e w95 ⟨rfl, hb⟩; have n0_ := Aside0.mk (Kd.R_below (by (with_reducible repeat (first | apply Kd.R_alloc | apply Kd.R_drewN | apply Kd.R_drew)); exact HO_18.out) hb); have n1_ := Aside0.mk (Kd.S_below (by (with_reducible repeat (first | apply Kd.S_alloc | apply Kd.S_drewN | apply Kd.S_drew)); exact HO_21.out) hb); have n2_ := Aside0.mk (Kd.R_below (by (with_reducible repeat (first | apply Kd.R_alloc | apply Kd.R_drewN | apply Kd.R_drew)); exact HO_22.out) hb); have n3_ := Aside0.mk (Kd.S_below (by (with_reducible repeat (first | apply Kd.S_alloc | apply Kd.S_drewN | apply Kd.S_drew)); exact HO_23.out) hb); have n4_ := Aside0.mk (below_step (by repeat (first | (with_reducible first | exact HB.out | apply below_alloc | apply pw_below_drewN | apply below_drew1) | exact HB.out)) hb); clear HO_18; clear HO_21; clear HO_22; clear HO_23; clear HB; have HO_18 := n0_; have HO_21 := n1_; have HO_22 := n2_; have HO_23 := n3_; have HB := n4_; clear n0_ n1_ n2_ n3_ n4_; (try clear hb); (try clear hb2); (try clear hk); (try clear hi)))
                    repeat (go_quiet (first | (go_at_call 16; (with_reducible refine (laws_sameTold.calls _ _ _ lp_t213 _ _ lp_t222 false _ ?side1 ?side2 ?side3 ?side4 (sameTold_told HTt213.out HTt222.out A84.out).choose_spec).mono ?_); (case side1 => repeat (first | exact (Kd.S_reads' HO_21.out).2.2 | (with_reducible refine Kd.C_alloc ?_ _) | (with_reducible refine Kd.C_drewN ?_ _) | (with_reducible refine Kd.C_drew ?_))); (case side2 => exact (Kd.S_reads' HO_21.out).2.1); (case side3 => repeat (first | exact (Kd.S_reads' HO_23.out).2.2 | (with_reducible refine Kd.C_alloc ?_ _) | (with_reducible refine Kd.C_drewN ?_ _) | (with_reducible refine Kd.C_drew ?_))); (case side4 => exact (Kd.S_reads' HO_23.out).2.1); rintro e w95 ⟨rfl, hb⟩; have n0_ := Aside0.mk (Kd.R_below (by (with_reducible repeat (first | apply Kd.R_alloc | apply Kd.R_drewN | apply Kd.R_drew)); exact HO_18.out) hb); have n1_ := Aside0.mk (Kd.S_below (by (with_reducible repeat (first | apply Kd.S_alloc | apply Kd.S_drewN | apply Kd.S_drew)); exact HO_21.out) hb); have n2_ := Aside0.mk (Kd.R_below (by (with_reducible repeat (first | apply Kd.R_alloc | apply Kd.R_drewN | apply Kd.R_drew)); exact HO_22.out) hb); have n3_ := Aside0.mk (Kd.S_below (by (with_reducible repeat (first | apply Kd.S_alloc | apply Kd.S_drewN | apply Kd.S_drew)); exact HO_23.out) hb); have n4_ := Aside0.mk (below_step (by repeat (first | (with_reducible first | exact HB.out | apply below_alloc | apply pw_below_drewN | apply below_drew1) | exact HB.out)) hb); clear HO_18; clear HO_21; clear HO_22; clear HO_23; clear HB; have HO_18 := n0_; have HO_21 := n1_; have HO_22 := n2_; have HO_23 := n3_; have HB := n4_; clear n0_ n1_ n2_ n3_ n4_; (try clear hb); (try clear hb2); (try clear hk); (try clear hi))); try go_wp2_with (first | (go_at_call 16; (with_reducible refine (laws_sameTold.calls _ _ _ lp_t213 _ _ lp_t222 false _ ?side1 ?side2 ?side3 ?side4 (sameTold_told HTt213.out HTt222.out A84.out).choose_spec).mono ?_); (case side1 => repeat (first | exact (Kd.S_reads' HO_21.out).2.2 | (with_reducible refine Kd.C_alloc ?_ _) | (with_reducible refine Kd.C_drewN ?_ _) | (with_reducible refine Kd.C_drew ?_))); (case side2 => exact (Kd.S_reads' HO_21.out).2.1); (case side3 => repeat (first | exact (Kd.S_reads' HO_23.out).2.2 | (with_reducible refine Kd.C_alloc ?_ _) | (with_reducible refine Kd.C_drewN ?_ _) | (with_reducible refine Kd.C_drew ?_))); (case side4 => exact (Kd.S_reads' HO_23.out).2.1); rintro e w95 ⟨rfl, hb⟩; have n0_ := Aside0.mk (Kd.R_below (by (with_reducible repeat (first | apply Kd.R_alloc | apply Kd.R_drewN | apply Kd.R_drew)); exact HO_18.out) hb); have n1_ := Aside0.mk (Kd.S_below (by (with_reducible repeat (first | apply Kd.S_alloc | apply Kd.S_drewN | apply Kd.S_drew)); exact HO_21.out) hb); have n2_ := Aside0.mk (Kd.R_below (by (with_reducible repeat (first | apply Kd.R_alloc | apply Kd.R_drewN | apply Kd.R_drew)); exact HO_22.out) hb); have n3_ := Aside0.mk (Kd.S_below (by (with_reducible repeat (first | apply Kd.S_alloc | apply Kd.S_drewN | apply Kd.S_drew)); exact HO_23.out) hb); have n4_ := Aside0.mk (below_step (by repeat (first | (with_reducible first | exact HB.out | apply below_alloc | apply pw_below_drewN | apply below_drew1) | exact HB.out)) hb); clear HO_18; clear HO_21; clear HO_22; clear HO_23; clear HB; have HO_18 := n0_; have HO_21 := n1_; have HO_22 := n2_; have HO_23 := n3_; have HB := n4_; clear n0_ n1_ n2_ n3_ n4_; (try clear hb); (try clear hb2); (try clear hk); (try clear hi))))
                    go_ret
                    exact ⟨by first | rfl | (simp [errW_none, errW_some] <;> rfl) | (simp [*, errW_none, errW_some] <;> rfl), by repeat (first | (with_reducible first | exact HB.out | apply below_alloc | apply pw_below_drewN | apply below_drew1) | exact HB.out)⟩
                  ·rw [if_neg c83] at H
                   have c83b0 : ((t213.length : Int) == 8) = false := beq_eq_false_iff_ne.mpr c83
                   try rw [← HLt213.out] at c83b0
                   have c83b1 : ((t213.length : Int) != 8) = true := bne_iff_ne.mpr c83
                   try rw [← HLt213.out] at c83b1
                   obtain rfl := Option.some.inj H
                   obtain ⟨Ao96, co96, eo96⟩ := Kd.R_slice HO_22.out
                   subst eo96
                   obtain ⟨Ao97, co97, eo97⟩ := Kd.S_slice HO_21.out
                   subst eo97
                   go_wp2
                   repeat (go_quiet (fail); try go_wp2)
                   go_ret
                   exact ⟨by first | rfl | (simp [errW_none, errW_some] <;> rfl) | (simp [*, errW_none, errW_some] <;> rfl), by repeat (first | (with_reducible first | exact HB.out | apply below_alloc | apply pw_below_drewN | apply below_drew1) | exact HB.out)⟩
                 ·rw [if_neg c82] at H
                  have c82b0 : ((t221.length : Int) == (x18_4.length : Int)) = false := beq_eq_false_iff_ne.mpr c82
                  have c82b1 : ((t221.length : Int) != (x18_4.length : Int)) = true := bne_iff_ne.mpr c82
                  have c82b2 : (t221.length == x18_4.length) = false := by first | simpa using c82 | (simp at c82 ⊢; omega)
                  obtain rfl := Option.some.inj H
                  obtain ⟨Ao98, co98, eo98⟩ := Kd.R_slice HO_22.out
                  subst eo98
                  go_wp2
                  repeat (go_quiet (fail); try go_wp2)
                  go_ret
                  exact ⟨by first | rfl | (simp [errW_none, errW_some] <;> rfl) | (simp [*, errW_none, errW_some] <;> rfl), by repeat (first | (with_reducible first | exact HB.out | apply below_alloc | apply pw_below_drewN | apply below_drew1) | exact HB.out)⟩
          ·rw [if_neg c54] at H
           exact absurd H (by simp)

end Go.Proofs.YtjijaciaioieaaaGreat.PFnRolesOrder
