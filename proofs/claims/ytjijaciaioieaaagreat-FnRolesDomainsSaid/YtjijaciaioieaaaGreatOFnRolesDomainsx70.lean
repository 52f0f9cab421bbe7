/- The machine side of laws.FnRolesDomains: the law itself answers what its Lean function answers. No condition beyond what each theorem says. -/
import Derived.Test.YtjijaciaioieaaaGreatOFnRolesOrderx1
import Derived.Test.YtjijaciaioieaaaGreatOFnRolesOrderx2
import Derived.Test.YtjijaciaioieaaaGreatOFnRolesOrderx3
import Derived.Test.YtjijaciaioieaaaGreatOFnRolesOrderx4
import Derived.Test.YtjijaciaioieaaaGreatOFnRolesOrderx85
import Derived.Test.YtjijaciaioieaaaGreatOFnRolesOrderx90
import Derived.Test.YtjijaciaioieaaaGreatOFnRolesOrderx95
import Derived.Test.YtjijaciaioieaaaGreatOFnRolesOrderx96
namespace Go.Proofs.YtjijaciaioieaaaGreat.PFnRolesOrder
open Go.RowKit Go.Proofs.YtjijaciaioieaaaGreatW.PrintWords Go.Proofs.YtjijaciaioieaaaGreatW.PrintLast Go.Proofs.YtjijaciaioieaaaGreatW.PrintMore
attribute [local go_sem] max2_int min2_int max_two min_two max_three min_three max_four min_four   -- for this text's walks alone
set_option linter.unusedVariables false
set_option linter.unusedSimpArgs false
/-! ### laws_FnRolesDomains: function 3 -/
mutual
def laws_FnRolesDomains.j0 : Nat → List (S28) → ByteArray → ByteArray → ByteArray → Bool → Option (Bool)
 | 0, _, _, _, _, _ => none
 | k + 1, x0, x1, x2, x3, x37 => if x37 = true then (some true) else ((laws_links.f k x0 true).bind fun t183 => (if t183 = true then ((laws_named.f k x1 x2 x3 true).bind fun t184 => (laws_FnRolesDomains.j1 k x0 x1 x2 x3 (!t184))) else (laws_FnRolesDomains.j1 k x0 x1 x2 x3 true)))
def laws_FnRolesDomains.j1 : Nat → List (S28) → ByteArray → ByteArray → ByteArray → Bool → Option (Bool)
 | 0, _, _, _, _, _ => none
 | k + 1, x0, x1, x2, x3, x47 => if x47 = true then ((laws_awakeRoles.f k).bind fun t185 => (some t185)) else (laws_FnRolesDomains.l0 k x0 x1 x2 x3 ([] : List (S28)) 0)
def laws_FnRolesDomains.l0 : Nat → List (S28) → ByteArray → ByteArray → ByteArray → List (S28) → Int → Option (Bool)
 | 0, _, _, _, _, _, _ => none
 | k + 1, x0, x1, x2, x3, x9, x10 => if x10 < (x0.length : Int) then (if 0 ≤ x10 then (if ((rd_T28 x0 x10).f2).toList = x3.toList then (if x9.length < 2932031007402 then (laws_FnRolesDomains.l0 k x0 x1 x2 x3 (x9 ++ [(⟨(rd_T28 x0 x10).f0, (rd_T28 x0 x10).f1, (rd_T28 x0 x10).f2⟩ : S28)]) (wrap64 (x10 + 1))) else (none)) else (laws_FnRolesDomains.l0 k x0 x1 x2 x3 x9 (wrap64 (x10 + 1)))) else (none)) else ((laws_added.f k x0).bind fun t191 => ((laws_all.f x1 x2 x3).bind fun t194 => ((impl_Roles.f k 20 true 0 0 t191 t194).bind fun bt197 => ((laws_added.f k x9).bind fun t203 => ((laws_all.f x1 x2 x3).bind fun t206 => ((impl_Roles.f k 20 true 0 0 t203 t206).bind fun bt209 => (if (bt197.2.length : Int) = 8 then ((laws_sameTold.f k bt197.2 bt209.2).bind fun t215 => (laws_FnRolesDomains.j3 k x0 x1 x3 x9 (!t215))) else (laws_FnRolesDomains.j3 k x0 x1 x3 x9 true))))))))
def laws_FnRolesDomains.j3 : Nat → List (S28) → ByteArray → ByteArray → List (S28) → Bool → Option (Bool)
 | 0, _, _, _, _, _ => none
 | k + 1, x0, x1, x3, x9, x97 => if x97 = true then (some false) else ((laws_added.f k x0).bind fun t216 => ((laws_question.f k 20 true t216 5 x1 (⟨#[]⟩ : ByteArray) (⟨#[]⟩ : ByteArray)).bind fun bt219 => (laws_FnRolesDomains.l1 k x1 x3 x9 bt219.2.2.2 false false 0 bt219.1 bt219.2.1 bt219.2.2.1)))
def laws_FnRolesDomains.l1 : Nat → ByteArray → ByteArray → List (S28) → Bool → Bool → Bool → Int → Int → Bool → List ByteArray → Option (Bool)
 | 0, _, _, _, _, _, _, _, _, _, _ => none
 | k + 1, x1, x3, x9, x16, x17, x18, x19, x226000, x226001, x226002 => if x19 < (x9.length : Int) then (if x17 = true then (if x18 = true then (laws_FnRolesDomains.l1 k x1 x3 x9 x16 true true (wrap64 (x19 + 1)) x226000 x226001 x226002) else (if 0 ≤ x19 then (laws_FnRolesDomains.l1 k x1 x3 x9 x16 true (((rd_T28 x9 x19).f1).toList == x1.toList) (wrap64 (x19 + 1)) x226000 x226001 x226002) else (none))) else (if 0 ≤ x19 then (if x18 = true then (laws_FnRolesDomains.l1 k x1 x3 x9 x16 (((rd_T28 x9 x19).f0).toList == x1.toList) true (wrap64 (x19 + 1)) x226000 x226001 x226002) else (laws_FnRolesDomains.l1 k x1 x3 x9 x16 (((rd_T28 x9 x19).f0).toList == x1.toList) (((rd_T28 x9 x19).f1).toList == x1.toList) (wrap64 (x19 + 1)) x226000 x226001 x226002)) else (none))) else (if x16 = true then (if x226000 = 0 then (if x18 = true then (if x17 = true then ((laws_has.f k x226002 x3).bind fun t229 => (if (t229 == x17) = true then ((laws_awakeRoles.f k).bind fun t230 => (some t230)) else (some false))) else ((laws_awakeRoles.f k).bind fun t231 => (some t231))) else ((laws_has.f k x226002 x3).bind fun t232 => (if (t232 == x17) = true then ((laws_awakeRoles.f k).bind fun t233 => (some t233)) else (some false)))) else ((laws_awakeRoles.f k).bind fun t234 => (some t234))) else (some false))
end
def laws_FnRolesDomains.f (k : Nat) (l0 : List (S28)) (a1 : ByteArray) (a2 : ByteArray) (a3 : ByteArray) : Option (Bool) := (laws_zzFits25.f k l0).bind fun t182 => (if t182 = true then (if (a1.size : Int) > 2147483647 then (laws_FnRolesDomains.j0 k l0 a1 a2 a3 true) else (if (a2.size : Int) > 2147483647 then (laws_FnRolesDomains.j0 k l0 a1 a2 a3 true) else (laws_FnRolesDomains.j0 k l0 a1 a2 a3 (decide ((a3.size : Int) > 2147483647))))) else (laws_FnRolesDomains.j0 k l0 a1 a2 a3 true))
theorem laws_FnRolesDomains.mono_l : ∀ k, (∀ y0 y1 y2 y3 y4, LeO (laws_FnRolesDomains.j0 k y0 y1 y2 y3 y4) (laws_FnRolesDomains.j0 (k + 1) y0 y1 y2 y3 y4)) ∧ (∀ y0 y1 y2 y3 y4, LeO (laws_FnRolesDomains.j1 k y0 y1 y2 y3 y4) (laws_FnRolesDomains.j1 (k + 1) y0 y1 y2 y3 y4)) ∧ (∀ y0 y1 y2 y3 y4 y5, LeO (laws_FnRolesDomains.l0 k y0 y1 y2 y3 y4 y5) (laws_FnRolesDomains.l0 (k + 1) y0 y1 y2 y3 y4 y5)) ∧ (∀ y0 y1 y2 y3 y4, LeO (laws_FnRolesDomains.j3 k y0 y1 y2 y3 y4) (laws_FnRolesDomains.j3 (k + 1) y0 y1 y2 y3 y4)) ∧ (∀ y0 y1 y2 y3 y4 y5 y6 y7 y8 y9, LeO (laws_FnRolesDomains.l1 k y0 y1 y2 y3 y4 y5 y6 y7 y8 y9) (laws_FnRolesDomains.l1 (k + 1) y0 y1 y2 y3 y4 y5 y6 y7 y8 y9))
 | 0 => ⟨fun _ _ _ _ _ r h => by simp [laws_FnRolesDomains.j0] at h, fun _ _ _ _ _ r h => by simp [laws_FnRolesDomains.j1] at h, fun _ _ _ _ _ _ r h => by simp [laws_FnRolesDomains.l0] at h, fun _ _ _ _ _ r h => by simp [laws_FnRolesDomains.j3] at h, fun _ _ _ _ _ _ _ _ _ _ r h => by simp [laws_FnRolesDomains.l1] at h⟩
 | k + 1 => by
  obtain ⟨ih0, ih1, ih2, ih3, ih4⟩ := laws_FnRolesDomains.mono_l k
  refine ⟨?_, ?_, ?_, ?_, ?_⟩
  ·intro y0 y1 y2 y3 y4
   unfold laws_FnRolesDomains.j0
   repeat' first
   | (with_reducible exact ih0 _ _ _ _ _)
   | (with_reducible exact ih1 _ _ _ _ _)
   | (with_reducible exact ih2 _ _ _ _ _ _)
   | (with_reducible exact ih3 _ _ _ _ _)
   | (with_reducible exact ih4 _ _ _ _ _ _ _ _ _ _)
   | (with_reducible exact impl_Roles.mono _ _ _ _ _ _ _)
   | (with_reducible exact laws_added.mono _ _)
   | (with_reducible exact laws_awakeRoles.mono _)
   | (with_reducible exact laws_has.mono _ _ _)
   | (with_reducible exact laws_links.mono _ _ _)
   | (with_reducible exact laws_named.mono _ _ _ _ _)
   | (with_reducible exact laws_question.mono _ _ _ _ _ _ _ _)
   | (with_reducible exact laws_sameTold.mono _ _ _)
   | (with_reducible exact laws_zzFits25.mono _ _)
   | (with_reducible exact LeO.refl _)
   | (with_reducible exact LeO.none _)
   | (with_reducible refine LeO.ite ?_ ?_)
   | (with_reducible refine LeO.bind ?_ (fun _ => ?_))
   | exact ih0 _ _ _ _ _
   | exact ih1 _ _ _ _ _
   | exact ih2 _ _ _ _ _ _
   | exact ih3 _ _ _ _ _
   | exact ih4 _ _ _ _ _ _ _ _ _ _
   | exact impl_Roles.mono _ _ _ _ _ _ _
   | exact laws_added.mono _ _
   | exact laws_awakeRoles.mono _
   | exact laws_has.mono _ _ _
   | exact laws_links.mono _ _ _
   | exact laws_named.mono _ _ _ _ _
   | exact laws_question.mono _ _ _ _ _ _ _ _
   | exact laws_sameTold.mono _ _ _
   | exact laws_zzFits25.mono _ _
   | exact LeO.none _
   | refine LeO.ite ?_ ?_
   | refine LeO.bind ?_ (fun _ => ?_)
  ·intro y0 y1 y2 y3 y4
   unfold laws_FnRolesDomains.j1
   repeat' first
   | (with_reducible exact ih0 _ _ _ _ _)
   | (with_reducible exact ih1 _ _ _ _ _)
   | (with_reducible exact ih2 _ _ _ _ _ _)
   | (with_reducible exact ih3 _ _ _ _ _)
   | (with_reducible exact ih4 _ _ _ _ _ _ _ _ _ _)
   | (with_reducible exact impl_Roles.mono _ _ _ _ _ _ _)
   | (with_reducible exact laws_added.mono _ _)
   | (with_reducible exact laws_awakeRoles.mono _)
   | (with_reducible exact laws_has.mono _ _ _)
   | (with_reducible exact laws_links.mono _ _ _)
   | (with_reducible exact laws_named.mono _ _ _ _ _)
   | (with_reducible exact laws_question.mono _ _ _ _ _ _ _ _)
   | (with_reducible exact laws_sameTold.mono _ _ _)
   | (with_reducible exact laws_zzFits25.mono _ _)
   | (with_reducible exact LeO.refl _)
   | (with_reducible exact LeO.none _)
   | (with_reducible refine LeO.ite ?_ ?_)
   | (with_reducible refine LeO.bind ?_ (fun _ => ?_))
   | exact ih0 _ _ _ _ _
   | exact ih1 _ _ _ _ _
   | exact ih2 _ _ _ _ _ _
   | exact ih3 _ _ _ _ _
   | exact ih4 _ _ _ _ _ _ _ _ _ _
   | exact impl_Roles.mono _ _ _ _ _ _ _
   | exact laws_added.mono _ _
   | exact laws_awakeRoles.mono _
   | exact laws_has.mono _ _ _
   | exact laws_links.mono _ _ _
   | exact laws_named.mono _ _ _ _ _
   | exact laws_question.mono _ _ _ _ _ _ _ _
   | exact laws_sameTold.mono _ _ _
   | exact laws_zzFits25.mono _ _
   | exact LeO.none _
   | refine LeO.ite ?_ ?_
   | refine LeO.bind ?_ (fun _ => ?_)
  ·intro y0 y1 y2 y3 y4 y5
   unfold laws_FnRolesDomains.l0
   repeat' first
   | (with_reducible exact ih0 _ _ _ _ _)
   | (with_reducible exact ih1 _ _ _ _ _)
   | (with_reducible exact ih2 _ _ _ _ _ _)
   | (with_reducible exact ih3 _ _ _ _ _)
   | (with_reducible exact ih4 _ _ _ _ _ _ _ _ _ _)
   | (with_reducible exact impl_Roles.mono _ _ _ _ _ _ _)
   | (with_reducible exact laws_added.mono _ _)
   | (with_reducible exact laws_awakeRoles.mono _)
   | (with_reducible exact laws_has.mono _ _ _)
   | (with_reducible exact laws_links.mono _ _ _)
   | (with_reducible exact laws_named.mono _ _ _ _ _)
   | (with_reducible exact laws_question.mono _ _ _ _ _ _ _ _)
   | (with_reducible exact laws_sameTold.mono _ _ _)
   | (with_reducible exact laws_zzFits25.mono _ _)
   | (with_reducible exact LeO.refl _)
   | (with_reducible exact LeO.none _)
   | (with_reducible refine LeO.ite ?_ ?_)
   | (with_reducible refine LeO.bind ?_ (fun _ => ?_))
   | exact ih0 _ _ _ _ _
   | exact ih1 _ _ _ _ _
   | exact ih2 _ _ _ _ _ _
   | exact ih3 _ _ _ _ _
   | exact ih4 _ _ _ _ _ _ _ _ _ _
   | exact impl_Roles.mono _ _ _ _ _ _ _
   | exact laws_added.mono _ _
   | exact laws_awakeRoles.mono _
   | exact laws_has.mono _ _ _
   | exact laws_links.mono _ _ _
   | exact laws_named.mono _ _ _ _ _
   | exact laws_question.mono _ _ _ _ _ _ _ _
   | exact laws_sameTold.mono _ _ _
   | exact laws_zzFits25.mono _ _
   | exact LeO.none _
   | refine LeO.ite ?_ ?_
   | refine LeO.bind ?_ (fun _ => ?_)
  ·intro y0 y1 y2 y3 y4
   unfold laws_FnRolesDomains.j3
   repeat' first
   | (with_reducible exact ih0 _ _ _ _ _)
   | (with_reducible exact ih1 _ _ _ _ _)
   | (with_reducible exact ih2 _ _ _ _ _ _)
   | (with_reducible exact ih3 _ _ _ _ _)
   | (with_reducible exact ih4 _ _ _ _ _ _ _ _ _ _)
   | (with_reducible exact impl_Roles.mono _ _ _ _ _ _ _)
   | (with_reducible exact laws_added.mono _ _)
   | (with_reducible exact laws_awakeRoles.mono _)
   | (with_reducible exact laws_has.mono _ _ _)
   | (with_reducible exact laws_links.mono _ _ _)
   | (with_reducible exact laws_named.mono _ _ _ _ _)
   | (with_reducible exact laws_question.mono _ _ _ _ _ _ _ _)
   | (with_reducible exact laws_sameTold.mono _ _ _)
   | (with_reducible exact laws_zzFits25.mono _ _)
   | (with_reducible exact LeO.refl _)
   | (with_reducible exact LeO.none _)
   | (with_reducible refine LeO.ite ?_ ?_)
   | (with_reducible refine LeO.bind ?_ (fun _ => ?_))
   | exact ih0 _ _ _ _ _
   | exact ih1 _ _ _ _ _
   | exact ih2 _ _ _ _ _ _
   | exact ih3 _ _ _ _ _
   | exact ih4 _ _ _ _ _ _ _ _ _ _
   | exact impl_Roles.mono _ _ _ _ _ _ _
   | exact laws_added.mono _ _
   | exact laws_awakeRoles.mono _
   | exact laws_has.mono _ _ _
   | exact laws_links.mono _ _ _
   | exact laws_named.mono _ _ _ _ _
   | exact laws_question.mono _ _ _ _ _ _ _ _
   | exact laws_sameTold.mono _ _ _
   | exact laws_zzFits25.mono _ _
   | exact LeO.none _
   | refine LeO.ite ?_ ?_
   | refine LeO.bind ?_ (fun _ => ?_)
  ·intro y0 y1 y2 y3 y4 y5 y6 y7 y8 y9
   unfold laws_FnRolesDomains.l1
   repeat' first
   | (with_reducible exact ih0 _ _ _ _ _)
   | (with_reducible exact ih1 _ _ _ _ _)
   | (with_reducible exact ih2 _ _ _ _ _ _)
   | (with_reducible exact ih3 _ _ _ _ _)
   | (with_reducible exact ih4 _ _ _ _ _ _ _ _ _ _)
   | (with_reducible exact impl_Roles.mono _ _ _ _ _ _ _)
   | (with_reducible exact laws_added.mono _ _)
   | (with_reducible exact laws_awakeRoles.mono _)
   | (with_reducible exact laws_has.mono _ _ _)
   | (with_reducible exact laws_links.mono _ _ _)
   | (with_reducible exact laws_named.mono _ _ _ _ _)
   | (with_reducible exact laws_question.mono _ _ _ _ _ _ _ _)
   | (with_reducible exact laws_sameTold.mono _ _ _)
   | (with_reducible exact laws_zzFits25.mono _ _)
   | (with_reducible exact LeO.refl _)
   | (with_reducible exact LeO.none _)
   | (with_reducible refine LeO.ite ?_ ?_)
   | (with_reducible refine LeO.bind ?_ (fun _ => ?_))
   | exact ih0 _ _ _ _ _
   | exact ih1 _ _ _ _ _
   | exact ih2 _ _ _ _ _ _
   | exact ih3 _ _ _ _ _
   | exact ih4 _ _ _ _ _ _ _ _ _ _
   | exact impl_Roles.mono _ _ _ _ _ _ _
   | exact laws_added.mono _ _
   | exact laws_awakeRoles.mono _
   | exact laws_has.mono _ _ _
   | exact laws_links.mono _ _ _
   | exact laws_named.mono _ _ _ _ _
   | exact laws_question.mono _ _ _ _ _ _ _ _
   | exact laws_sameTold.mono _ _ _
   | exact laws_zzFits25.mono _ _
   | exact LeO.none _
   | refine LeO.ite ?_ ?_
   | refine LeO.bind ?_ (fun _ => ?_)
theorem laws_FnRolesDomains.mono : ∀ a0 a1 a2 a3 k, LeO (laws_FnRolesDomains.f k a0 a1 a2 a3) (laws_FnRolesDomains.f (k + 1) a0 a1 a2 a3) := by
 intro a0 a1 a2 a3 k
 obtain ⟨ih0, ih1, ih2, ih3, ih4⟩ := laws_FnRolesDomains.mono_l k
 unfold laws_FnRolesDomains.f
 repeat' first
   | (with_reducible exact ih0 _ _ _ _ _)
   | (with_reducible exact ih1 _ _ _ _ _)
   | (with_reducible exact ih2 _ _ _ _ _ _)
   | (with_reducible exact ih3 _ _ _ _ _)
   | (with_reducible exact ih4 _ _ _ _ _ _ _ _ _ _)
   | (with_reducible exact impl_Roles.mono _ _ _ _ _ _ _)
   | (with_reducible exact laws_added.mono _ _)
   | (with_reducible exact laws_awakeRoles.mono _)
   | (with_reducible exact laws_has.mono _ _ _)
   | (with_reducible exact laws_links.mono _ _ _)
   | (with_reducible exact laws_named.mono _ _ _ _ _)
   | (with_reducible exact laws_question.mono _ _ _ _ _ _ _ _)
   | (with_reducible exact laws_sameTold.mono _ _ _)
   | (with_reducible exact laws_zzFits25.mono _ _)
   | (with_reducible exact LeO.refl _)
   | (with_reducible exact LeO.none _)
   | (with_reducible refine LeO.ite ?_ ?_)
   | (with_reducible refine LeO.bind ?_ (fun _ => ?_))
   | exact ih0 _ _ _ _ _
   | exact ih1 _ _ _ _ _
   | exact ih2 _ _ _ _ _ _
   | exact ih3 _ _ _ _ _
   | exact ih4 _ _ _ _ _ _ _ _ _ _
   | exact impl_Roles.mono _ _ _ _ _ _ _
   | exact laws_added.mono _ _
   | exact laws_awakeRoles.mono _
   | exact laws_has.mono _ _ _
   | exact laws_links.mono _ _ _
   | exact laws_named.mono _ _ _ _ _
   | exact laws_question.mono _ _ _ _ _ _ _ _
   | exact laws_sameTold.mono _ _ _
   | exact laws_zzFits25.mono _ _
   | exact LeO.none _
   | refine LeO.ite ?_ ?_
   | refine LeO.bind ?_ (fun _ => ?_)
section
open Go.Proofs.YtjijaciaioieaaaGreat.Base
theorem doms_awake : Ev (fun k => laws_awakeRoles.f k) true := Ev.of (k := 5) (fun k => laws_awakeRoles.mono k) (by decide +kernel)
theorem doms_one {α : Type} {g : Nat → Option α} {r s : α} (h : Ev g r) (hm : ∀ k, LeO (g k) (g (k + 1))) {k : Nat} (hk : g k = some s) : s = r := by
 obtain ⟨K, hK⟩ := h
 have h1 := at_rounds hm (Nat.le_max_left k K) hk
 have h2 := hK (max k K) (Nat.le_max_right k K)
 rw [h1] at h2
 exact Option.some.inj h2
/-- what the law answers, once it is known whether the name is a user, or a role, of the domain -/
def domT (dom : ByteArray) (fl : Bool) (n : Int) (s : List ByteArray) (u r : Bool) : Bool := if fl = true then (if n = 0 then (if r = true then (if u = true then (decide (dom ∈ s) == u) else true) else (decide (dom ∈ s) == u)) else true) else false
theorem doms_has (dom : ByteArray) (s : List ByteArray) (hs : s.length < 9223372036854775807) (u : Bool) : Ev (fun k => (laws_has.f k s dom).bind fun t => (if (t == u) = true then ((laws_awakeRoles.f k).bind fun z => (some z)) else (some false))) (decide (dom ∈ s) == u) := by
 refine Ev.bind (has_any s dom hs) ?_
 cases h3 : (decide (dom ∈ s) == u) with
 | true => exact Ev.pos rfl (Ev.bind doms_awake (Ev.now _))
 | false => exact Ev.neg (by simp) (Ev.now _)
theorem doms_tail (dom : ByteArray) (fl : Bool) (n : Int) (s : List ByteArray) (hs : s.length < 9223372036854775807) (u r : Bool) : Ev (fun k => if fl = true then (if n = 0 then (if r = true then (if u = true then ((laws_has.f k s dom).bind fun t229 => (if (t229 == u) = true then ((laws_awakeRoles.f k).bind fun t230 => (some t230)) else (some false))) else ((laws_awakeRoles.f k).bind fun t231 => (some t231))) else ((laws_has.f k s dom).bind fun t232 => (if (t232 == u) = true then ((laws_awakeRoles.f k).bind fun t233 => (some t233)) else (some false)))) else ((laws_awakeRoles.f k).bind fun t234 => (some t234))) else (some false)) (domT dom fl n s u r) := by
 unfold domT
 by_cases h1 : fl = true
 ·rw [if_pos h1]
  refine Ev.pos h1 ?_
  by_cases h2 : n = 0
  ·rw [if_pos h2]
   refine Ev.pos h2 ?_
   by_cases h3 : r = true
   ·rw [if_pos h3]
    refine Ev.pos h3 ?_
    by_cases h4 : u = true
    ·rw [if_pos h4]
     exact Ev.pos h4 (doms_has dom s hs u)
    ·rw [if_neg h4]
     exact Ev.neg h4 (Ev.bind doms_awake (Ev.now _))
   ·rw [if_neg h3]
    exact Ev.neg h3 (doms_has dom s hs u)
  ·rw [if_neg h2]
   exact Ev.neg h2 (Ev.bind doms_awake (Ev.now _))
 ·rw [if_neg h1]
  exact Ev.neg h1 (Ev.now _)
theorem doms_l1 (a dom : ByteArray) (own : List S28) (ho : own.length ≤ 9223372036854775807) (fl : Bool) (n : Int) (b : Bool) (s : List ByteArray) (hs : s.length < 9223372036854775807) (q : List S28) : ∀ (p : List S28) (u r : Bool), own = p ++ q →
  Ev (fun k => laws_FnRolesDomains.l1 k a dom own fl u r (p.length : Int) n b s) (domT dom fl n s (u || q.any fun x => x.f0.toList == a.toList) (r || q.any fun x => x.f1.toList == a.toList)) := by
 induction q with
 | nil =>
  intro p u r hp
  rw [List.append_nil] at hp
  subst hp
  rw [List.any_nil, List.any_nil, Bool.or_false, Bool.or_false]
  exact Ev.step (fun _ => laws_FnRolesDomains.l1.eq_2 _ _ _ _ _ _ _ _ _ _ _) (Ev.neg (by omega) (doms_tail dom fl n s hs u r))
 | cons c q ih =>
  intro p u r hp
  have hlen : own.length = p.length + (q.length + 1) := by rw [hp]; simp
  have hr : rd_T28 own (p.length : Int) = c := by rw [hp]; exact getD_mid _ p q c _ rfl
  refine Ev.step (fun _ => laws_FnRolesDomains.l1.eq_2 _ _ _ _ _ _ _ _ _ _ _) (Ev.pos (by omega) ?_)
  rw [hr, w64 (by omega) (by omega)]
  have hn : ∀ u' r', Ev (fun k => laws_FnRolesDomains.l1 k a dom own fl u' r' ((p.length : Int) + 1) n b s) (domT dom fl n s (u' || q.any fun x => x.f0.toList == a.toList) (r' || q.any fun x => x.f1.toList == a.toList)) := fun u' r' => by
   have := ih (p ++ [c]) u' r' (by rw [hp]; simp)
   rw [show (((p ++ [c]).length : Nat) : Int) = (p.length : Int) + 1 by simp] at this
   exact this
  cases u with
  | true =>
   refine Ev.pos rfl ?_
   cases r with
   | true =>
    have := hn true true
    simp only [Bool.true_or, List.any_cons] at this ⊢
    exact Ev.pos (by trivial) this
   | false =>
    have := hn true (c.f1.toList == a.toList)
    simp only [Bool.true_or, Bool.false_or, List.any_cons] at this ⊢
    exact Ev.neg (by simp) (Ev.pos (by omega) this)
  | false =>
   refine Ev.neg (by simp) (Ev.pos (by omega) ?_)
   cases r with
   | true =>
    have := hn (c.f0.toList == a.toList) true
    simp only [Bool.true_or, Bool.false_or, List.any_cons] at this ⊢
    exact Ev.pos (by trivial) this
   | false =>
    have := hn (c.f0.toList == a.toList) (c.f1.toList == a.toList)
    simp only [Bool.false_or, List.any_cons] at this ⊢
    exact Ev.neg (by simp) this
theorem domT_perm (dom : ByteArray) (fl : Bool) (n : Int) {s s' : List ByteArray} (h : s'.Perm s) (u r : Bool) : domT dom fl n s' u r = domT dom fl n s u r := by
 unfold domT
 rw [show decide (dom ∈ s') = decide (dom ∈ s) from by rw [decide_eq_decide]; exact h.mem_iff]
theorem doms_blind {a dom : ByteArray} {own : List S28} {fl b : Bool} {n : Int} {s s' : List ByteArray} {k : Nat} {r : Bool} (hp : s'.Perm s) (ls : s.length < 9223372036854775807) (ho : own.length ≤ 9223372036854775807) (h : laws_FnRolesDomains.l1 k a dom own fl false false 0 n b s = some r) : ∃ k', laws_FnRolesDomains.l1 k' a dom own fl false false 0 n b s' = some r := by
 have e := doms_l1 a dom own ho fl n b s ls own [] false false rfl
 have mono := fun k => (laws_FnRolesDomains.mono_l k).2.2.2.2 a dom own fl false false 0 n b s
 rw [doms_one e mono h]
 have e2 := doms_l1 a dom own ho fl n b s' (by rw [hp.length_eq]; exact ls) own [] false false rfl
 rw [domT_perm dom fl n hp] at e2
 exact e2.rounds
theorem question5_yes (k : Nat) (lv : Int) (D : List S54) (a c d : ByteArray) (h0 : 0 ≤ lv) (h1 : lv ≤ 20) (hD : okRun D = true) :
  laws_question.f k lv true D 5 a c d = some (0, false, (deedsK true [] D).filter (fun j => occ (deedsE true (fun _ => []) D j) a), true) := by
 unfold okRun at hD
 rw [Bool.and_eq_true, decide_eq_true_iff] at hD
 have hr : impl_Roles.f k lv true 0 0 D [⟨5, a, c, d⟩] = some (D.map fun _ => 0, [⟨0, false, (deedsK true [] D).filter (fun j => occ (deedsE true (fun _ => []) D j) a)⟩]) := by
  unfold impl_Roles.f
  rw [if_pos]
  ·rfl
  simp only [Bool.and_eq_true, decide_eq_true_iff]
  refine ⟨⟨⟨⟨⟨⟨⟨h0, by omega⟩, trivial⟩, trivial⟩, hD.1⟩, by simp⟩, hD.2⟩, ?_⟩
  simp [okAsk5]
 unfold laws_question.f
 rw [hr, Option.bind_some]
 show (laws_told1.f [_]).bind _ = _
 unfold laws_told1.f
 rw [if_neg (by simp), if_pos (by simp), Option.bind_some]
 rw [if_pos (by simp)]
 rfl
theorem question5_few {k : Nat} {lv : Int} {D : List S54} {a c d : ByteArray} {n : Int} {is : Bool} {l : List ByteArray} {f : Bool} (h0 : 0 ≤ lv) (h1 : lv ≤ 20) (h : laws_question.f k lv true D 5 a c d = some (n, is, l, f)) : l.length < 9223372036854775807 := by
 cases hD : okRun D with
 | false => rw [question_no k lv true D 5 a c d hD] at h; cases h
 | true =>
  rw [question5_yes k lv D a c d h0 h1 hD] at h
  simp only [Option.some.injEq, Prod.mk.injEq] at h
  obtain ⟨_, _, rfl, _⟩ := h
  unfold okRun at hD
  rw [Bool.and_eq_true, decide_eq_true_iff] at hD
  have h2 := deedsK_few true D []
  have h3 := List.length_filter_le (fun j => occ (deedsE true (fun _ => []) D j) a) (deedsK true [] D)
  rw [List.length_nil] at h2
  omega
end
set_option maxHeartbeats 8000000 in
set_option maxRecDepth 100000 in
theorem laws_FnRolesDomains.calls (k : Nat) (A0 : Option Addr) (c0 : Nat) (l0 : List (S28)) (a1 : ByteArray) (a2 : ByteArray) (a3 : ByteArray) (r : Bool) (w : World) (hr0 : Kd.C k28 w A0 l0.length l0) (hc0 : l0.length ≤ c0) (h : laws_FnRolesDomains.f k l0 a1 a2 a3 = some r) :
  Calls Tryz.prog 3 #[.slice A0 l0.length c0, .string a1, .string a2, .string a3] w fun e w' => e = .returned (.bool r) ∧ Below w.heap.size w w' := by
 have hu28 := Tryz.underlying28
 have hu44 := Tryz.underlying44
 have hu40 := Tryz.underlying40
 have HR0 := Aside0.mk hr0
 have HC0 := Aside0.mk hc0
 clear hr0 hc0
 have HB := Aside0.mk (Below.refl w.heap.size w)
 have H : ((laws_zzFits25.f k l0).bind fun t182 => (if t182 = true then (if (a1.size : Int) > 2147483647 then (laws_FnRolesDomains.j0 k l0 a1 a2 a3 true) else (if (a2.size : Int) > 2147483647 then (laws_FnRolesDomains.j0 k l0 a1 a2 a3 true) else (laws_FnRolesDomains.j0 k l0 a1 a2 a3 (decide ((a3.size : Int) > 2147483647))))) else (laws_FnRolesDomains.j0 k l0 a1 a2 a3 true))) = some r := h
 clear h
 have HC5 := Aside0.mk H
 clear H
 go_enter Tryz.func3, Tryz.ntmps3
 go_upto_region 1 with (fail)
 repeat (go_quiet (fail); go_upto_region 1 with (fail))
 go_cut [37] (fun v37 wc => ∃ (kq : Nat) (x37_4 : Bool), v37 = .bool x37_4 ∧ Aside0 (laws_FnRolesDomains.j0 kq l0 a1 a2 a3 x37_4 = some r) ∧ Aside0 (kq ≤ k) ∧ Aside0 (Below w.heap.size w wc))
 case first =>
  have H := HC5.out
  clear HC5
  replace H := Option.bind_eq_some_iff.mp H
  obtain ⟨t182, A60, H⟩ := H
  replace H : (if t182 = true then (if (a1.size : Int) > 2147483647 then (laws_FnRolesDomains.j0 k l0 a1 a2 a3 true) else (if (a2.size : Int) > 2147483647 then (laws_FnRolesDomains.j0 k l0 a1 a2 a3 true) else (laws_FnRolesDomains.j0 k l0 a1 a2 a3 (decide ((a3.size : Int) > 2147483647))))) else (laws_FnRolesDomains.j0 k l0 a1 a2 a3 true)) = some r := H
  have A6 := Aside0.mk A60
  clear A60
  by_cases c7 : t182 = true
  ·subst c7
   have H1 : (if (a1.size : Int) > 2147483647 then (laws_FnRolesDomains.j0 k l0 a1 a2 a3 true) else (if (a2.size : Int) > 2147483647 then (laws_FnRolesDomains.j0 k l0 a1 a2 a3 true) else (laws_FnRolesDomains.j0 k l0 a1 a2 a3 (decide ((a3.size : Int) > 2147483647))))) = some r := by rw [if_pos rfl] at H; exact H
   clear H
   have H := H1
   clear H1
   by_cases c8 : (a1.size : Int) > 2147483647
   ·rw [if_pos c8] at H
    have c8b0 : decide (2147483647 < (a1.size : Int)) = true := decide_eq_true c8
    have c8b1 : decide (2147483647 < a1.size) = true := decide_eq_true (by omega)
    clear c8
    (first | rw [c8b0] | (simp only [i64_w, i32_w]; rw [c8b0]) | skip)
    have H' := Aside0.mk H
    clear H
    go_wp2_with (first | (go_at_call 9; (with_reducible refine (laws_zzFits25.calls k _ _ l0 true _ ?side1 ?side2 A6.out).mono ?_); (case side1 => repeat (first | exact (Kd.C_below HR0.out HB.out) | (with_reducible refine Kd.C_alloc ?_ _) | (with_reducible refine Kd.C_drewN ?_ _) | (with_reducible refine Kd.C_drew ?_))); (case side2 => exact HC0.out); rintro e w9 ⟨rfl, hb⟩; have n0_ := Aside0.mk (below_step (by repeat (first | (with_reducible first | exact HB.out | apply below_alloc | apply pw_below_drewN | apply below_drew1) | exact HB.out)) hb); clear HB; have HB := n0_; clear n0_; (try clear hb); (try clear hb2); (try clear hk); (try clear hi)))
    repeat (go_quiet (first | (go_at_call 9; (with_reducible refine (laws_zzFits25.calls k _ _ l0 true _ ?side1 ?side2 A6.out).mono ?_); (case side1 => repeat (first | exact (Kd.C_below HR0.out HB.out) | (with_reducible refine Kd.C_alloc ?_ _) | (with_reducible refine Kd.C_drewN ?_ _) | (with_reducible refine Kd.C_drew ?_))); (case side2 => exact HC0.out); rintro e w9 ⟨rfl, hb⟩; have n0_ := Aside0.mk (below_step (by repeat (first | (with_reducible first | exact HB.out | apply below_alloc | apply pw_below_drewN | apply below_drew1) | exact HB.out)) hb); clear HB; have HB := n0_; clear n0_; (try clear hb); (try clear hb2); (try clear hk); (try clear hi))); try go_wp2_with (first | (go_at_call 9; (with_reducible refine (laws_zzFits25.calls k _ _ l0 true _ ?side1 ?side2 A6.out).mono ?_); (case side1 => repeat (first | exact (Kd.C_below HR0.out HB.out) | (with_reducible refine Kd.C_alloc ?_ _) | (with_reducible refine Kd.C_drewN ?_ _) | (with_reducible refine Kd.C_drew ?_))); (case side2 => exact HC0.out); rintro e w9 ⟨rfl, hb⟩; have n0_ := Aside0.mk (below_step (by repeat (first | (with_reducible first | exact HB.out | apply below_alloc | apply pw_below_drewN | apply below_drew1) | exact HB.out)) hb); clear HB; have HB := n0_; clear n0_; (try clear hb); (try clear hb2); (try clear hk); (try clear hi))))
    go_meet
    case rel => exact ⟨_, (true), (by first | rfl | (simp; done) | (simp [*]; done)), H', ⟨by first | omega | exact Nat.le_refl _⟩, ⟨by repeat (first | (with_reducible first | exact HB.out | apply below_alloc | apply pw_below_drewN | apply below_drew1) | exact HB.out)⟩⟩
   ·rw [if_neg c8] at H
    have c8b0 : decide (2147483647 < (a1.size : Int)) = false := decide_eq_false c8
    have c8b1 : decide (2147483647 < a1.size) = false := decide_eq_false (by omega)
    clear c8
    (first | rw [c8b0] | (simp only [i64_w, i32_w]; rw [c8b0]) | skip)
    by_cases c10 : (a2.size : Int) > 2147483647
    ·rw [if_pos c10] at H
     have c10b0 : decide (2147483647 < (a2.size : Int)) = true := decide_eq_true c10
     have c10b1 : decide (2147483647 < a2.size) = true := decide_eq_true (by omega)
     clear c10
     have H' := Aside0.mk H
     clear H
     go_wp2_with (first | (go_at_call 9; (with_reducible refine (laws_zzFits25.calls k _ _ l0 true _ ?side1 ?side2 A6.out).mono ?_); (case side1 => repeat (first | exact (Kd.C_below HR0.out HB.out) | (with_reducible refine Kd.C_alloc ?_ _) | (with_reducible refine Kd.C_drewN ?_ _) | (with_reducible refine Kd.C_drew ?_))); (case side2 => exact HC0.out); rintro e w11 ⟨rfl, hb⟩; have n0_ := Aside0.mk (below_step (by repeat (first | (with_reducible first | exact HB.out | apply below_alloc | apply pw_below_drewN | apply below_drew1) | exact HB.out)) hb); clear HB; have HB := n0_; clear n0_; (try clear hb); (try clear hb2); (try clear hk); (try clear hi)))
     repeat (go_quiet (first | (go_at_call 9; (with_reducible refine (laws_zzFits25.calls k _ _ l0 true _ ?side1 ?side2 A6.out).mono ?_); (case side1 => repeat (first | exact (Kd.C_below HR0.out HB.out) | (with_reducible refine Kd.C_alloc ?_ _) | (with_reducible refine Kd.C_drewN ?_ _) | (with_reducible refine Kd.C_drew ?_))); (case side2 => exact HC0.out); rintro e w11 ⟨rfl, hb⟩; have n0_ := Aside0.mk (below_step (by repeat (first | (with_reducible first | exact HB.out | apply below_alloc | apply pw_below_drewN | apply below_drew1) | exact HB.out)) hb); clear HB; have HB := n0_; clear n0_; (try clear hb); (try clear hb2); (try clear hk); (try clear hi))); try go_wp2_with (first | (go_at_call 9; (with_reducible refine (laws_zzFits25.calls k _ _ l0 true _ ?side1 ?side2 A6.out).mono ?_); (case side1 => repeat (first | exact (Kd.C_below HR0.out HB.out) | (with_reducible refine Kd.C_alloc ?_ _) | (with_reducible refine Kd.C_drewN ?_ _) | (with_reducible refine Kd.C_drew ?_))); (case side2 => exact HC0.out); rintro e w11 ⟨rfl, hb⟩; have n0_ := Aside0.mk (below_step (by repeat (first | (with_reducible first | exact HB.out | apply below_alloc | apply pw_below_drewN | apply below_drew1) | exact HB.out)) hb); clear HB; have HB := n0_; clear n0_; (try clear hb); (try clear hb2); (try clear hk); (try clear hi))))
     go_meet
     case rel => exact ⟨_, (true), (by first | rfl | (simp; done) | (simp [*]; done)), H', ⟨by first | omega | exact Nat.le_refl _⟩, ⟨by repeat (first | (with_reducible first | exact HB.out | apply below_alloc | apply pw_below_drewN | apply below_drew1) | exact HB.out)⟩⟩
    ·rw [if_neg c10] at H
     have c10b0 : decide (2147483647 < (a2.size : Int)) = false := decide_eq_false c10
     have c10b1 : decide (2147483647 < a2.size) = false := decide_eq_false (by omega)
     clear c10
     have H' := Aside0.mk H
     clear H
     go_wp2_with (first | (go_at_call 9; (with_reducible refine (laws_zzFits25.calls k _ _ l0 true _ ?side1 ?side2 A6.out).mono ?_); (case side1 => repeat (first | exact (Kd.C_below HR0.out HB.out) | (with_reducible refine Kd.C_alloc ?_ _) | (with_reducible refine Kd.C_drewN ?_ _) | (with_reducible refine Kd.C_drew ?_))); (case side2 => exact HC0.out); rintro e w12 ⟨rfl, hb⟩; have n0_ := Aside0.mk (below_step (by repeat (first | (with_reducible first | exact HB.out | apply below_alloc | apply pw_below_drewN | apply below_drew1) | exact HB.out)) hb); clear HB; have HB := n0_; clear n0_; (try clear hb); (try clear hb2); (try clear hk); (try clear hi)))
     repeat (go_quiet (first | (go_at_call 9; (with_reducible refine (laws_zzFits25.calls k _ _ l0 true _ ?side1 ?side2 A6.out).mono ?_); (case side1 => repeat (first | exact (Kd.C_below HR0.out HB.out) | (with_reducible refine Kd.C_alloc ?_ _) | (with_reducible refine Kd.C_drewN ?_ _) | (with_reducible refine Kd.C_drew ?_))); (case side2 => exact HC0.out); rintro e w12 ⟨rfl, hb⟩; have n0_ := Aside0.mk (below_step (by repeat (first | (with_reducible first | exact HB.out | apply below_alloc | apply pw_below_drewN | apply below_drew1) | exact HB.out)) hb); clear HB; have HB := n0_; clear n0_; (try clear hb); (try clear hb2); (try clear hk); (try clear hi))); try go_wp2_with (first | (go_at_call 9; (with_reducible refine (laws_zzFits25.calls k _ _ l0 true _ ?side1 ?side2 A6.out).mono ?_); (case side1 => repeat (first | exact (Kd.C_below HR0.out HB.out) | (with_reducible refine Kd.C_alloc ?_ _) | (with_reducible refine Kd.C_drewN ?_ _) | (with_reducible refine Kd.C_drew ?_))); (case side2 => exact HC0.out); rintro e w12 ⟨rfl, hb⟩; have n0_ := Aside0.mk (below_step (by repeat (first | (with_reducible first | exact HB.out | apply below_alloc | apply pw_below_drewN | apply below_drew1) | exact HB.out)) hb); clear HB; have HB := n0_; clear n0_; (try clear hb); (try clear hb2); (try clear hk); (try clear hi))))
     go_meet
     case rel => exact ⟨_, (decide ((a3.size : Int) > 2147483647)), (by first | rfl | (simp; done) | (simp [*]; done)), H', ⟨by first | omega | exact Nat.le_refl _⟩, ⟨by repeat (first | (with_reducible first | exact HB.out | apply below_alloc | apply pw_below_drewN | apply below_drew1) | exact HB.out)⟩⟩
  ·replace c7 := Bool.eq_false_iff.mpr c7
   subst c7
   have H1 : (laws_FnRolesDomains.j0 k l0 a1 a2 a3 true) = some r := by rw [if_neg (show ¬ (false = true) by decide)] at H; exact H
   clear H
   have H := H1
   clear H1
   have H' := Aside0.mk H
   clear H
   go_wp2_with (first | (go_at_call 9; (with_reducible refine (laws_zzFits25.calls k _ _ l0 false _ ?side1 ?side2 A6.out).mono ?_); (case side1 => repeat (first | exact (Kd.C_below HR0.out HB.out) | (with_reducible refine Kd.C_alloc ?_ _) | (with_reducible refine Kd.C_drewN ?_ _) | (with_reducible refine Kd.C_drew ?_))); (case side2 => exact HC0.out); rintro e w13 ⟨rfl, hb⟩; have n0_ := Aside0.mk (below_step (by repeat (first | (with_reducible first | exact HB.out | apply below_alloc | apply pw_below_drewN | apply below_drew1) | exact HB.out)) hb); clear HB; have HB := n0_; clear n0_; (try clear hb); (try clear hb2); (try clear hk); (try clear hi)))
   repeat (go_quiet (first | (go_at_call 9; (with_reducible refine (laws_zzFits25.calls k _ _ l0 false _ ?side1 ?side2 A6.out).mono ?_); (case side1 => repeat (first | exact (Kd.C_below HR0.out HB.out) | (with_reducible refine Kd.C_alloc ?_ _) | (with_reducible refine Kd.C_drewN ?_ _) | (with_reducible refine Kd.C_drew ?_))); (case side2 => exact HC0.out); rintro e w13 ⟨rfl, hb⟩; have n0_ := Aside0.mk (below_step (by repeat (first | (with_reducible first | exact HB.out | apply below_alloc | apply pw_below_drewN | apply below_drew1) | exact HB.out)) hb); clear HB; have HB := n0_; clear n0_; (try clear hb); (try clear hb2); (try clear hk); (try clear hi))); try go_wp2_with (first | (go_at_call 9; (with_reducible refine (laws_zzFits25.calls k _ _ l0 false _ ?side1 ?side2 A6.out).mono ?_); (case side1 => repeat (first | exact (Kd.C_below HR0.out HB.out) | (with_reducible refine Kd.C_alloc ?_ _) | (with_reducible refine Kd.C_drewN ?_ _) | (with_reducible refine Kd.C_drew ?_))); (case side2 => exact HC0.out); rintro e w13 ⟨rfl, hb⟩; have n0_ := Aside0.mk (below_step (by repeat (first | (with_reducible first | exact HB.out | apply below_alloc | apply pw_below_drewN | apply below_drew1) | exact HB.out)) hb); clear HB; have HB := n0_; clear n0_; (try clear hb); (try clear hb2); (try clear hk); (try clear hi))))
   go_meet
   case rel => exact ⟨_, (true), (by first | rfl | (simp; done) | (simp [*]; done)), H', ⟨by first | omega | exact Nat.le_refl _⟩, ⟨by repeat (first | (with_reducible first | exact HB.out | apply below_alloc | apply pw_below_drewN | apply below_drew1) | exact HB.out)⟩⟩
 case rest =>
  clear HC5
  try clear c1
  try clear p2
  try clear c3
  try clear c7
  try clear c8
  try clear c8b0
  try clear c8b1
  try clear c10
  try clear c10b0
  try clear c10b1
  obtain ⟨kq, x37_4, rfl, HA, HJ4, HB⟩ := hcut
  cases kq with
  | zero => exact absurd HA.out (by simp [laws_FnRolesDomains.j0])
  | succ kj4 =>
   have H := HA.out
   clear HA
   simp only [laws_FnRolesDomains.j0] at H
   by_cases c14 : x37_4 = true
   ·subst c14
    have H1 : (some true) = some r := by rw [if_pos rfl] at H; exact H
    clear H
    have H := H1
    clear H1
    obtain rfl := Option.some.inj H
    go_wp2
    repeat (go_quiet (fail); try go_wp2)
    go_ret
    exact ⟨by first | rfl | (simp [errW_none, errW_some] <;> rfl) | (simp [*, errW_none, errW_some] <;> rfl), by repeat (first | (with_reducible first | exact HB.out | apply below_alloc | apply pw_below_drewN | apply below_drew1) | exact HB.out)⟩
   ·replace c14 := Bool.eq_false_iff.mpr c14
    subst c14
    have H1 : ((laws_links.f kj4 l0 true).bind fun t183 => (if t183 = true then ((laws_named.f kj4 a1 a2 a3 true).bind fun t184 => (laws_FnRolesDomains.j1 kj4 l0 a1 a2 a3 (!t184))) else (laws_FnRolesDomains.j1 kj4 l0 a1 a2 a3 true))) = some r := by rw [if_neg (show ¬ (false = true) by decide)] at H; exact H
    clear H
    have H := H1
    clear H1
    have HC15 := Aside0.mk H
    clear H
    go_upto_region 3 with (fail)
    repeat (go_quiet (fail); go_upto_region 3 with (fail))
    go_cut [47] (fun v47 wc => ∃ (kq : Nat) (x47_14 : Bool), v47 = .bool x47_14 ∧ Aside0 (laws_FnRolesDomains.j1 kq l0 a1 a2 a3 x47_14 = some r) ∧ Aside0 (kq ≤ kj4) ∧ Aside0 (Below w.heap.size w wc))
    case first =>
     have H := HC15.out
     clear HC15
     replace H := Option.bind_eq_some_iff.mp H
     obtain ⟨t183, A160, H⟩ := H
     replace H : (if t183 = true then ((laws_named.f kj4 a1 a2 a3 true).bind fun t184 => (laws_FnRolesDomains.j1 kj4 l0 a1 a2 a3 (!t184))) else (laws_FnRolesDomains.j1 kj4 l0 a1 a2 a3 true)) = some r := H
     have A16 := Aside0.mk A160
     clear A160
     by_cases c17 : t183 = true
     ·subst c17
      have H1 : ((laws_named.f kj4 a1 a2 a3 true).bind fun t184 => (laws_FnRolesDomains.j1 kj4 l0 a1 a2 a3 (!t184))) = some r := by rw [if_pos rfl] at H; exact H
      clear H
      have H := H1
      clear H1
      replace H := Option.bind_eq_some_iff.mp H
      obtain ⟨t184, A180, H⟩ := H
      replace H : (laws_FnRolesDomains.j1 kj4 l0 a1 a2 a3 (!t184)) = some r := H
      have A18 := Aside0.mk A180
      clear A180
      have H' := Aside0.mk H
      clear H
      go_wp2_with (first | (go_at_call 10; (with_reducible refine (laws_links.calls kj4 _ _ l0 true true _ ?side1 ?side2 A16.out).mono ?_); (case side1 => repeat (first | exact (Kd.C_below HR0.out HB.out) | (with_reducible refine Kd.C_alloc ?_ _) | (with_reducible refine Kd.C_drewN ?_ _) | (with_reducible refine Kd.C_drew ?_))); (case side2 => exact HC0.out); rintro e w' ⟨rfl, ⟨nd, rfl⟩⟩; (try first | exact ⟨rfl, _, World.drewN_drewN _ _ _⟩ | exact ⟨rfl, _, Eq.trans (World.drewN_drewN _ _ _) (congrArg (World.drewN _) (Nat.add_assoc _ _ _))⟩)) | (go_at_call 11; (with_reducible refine (laws_named.calls kj4 a1 a2 a3 true t184 _ A18.out).mono ?_); rintro e w' ⟨rfl, ⟨nd, rfl⟩⟩; (try first | exact ⟨rfl, _, World.drewN_drewN _ _ _⟩ | exact ⟨rfl, _, Eq.trans (World.drewN_drewN _ _ _) (congrArg (World.drewN _) (Nat.add_assoc _ _ _))⟩)))
      repeat (go_quiet (first | (go_at_call 10; (with_reducible refine (laws_links.calls kj4 _ _ l0 true true _ ?side1 ?side2 A16.out).mono ?_); (case side1 => repeat (first | exact (Kd.C_below HR0.out HB.out) | (with_reducible refine Kd.C_alloc ?_ _) | (with_reducible refine Kd.C_drewN ?_ _) | (with_reducible refine Kd.C_drew ?_))); (case side2 => exact HC0.out); rintro e w' ⟨rfl, ⟨nd, rfl⟩⟩; (try first | exact ⟨rfl, _, World.drewN_drewN _ _ _⟩ | exact ⟨rfl, _, Eq.trans (World.drewN_drewN _ _ _) (congrArg (World.drewN _) (Nat.add_assoc _ _ _))⟩)) | (go_at_call 11; (with_reducible refine (laws_named.calls kj4 a1 a2 a3 true t184 _ A18.out).mono ?_); rintro e w' ⟨rfl, ⟨nd, rfl⟩⟩; (try first | exact ⟨rfl, _, World.drewN_drewN _ _ _⟩ | exact ⟨rfl, _, Eq.trans (World.drewN_drewN _ _ _) (congrArg (World.drewN _) (Nat.add_assoc _ _ _))⟩))); try go_wp2_with (first | (go_at_call 10; (with_reducible refine (laws_links.calls kj4 _ _ l0 true true _ ?side1 ?side2 A16.out).mono ?_); (case side1 => repeat (first | exact (Kd.C_below HR0.out HB.out) | (with_reducible refine Kd.C_alloc ?_ _) | (with_reducible refine Kd.C_drewN ?_ _) | (with_reducible refine Kd.C_drew ?_))); (case side2 => exact HC0.out); rintro e w' ⟨rfl, ⟨nd, rfl⟩⟩; (try first | exact ⟨rfl, _, World.drewN_drewN _ _ _⟩ | exact ⟨rfl, _, Eq.trans (World.drewN_drewN _ _ _) (congrArg (World.drewN _) (Nat.add_assoc _ _ _))⟩)) | (go_at_call 11; (with_reducible refine (laws_named.calls kj4 a1 a2 a3 true t184 _ A18.out).mono ?_); rintro e w' ⟨rfl, ⟨nd, rfl⟩⟩; (try first | exact ⟨rfl, _, World.drewN_drewN _ _ _⟩ | exact ⟨rfl, _, Eq.trans (World.drewN_drewN _ _ _) (congrArg (World.drewN _) (Nat.add_assoc _ _ _))⟩))))
      go_meet
      case rel => exact ⟨_, (!t184), (by first | rfl | (simp; done) | (simp [*]; done)), H', ⟨by have := HJ4.out; first | omega | exact Nat.le_refl _⟩, ⟨by repeat (first | (with_reducible first | exact HB.out | apply below_alloc | apply pw_below_drewN | apply below_drew1) | exact HB.out)⟩⟩
     ·replace c17 := Bool.eq_false_iff.mpr c17
      subst c17
      have H1 : (laws_FnRolesDomains.j1 kj4 l0 a1 a2 a3 true) = some r := by rw [if_neg (show ¬ (false = true) by decide)] at H; exact H
      clear H
      have H := H1
      clear H1
      have H' := Aside0.mk H
      clear H
      go_wp2_with (first | (go_at_call 10; (with_reducible refine (laws_links.calls kj4 _ _ l0 true false _ ?side1 ?side2 A16.out).mono ?_); (case side1 => repeat (first | exact (Kd.C_below HR0.out HB.out) | (with_reducible refine Kd.C_alloc ?_ _) | (with_reducible refine Kd.C_drewN ?_ _) | (with_reducible refine Kd.C_drew ?_))); (case side2 => exact HC0.out); rintro e w' ⟨rfl, ⟨nd, rfl⟩⟩; (try first | exact ⟨rfl, _, World.drewN_drewN _ _ _⟩ | exact ⟨rfl, _, Eq.trans (World.drewN_drewN _ _ _) (congrArg (World.drewN _) (Nat.add_assoc _ _ _))⟩)))
      repeat (go_quiet (first | (go_at_call 10; (with_reducible refine (laws_links.calls kj4 _ _ l0 true false _ ?side1 ?side2 A16.out).mono ?_); (case side1 => repeat (first | exact (Kd.C_below HR0.out HB.out) | (with_reducible refine Kd.C_alloc ?_ _) | (with_reducible refine Kd.C_drewN ?_ _) | (with_reducible refine Kd.C_drew ?_))); (case side2 => exact HC0.out); rintro e w' ⟨rfl, ⟨nd, rfl⟩⟩; (try first | exact ⟨rfl, _, World.drewN_drewN _ _ _⟩ | exact ⟨rfl, _, Eq.trans (World.drewN_drewN _ _ _) (congrArg (World.drewN _) (Nat.add_assoc _ _ _))⟩))); try go_wp2_with (first | (go_at_call 10; (with_reducible refine (laws_links.calls kj4 _ _ l0 true false _ ?side1 ?side2 A16.out).mono ?_); (case side1 => repeat (first | exact (Kd.C_below HR0.out HB.out) | (with_reducible refine Kd.C_alloc ?_ _) | (with_reducible refine Kd.C_drewN ?_ _) | (with_reducible refine Kd.C_drew ?_))); (case side2 => exact HC0.out); rintro e w' ⟨rfl, ⟨nd, rfl⟩⟩; (try first | exact ⟨rfl, _, World.drewN_drewN _ _ _⟩ | exact ⟨rfl, _, Eq.trans (World.drewN_drewN _ _ _) (congrArg (World.drewN _) (Nat.add_assoc _ _ _))⟩))))
      go_meet
      case rel => exact ⟨_, (true), (by first | rfl | (simp; done) | (simp [*]; done)), H', ⟨by have := HJ4.out; first | omega | exact Nat.le_refl _⟩, ⟨by repeat (first | (with_reducible first | exact HB.out | apply below_alloc | apply pw_below_drewN | apply below_drew1) | exact HB.out)⟩⟩
    case rest =>
     clear HC15
     try clear c1
     try clear p2
     try clear c3
     try clear c7
     try clear c8
     try clear c8b0
     try clear c8b1
     try clear c10
     try clear c10b0
     try clear c10b1
     try clear c14
     try clear c17
     try clear p2
     obtain ⟨kq, x47_14, rfl, HA, HJ14, HB⟩ := hcut
     cases kq with
     | zero => exact absurd HA.out (by simp [laws_FnRolesDomains.j1])
     | succ kj14 =>
      have H := HA.out
      clear HA
      simp only [laws_FnRolesDomains.j1] at H
      by_cases c19 : x47_14 = true
      ·subst c19
       have H1 : ((laws_awakeRoles.f kj14).bind fun t185 => (some t185)) = some r := by rw [if_pos rfl] at H; exact H
       clear H
       have H := H1
       clear H1
       replace H := Option.bind_eq_some_iff.mp H
       obtain ⟨t185, A200, H⟩ := H
       replace H : (some t185) = some r := H
       have A20 := Aside0.mk A200
       clear A200
       obtain rfl := Option.some.inj H
       go_wp2_with (first | (go_at_call 12; (with_reducible refine (laws_awakeRoles.calls kj14  t185 _ A20.out).mono ?_); rintro e w21 ⟨rfl, hb⟩; have n0_ := Aside0.mk (below_step (by repeat (first | (with_reducible first | exact HB.out | apply below_alloc | apply pw_below_drewN | apply below_drew1) | exact HB.out)) hb); clear HB; have HB := n0_; clear n0_; (try clear hb); (try clear hb2); (try clear hk); (try clear hi)))
       repeat (go_quiet (first | (go_at_call 12; (with_reducible refine (laws_awakeRoles.calls kj14  t185 _ A20.out).mono ?_); rintro e w21 ⟨rfl, hb⟩; have n0_ := Aside0.mk (below_step (by repeat (first | (with_reducible first | exact HB.out | apply below_alloc | apply pw_below_drewN | apply below_drew1) | exact HB.out)) hb); clear HB; have HB := n0_; clear n0_; (try clear hb); (try clear hb2); (try clear hk); (try clear hi))); try go_wp2_with (first | (go_at_call 12; (with_reducible refine (laws_awakeRoles.calls kj14  t185 _ A20.out).mono ?_); rintro e w21 ⟨rfl, hb⟩; have n0_ := Aside0.mk (below_step (by repeat (first | (with_reducible first | exact HB.out | apply below_alloc | apply pw_below_drewN | apply below_drew1) | exact HB.out)) hb); clear HB; have HB := n0_; clear n0_; (try clear hb); (try clear hb2); (try clear hk); (try clear hi))))
       go_ret
       exact ⟨by first | rfl | (simp [errW_none, errW_some] <;> rfl) | (simp [*, errW_none, errW_some] <;> rfl), by repeat (first | (with_reducible first | exact HB.out | apply below_alloc | apply pw_below_drewN | apply below_drew1) | exact HB.out)⟩
      ·replace c19 := Bool.eq_false_iff.mpr c19
       subst c19
       have H1 : (laws_FnRolesDomains.l0 kj14 l0 a1 a2 a3 ([] : List (S28)) 0) = some r := by rw [if_neg (show ¬ (false = true) by decide)] at H; exact H
       clear H
       have H := H1
       clear H1
       have H' := Aside0.mk H
       clear H
       go_wp2
       repeat (go_quiet (fail); try go_wp2)
       go_loopg [9, 10] kj14 (fun kq v9 v10 w' => ∃ (x9_3 : List (S28)) (x10_3 : Int), v10 = .int .i64 x10_3 ∧ Aside0 (laws_FnRolesDomains.l0 kq l0 a1 a2 a3 x9_3 x10_3 = some r) ∧ Aside0 (kq ≤ kj14) ∧ Aside0 (Kd.R k28 28 w' w.heap.size (fun _ => True) v9 x9_3) ∧ Aside0 (Below w.heap.size w w'))
       case atStart => exact ⟨(([] : List (S28))), (0), (by first | rfl | (simp; done) | (simp [*]; done)), H', ⟨Nat.le_refl _⟩, ⟨by first | exact Kd.R_nil _ _ _ _ _ | exact Kd.N_nil _ _ _ _ _ | exact Kd.V_nil _ _ _ _ _ | exact Kd.Q_nil _ _ _ _ _ | exact Kd.S_nil _ _ _ _ _⟩, ⟨by repeat (first | (with_reducible first | exact HB.out | apply below_alloc | apply pw_below_drewN | apply below_drew1) | exact HB.out)⟩⟩
       case round =>
        clear H'
        try clear c1
        try clear p2
        try clear c3
        try clear c7
        try clear c8
        try clear c8b0
        try clear c8b1
        try clear c10
        try clear c10b0
        try clear c10b1
        try clear c14
        try clear c17
        try clear c19
        try clear p2
        obtain ⟨x9_3, x10_3, rfl, HA, HK3, HO_9, HB⟩ := hrel
        cases gk with
        | zero => exact absurd HA.out (by simp [laws_FnRolesDomains.l0])
        | succ k3 =>
         have H := HA.out
         clear HA
         simp only [laws_FnRolesDomains.l0] at H
         by_cases c22 : x10_3 < (l0.length : Int)
         ·rw [if_pos c22] at H
          have c22b0 : decide (x10_3 < (l0.length : Int)) = true := decide_eq_true c22
          clear c22
          by_cases c23 : 0 ≤ x10_3
          ·rw [if_pos c23] at H
           have c23b0 : decide (0 ≤ x10_3) = true := decide_eq_true c23
           clear c23
           by_cases c24 : ((rd_T28 l0 x10_3).f2).toList = a3.toList
           ·rw [if_pos c24] at H
            have c24b0 : (((rd_T28 l0 x10_3).f2).toList == a3.toList) = true := beq_iff_eq.mpr c24
            have c24b1 : (((rd_T28 l0 x10_3).f2).toList != a3.toList) = false := bne_eq_false_iff_eq.mpr c24
            clear c24
            by_cases c25 : x9_3.length < 2932031007402
            ·rw [if_pos c25] at H
             have LMc25 := Aside0.mk c25
             clear c25
             obtain ⟨y188, hy188⟩ : ∃ y_ : List (S28), y_ = (x9_3 ++ [(⟨(rd_T28 l0 x10_3).f0, (rd_T28 l0 x10_3).f1, (rd_T28 l0 x10_3).f2⟩ : S28)]) := ⟨_, rfl⟩
             replace H : (laws_FnRolesDomains.l0 k3 l0 a1 a2 a3 y188 (wrap64 (x10_3 + 1))) = some r := by first | (rw [hy188]; with_reducible exact H) | (have H2_ := (Option.bind_some _ _).symm.trans H; rw [hy188]; with_reducible exact H2_) | (have H2_ := (Option.bind_some _ _).symm.trans H; with_reducible exact H2_) | with_reducible exact H | (rw [hy188]; exact H) | exact H
             have Ny188 := Aside0.mk hy188
             clear hy188
             have H' := Aside0.mk H
             clear H
             have p186 : 0 ≤ (x10_3 : Int) := of_decide_eq_true (by first | (with_reducible assumption) | assumption)
             have q186 : x10_3 < (l0.length : Int) := of_decide_eq_true (by first | (with_reducible assumption) | assumption)
             obtain ⟨ad186, e186, hx186_0, hx186_1, hx186_2⟩ := at_T28 HR0.out x10_3 p186 q186
             cases e186
             replace hx186_0 := (HB.out.cell (World.block_lt_of_cell? w _ hx186_0)).trans hx186_0
             replace hx186_1 := (HB.out.cell (World.block_lt_of_cell? w _ hx186_1)).trans hx186_1
             replace hx186_2 := (HB.out.cell (World.block_lt_of_cell? w _ hx186_2)).trans hx186_2
             replace p186 := eq_true p186
             replace q186 := eq_true q186
             have p187 : 0 ≤ (x10_3 : Int) := of_decide_eq_true (by first | (with_reducible assumption) | assumption)
             have q187 : x10_3 < (l0.length : Int) := of_decide_eq_true (by first | (with_reducible assumption) | assumption)
             obtain ⟨ad187, e187, hx187_0, hx187_1, hx187_2⟩ := at_T28 HR0.out x10_3 p187 q187
             obtain rfl : ad186 = ad187 := (by injection e187)
             replace hx187_0 := (HB.out.cell (World.block_lt_of_cell? w _ hx187_0)).trans hx187_0
             replace hx187_1 := (HB.out.cell (World.block_lt_of_cell? w _ hx187_1)).trans hx187_1
             replace hx187_2 := (HB.out.cell (World.block_lt_of_cell? w _ hx187_2)).trans hx187_2
             replace p187 := eq_true p187
             replace q187 := eq_true q187
             go_wp2_with (first | ((with_reducible refine gate_builtin (b := .append) (xs := #[.tmp 62, .tmp 67]) rfl ?_); (try (refine gate_guard (by rfl) ?_; dsimp only)); at_builtin; refine Kd.R_append k28 (w0 := w) w.heap.size rfl (.tmp 62) (.tmp 67) 22 28 (.agg #[(.string ⟨#[]⟩), (.string ⟨#[]⟩), (.string ⟨#[]⟩)]) 48 rfl Tryz.underlying22 info28 rfl (by decide) (by omega) u9 x9_3 (⟨(rd_T28 l0 x10_3).f0, (rd_T28 l0 x10_3).f1, (rd_T28 l0 x10_3).f2⟩ : S28) [.string ((rd_T28 l0 x10_3).f0), .string ((rd_T28 l0 x10_3).f1), .string ((rd_T28 l0 x10_3).f2)] (fun _ => True) (fun _ => False) rfl rfl ?aP (fun _ hk => hk.elim) ?aF ?aO ?aB ?aS ?aL ?_; (case aP => exact k28_mkM _ _ _ (⟨(rd_T28 l0 x10_3).f0, (rd_T28 l0 x10_3).f1, (rd_T28 l0 x10_3).f2⟩ : S28)); (case aB => exact (by repeat (first | (with_reducible first | exact HB.out | apply below_alloc | apply pw_below_drewN | apply below_drew1) | exact HB.out))); (case aF => exact (fun _ _ => trivial)); (case aO => exact (by (with_reducible repeat (first | apply Kd.R_alloc | apply Kd.R_drewN | apply Kd.R_drew)); exact HO_9.out)); (case aS => exact (below_size (by repeat (first | (with_reducible first | exact HB.out | apply below_alloc | apply pw_below_drewN | apply below_drew1) | exact HB.out)))); (case aL => have := LMc25.out; omega); intro v189 w26 ho hb hg hat; rw [← Ny188.out] at ho; have n0_ := Aside0.mk (hb); have n1_ := Aside0.mk (ho); clear HB; clear HO_9; have HB := n0_; have HO190 := n1_; clear n0_ n1_; clear ho hb hg hat))
             repeat (go_quiet (first | ((with_reducible refine gate_builtin (b := .append) (xs := #[.tmp 62, .tmp 67]) rfl ?_); (try (refine gate_guard (by rfl) ?_; dsimp only)); at_builtin; refine Kd.R_append k28 (w0 := w) w.heap.size rfl (.tmp 62) (.tmp 67) 22 28 (.agg #[(.string ⟨#[]⟩), (.string ⟨#[]⟩), (.string ⟨#[]⟩)]) 48 rfl Tryz.underlying22 info28 rfl (by decide) (by omega) u9 x9_3 (⟨(rd_T28 l0 x10_3).f0, (rd_T28 l0 x10_3).f1, (rd_T28 l0 x10_3).f2⟩ : S28) [.string ((rd_T28 l0 x10_3).f0), .string ((rd_T28 l0 x10_3).f1), .string ((rd_T28 l0 x10_3).f2)] (fun _ => True) (fun _ => False) rfl rfl ?aP (fun _ hk => hk.elim) ?aF ?aO ?aB ?aS ?aL ?_; (case aP => exact k28_mkM _ _ _ (⟨(rd_T28 l0 x10_3).f0, (rd_T28 l0 x10_3).f1, (rd_T28 l0 x10_3).f2⟩ : S28)); (case aB => exact (by repeat (first | (with_reducible first | exact HB.out | apply below_alloc | apply pw_below_drewN | apply below_drew1) | exact HB.out))); (case aF => exact (fun _ _ => trivial)); (case aO => exact (by (with_reducible repeat (first | apply Kd.R_alloc | apply Kd.R_drewN | apply Kd.R_drew)); exact HO_9.out)); (case aS => exact (below_size (by repeat (first | (with_reducible first | exact HB.out | apply below_alloc | apply pw_below_drewN | apply below_drew1) | exact HB.out)))); (case aL => have := LMc25.out; omega); intro v189 w26 ho hb hg hat; rw [← Ny188.out] at ho; have n0_ := Aside0.mk (hb); have n1_ := Aside0.mk (ho); clear HB; clear HO_9; have HB := n0_; have HO190 := n1_; clear n0_ n1_; clear ho hb hg hat)); try go_wp2_with (first | ((with_reducible refine gate_builtin (b := .append) (xs := #[.tmp 62, .tmp 67]) rfl ?_); (try (refine gate_guard (by rfl) ?_; dsimp only)); at_builtin; refine Kd.R_append k28 (w0 := w) w.heap.size rfl (.tmp 62) (.tmp 67) 22 28 (.agg #[(.string ⟨#[]⟩), (.string ⟨#[]⟩), (.string ⟨#[]⟩)]) 48 rfl Tryz.underlying22 info28 rfl (by decide) (by omega) u9 x9_3 (⟨(rd_T28 l0 x10_3).f0, (rd_T28 l0 x10_3).f1, (rd_T28 l0 x10_3).f2⟩ : S28) [.string ((rd_T28 l0 x10_3).f0), .string ((rd_T28 l0 x10_3).f1), .string ((rd_T28 l0 x10_3).f2)] (fun _ => True) (fun _ => False) rfl rfl ?aP (fun _ hk => hk.elim) ?aF ?aO ?aB ?aS ?aL ?_; (case aP => exact k28_mkM _ _ _ (⟨(rd_T28 l0 x10_3).f0, (rd_T28 l0 x10_3).f1, (rd_T28 l0 x10_3).f2⟩ : S28)); (case aB => exact (by repeat (first | (with_reducible first | exact HB.out | apply below_alloc | apply pw_below_drewN | apply below_drew1) | exact HB.out))); (case aF => exact (fun _ _ => trivial)); (case aO => exact (by (with_reducible repeat (first | apply Kd.R_alloc | apply Kd.R_drewN | apply Kd.R_drew)); exact HO_9.out)); (case aS => exact (below_size (by repeat (first | (with_reducible first | exact HB.out | apply below_alloc | apply pw_below_drewN | apply below_drew1) | exact HB.out)))); (case aL => have := LMc25.out; omega); intro v189 w26 ho hb hg hat; rw [← Ny188.out] at ho; have n0_ := Aside0.mk (hb); have n1_ := Aside0.mk (ho); clear HB; clear HO_9; have HB := n0_; have HO190 := n1_; clear n0_ n1_; clear ho hb hg hat)))
             go_roundg k3
             case measure => have := HJ4.out; have := HJ14.out; have := HK3.out; omega
             case rel => exact ⟨(y188), (wrap64 (x10_3 + 1)), (by first | rfl | (simp; done) | (simp [*]; done)), H', ⟨by have := HJ4.out; have := HJ14.out; have := HK3.out; omega⟩, ⟨by (with_reducible repeat (first | apply Kd.R_alloc | apply Kd.R_drewN | apply Kd.R_drew)); exact HO190.out⟩, ⟨by repeat (first | (with_reducible first | exact HB.out | apply below_alloc | apply pw_below_drewN | apply below_drew1) | exact HB.out)⟩⟩
            ·rw [if_neg c25] at H
             exact absurd H (by simp)
           ·rw [if_neg c24] at H
            have c24b0 : (((rd_T28 l0 x10_3).f2).toList == a3.toList) = false := beq_eq_false_iff_ne.mpr c24
            have c24b1 : (((rd_T28 l0 x10_3).f2).toList != a3.toList) = true := bne_iff_ne.mpr c24
            have H' := Aside0.mk H
            clear H
            have p186 : 0 ≤ (x10_3 : Int) := of_decide_eq_true (by first | (with_reducible assumption) | assumption)
            have q186 : x10_3 < (l0.length : Int) := of_decide_eq_true (by first | (with_reducible assumption) | assumption)
            obtain ⟨ad186, e186, hx186_0, hx186_1, hx186_2⟩ := at_T28 HR0.out x10_3 p186 q186
            cases e186
            replace hx186_0 := (HB.out.cell (World.block_lt_of_cell? w _ hx186_0)).trans hx186_0
            replace hx186_1 := (HB.out.cell (World.block_lt_of_cell? w _ hx186_1)).trans hx186_1
            replace hx186_2 := (HB.out.cell (World.block_lt_of_cell? w _ hx186_2)).trans hx186_2
            replace p186 := eq_true p186
            replace q186 := eq_true q186
            go_wp2
            repeat (go_quiet (fail); try go_wp2)
            go_roundg k3
            case measure => have := HJ4.out; have := HJ14.out; have := HK3.out; omega
            case rel => exact ⟨(x9_3), (wrap64 (x10_3 + 1)), (by first | rfl | (simp; done) | (simp [*]; done)), H', ⟨by have := HJ4.out; have := HJ14.out; have := HK3.out; omega⟩, ⟨by (with_reducible repeat (first | apply Kd.R_alloc | apply Kd.R_drewN | apply Kd.R_drew)); exact HO_9.out⟩, ⟨by repeat (first | (with_reducible first | exact HB.out | apply below_alloc | apply pw_below_drewN | apply below_drew1) | exact HB.out)⟩⟩
          ·rw [if_neg c23] at H
           exact absurd H (by simp)
         ·rw [if_neg c22] at H
          have c22b0 : decide (x10_3 < (l0.length : Int)) = false := decide_eq_false c22
          clear c22
          replace H := Option.bind_eq_some_iff.mp H
          obtain ⟨t191, A270, H⟩ := H
          replace H : ((laws_all.f a1 a2 a3).bind fun t194 => ((impl_Roles.f k3 20 true 0 0 t191 t194).bind fun bt197 => ((laws_added.f k3 x9_3).bind fun t203 => ((laws_all.f a1 a2 a3).bind fun t206 => ((impl_Roles.f k3 20 true 0 0 t203 t206).bind fun bt209 => (if (bt197.2.length : Int) = 8 then ((laws_sameTold.f k3 bt197.2 bt209.2).bind fun t215 => (laws_FnRolesDomains.j3 k3 l0 a1 a3 x9_3 (!t215))) else (laws_FnRolesDomains.j3 k3 l0 a1 a3 x9_3 true))))))) = some r := H
          have A27 := Aside0.mk A270
          clear A270
          replace H := Option.bind_eq_some_iff.mp H
          obtain ⟨t194, A280, H⟩ := H
          replace H : ((impl_Roles.f k3 20 true 0 0 t191 t194).bind fun bt197 => ((laws_added.f k3 x9_3).bind fun t203 => ((laws_all.f a1 a2 a3).bind fun t206 => ((impl_Roles.f k3 20 true 0 0 t203 t206).bind fun bt209 => (if (bt197.2.length : Int) = 8 then ((laws_sameTold.f k3 bt197.2 bt209.2).bind fun t215 => (laws_FnRolesDomains.j3 k3 l0 a1 a3 x9_3 (!t215))) else (laws_FnRolesDomains.j3 k3 l0 a1 a3 x9_3 true)))))) = some r := H
          have A28 := Aside0.mk A280
          clear A280
          replace H := Option.bind_eq_some_iff.mp H
          obtain ⟨⟨t197, t198⟩, A290, H⟩ := H
          replace H : ((laws_added.f k3 x9_3).bind fun t203 => ((laws_all.f a1 a2 a3).bind fun t206 => ((impl_Roles.f k3 20 true 0 0 t203 t206).bind fun bt209 => (if (t198.length : Int) = 8 then ((laws_sameTold.f k3 t198 bt209.2).bind fun t215 => (laws_FnRolesDomains.j3 k3 l0 a1 a3 x9_3 (!t215))) else (laws_FnRolesDomains.j3 k3 l0 a1 a3 x9_3 true))))) = some r := H
          have A29 := Aside0.mk A290
          clear A290
          replace H := Option.bind_eq_some_iff.mp H
          obtain ⟨t203, A300, H⟩ := H
          replace H : ((laws_all.f a1 a2 a3).bind fun t206 => ((impl_Roles.f k3 20 true 0 0 t203 t206).bind fun bt209 => (if (t198.length : Int) = 8 then ((laws_sameTold.f k3 t198 bt209.2).bind fun t215 => (laws_FnRolesDomains.j3 k3 l0 a1 a3 x9_3 (!t215))) else (laws_FnRolesDomains.j3 k3 l0 a1 a3 x9_3 true)))) = some r := H
          have A30 := Aside0.mk A300
          clear A300
          replace H := Option.bind_eq_some_iff.mp H
          obtain ⟨t206, A310, H⟩ := H
          replace H : ((impl_Roles.f k3 20 true 0 0 t203 t206).bind fun bt209 => (if (t198.length : Int) = 8 then ((laws_sameTold.f k3 t198 bt209.2).bind fun t215 => (laws_FnRolesDomains.j3 k3 l0 a1 a3 x9_3 (!t215))) else (laws_FnRolesDomains.j3 k3 l0 a1 a3 x9_3 true))) = some r := H
          have A31 := Aside0.mk A310
          clear A310
          replace H := Option.bind_eq_some_iff.mp H
          obtain ⟨⟨t209, t210⟩, A320, H⟩ := H
          replace H : (if (t198.length : Int) = 8 then ((laws_sameTold.f k3 t198 t210).bind fun t215 => (laws_FnRolesDomains.j3 k3 l0 a1 a3 x9_3 (!t215))) else (laws_FnRolesDomains.j3 k3 l0 a1 a3 x9_3 true)) = some r := H
          have A32 := Aside0.mk A320
          clear A320
          have HC33 := Aside0.mk H
          clear H
          go_upto_region 13 with (first | (go_at_call 14; (with_reducible refine (laws_added.calls k3 _ _ l0 t191 _ ?side1 ?side2 A27.out).mono ?_); (case side1 => repeat (first | exact (Kd.C_below HR0.out HB.out) | (with_reducible refine Kd.C_alloc ?_ _) | (with_reducible refine Kd.C_drewN ?_ _) | (with_reducible refine Kd.C_drew ?_))); (case side2 => exact HC0.out); rintro e w34 ⟨v192, rfl, ho0, hb⟩; have n0_ := Aside0.mk (Kd.R_below (by (with_reducible repeat (first | apply Kd.R_alloc | apply Kd.R_drewN | apply Kd.R_drew)); exact HO_9.out) hb); have n1_ := Aside0.mk (Kd.R_lower ho0 (below_size (by repeat (first | (with_reducible first | exact HB.out | apply below_alloc | apply pw_below_drewN | apply below_drew1) | exact HB.out)))); have n2_ := Aside0.mk (below_step (by repeat (first | (with_reducible first | exact HB.out | apply below_alloc | apply pw_below_drewN | apply below_drew1) | exact HB.out)) hb); clear HO_9; clear HB; have HO_9 := n0_; have HO193 := n1_; have HB := n2_; clear n0_ n1_ n2_; (try clear hb); (try clear hb2); (try clear hk); (try clear hi); (try clear ho0)) | (go_at_call 15; (with_reducible refine (laws_all.calls a1 a2 a3 t194 _ A28.out).mono ?_); rintro e w35 ⟨v195, rfl, ho0, hb⟩; have n0_ := Aside0.mk (Kd.R_below (by (with_reducible repeat (first | apply Kd.R_alloc | apply Kd.R_drewN | apply Kd.R_drew)); exact HO_9.out) hb); have n1_ := Aside0.mk (Kd.R_below (by (with_reducible repeat (first | apply Kd.R_alloc | apply Kd.R_drewN | apply Kd.R_drew)); exact HO193.out) hb); have n2_ := Aside0.mk (Kd.R_lower ho0 (below_size (by repeat (first | (with_reducible first | exact HB.out | apply below_alloc | apply pw_below_drewN | apply below_drew1) | exact HB.out)))); have n3_ := Aside0.mk (below_step (by repeat (first | (with_reducible first | exact HB.out | apply below_alloc | apply pw_below_drewN | apply below_drew1) | exact HB.out)) hb); clear HO_9; clear HO193; clear HB; have HO_9 := n0_; have HO193 := n1_; have HO196 := n2_; have HB := n3_; clear n0_ n1_ n2_ n3_; (try clear hb); (try clear hb2); (try clear hk); (try clear hi); (try clear ho0); obtain ⟨Ao36, co36, eo36⟩ := Kd.R_slice HO193.out; subst eo36; obtain ⟨Ao37, co37, eo37⟩ := Kd.R_slice HO196.out; subst eo37) | (go_at_call 13; (with_reducible refine (impl_Roles.calls k3 20 true 0 0 _ _ t191 _ _ t194 t197 t198 _ ?side1 ?side2 ?side3 ?side4 A29.out).mono ?_); (case side1 => repeat (first | exact (Kd.R_reads' HO193.out).2.2 | (with_reducible refine Kd.C_alloc ?_ _) | (with_reducible refine Kd.C_drewN ?_ _) | (with_reducible refine Kd.C_drew ?_))); (case side2 => exact (Kd.R_reads' HO193.out).2.1); (case side3 => repeat (first | exact (Kd.R_reads' HO196.out).2.2 | (with_reducible refine Kd.C_alloc ?_ _) | (with_reducible refine Kd.C_drewN ?_ _) | (with_reducible refine Kd.C_drew ?_))); (case side4 => exact (Kd.R_reads' HO196.out).2.1); rintro e w38 ⟨v199, v201, rfl, ho0, ⟨lp_t198, hp_, ho1⟩, hb⟩; have HTt198 := Aside0.mk hp_; have HLt198 := Aside0.mk hp_.len; clear hp_; have n0_ := Aside0.mk (Kd.R_below (by (with_reducible repeat (first | apply Kd.R_alloc | apply Kd.R_drewN | apply Kd.R_drew)); exact HO_9.out) hb); have n1_ := Aside0.mk (Kd.R_below (by (with_reducible repeat (first | apply Kd.R_alloc | apply Kd.R_drewN | apply Kd.R_drew)); exact HO193.out) hb); have n2_ := Aside0.mk (Kd.R_below (by (with_reducible repeat (first | apply Kd.R_alloc | apply Kd.R_drewN | apply Kd.R_drew)); exact HO196.out) hb); have n3_ := Aside0.mk (Kd.R_lower ho0 (below_size (by repeat (first | (with_reducible first | exact HB.out | apply below_alloc | apply pw_below_drewN | apply below_drew1) | exact HB.out)))); have n4_ := Aside0.mk (Kd.S_lower ho1 (below_size (by repeat (first | (with_reducible first | exact HB.out | apply below_alloc | apply pw_below_drewN | apply below_drew1) | exact HB.out)))); have n5_ := Aside0.mk (below_step (by repeat (first | (with_reducible first | exact HB.out | apply below_alloc | apply pw_below_drewN | apply below_drew1) | exact HB.out)) hb); clear HO_9; clear HO193; clear HO196; clear HB; have HO_9 := n0_; have HO193 := n1_; have HO196 := n2_; have HO200 := n3_; have HO202 := n4_; have HB := n5_; clear n0_ n1_ n2_ n3_ n4_ n5_; (try clear hb); (try clear hb2); (try clear hk); (try clear hi); (try clear ho0); (try clear ho1); obtain ⟨Ao39, co39, eo39⟩ := Kd.R_slice HO_9.out; subst eo39) | (go_at_call 14; (with_reducible refine (laws_added.calls k3 _ _ x9_3 t203 _ ?side1 ?side2 A30.out).mono ?_); (case side1 => repeat (first | exact (Kd.R_reads' HO_9.out).2.2 | (with_reducible refine Kd.C_alloc ?_ _) | (with_reducible refine Kd.C_drewN ?_ _) | (with_reducible refine Kd.C_drew ?_))); (case side2 => exact (Kd.R_reads' HO_9.out).2.1); rintro e w40 ⟨v204, rfl, ho0, hb⟩; have n0_ := Aside0.mk (Kd.R_below (by (with_reducible repeat (first | apply Kd.R_alloc | apply Kd.R_drewN | apply Kd.R_drew)); exact HO_9.out) hb); have n1_ := Aside0.mk (Kd.R_elder' (by (with_reducible repeat (first | apply Kd.R_alloc | apply Kd.R_drewN | apply Kd.R_drew)); exact HO193.out) (Kd.R_base ho0) hb); have n2_ := Aside0.mk (Kd.R_below (by (with_reducible repeat (first | apply Kd.R_alloc | apply Kd.R_drewN | apply Kd.R_drew)); exact HO196.out) hb); have n3_ := Aside0.mk (Kd.R_below (by (with_reducible repeat (first | apply Kd.R_alloc | apply Kd.R_drewN | apply Kd.R_drew)); exact HO200.out) hb); have n4_ := Aside0.mk (Kd.S_below (by (with_reducible repeat (first | apply Kd.S_alloc | apply Kd.S_drewN | apply Kd.S_drew)); exact HO202.out) hb); have n5_ := Aside0.mk (Kd.R_lower (Kd.R_new' ho0 (Kd.R_lt (by (with_reducible repeat (first | apply Kd.R_alloc | apply Kd.R_drewN | apply Kd.R_drew)); exact HO193.out))) (below_size (by repeat (first | (with_reducible first | exact HB.out | apply below_alloc | apply pw_below_drewN | apply below_drew1) | exact HB.out)))); have n6_ := Aside0.mk (below_step (by repeat (first | (with_reducible first | exact HB.out | apply below_alloc | apply pw_below_drewN | apply below_drew1) | exact HB.out)) hb); clear HO_9; clear HO193; clear HO196; clear HO200; clear HO202; clear HB; have HO_9 := n0_; have HO193 := n1_; have HO196 := n2_; have HO200 := n3_; have HO202 := n4_; have HO205 := n5_; have HB := n6_; clear n0_ n1_ n2_ n3_ n4_ n5_ n6_; (try clear hb); (try clear hb2); (try clear hk); (try clear hi); (try clear ho0)) | (go_at_call 15; (with_reducible refine (laws_all.calls a1 a2 a3 t206 _ A31.out).mono ?_); rintro e w41 ⟨v207, rfl, ho0, hb⟩; have n0_ := Aside0.mk (Kd.R_below (by (with_reducible repeat (first | apply Kd.R_alloc | apply Kd.R_drewN | apply Kd.R_drew)); exact HO_9.out) hb); have n1_ := Aside0.mk (Kd.R_below (by (with_reducible repeat (first | apply Kd.R_alloc | apply Kd.R_drewN | apply Kd.R_drew)); exact HO193.out) hb); have n2_ := Aside0.mk (Kd.R_elder' (by (with_reducible repeat (first | apply Kd.R_alloc | apply Kd.R_drewN | apply Kd.R_drew)); exact HO196.out) (Kd.R_base ho0) hb); have n3_ := Aside0.mk (Kd.R_below (by (with_reducible repeat (first | apply Kd.R_alloc | apply Kd.R_drewN | apply Kd.R_drew)); exact HO200.out) hb); have n4_ := Aside0.mk (Kd.S_below (by (with_reducible repeat (first | apply Kd.S_alloc | apply Kd.S_drewN | apply Kd.S_drew)); exact HO202.out) hb); have n5_ := Aside0.mk (Kd.R_below (by (with_reducible repeat (first | apply Kd.R_alloc | apply Kd.R_drewN | apply Kd.R_drew)); exact HO205.out) hb); have n6_ := Aside0.mk (Kd.R_lower (Kd.R_new' ho0 (Kd.R_lt (by (with_reducible repeat (first | apply Kd.R_alloc | apply Kd.R_drewN | apply Kd.R_drew)); exact HO196.out))) (below_size (by repeat (first | (with_reducible first | exact HB.out | apply below_alloc | apply pw_below_drewN | apply below_drew1) | exact HB.out)))); have n7_ := Aside0.mk (below_step (by repeat (first | (with_reducible first | exact HB.out | apply below_alloc | apply pw_below_drewN | apply below_drew1) | exact HB.out)) hb); clear HO_9; clear HO193; clear HO196; clear HO200; clear HO202; clear HO205; clear HB; have HO_9 := n0_; have HO193 := n1_; have HO196 := n2_; have HO200 := n3_; have HO202 := n4_; have HO205 := n5_; have HO208 := n6_; have HB := n7_; clear n0_ n1_ n2_ n3_ n4_ n5_ n6_ n7_; (try clear hb); (try clear hb2); (try clear hk); (try clear hi); (try clear ho0); obtain ⟨Ao42, co42, eo42⟩ := Kd.R_slice HO205.out; subst eo42; obtain ⟨Ao43, co43, eo43⟩ := Kd.R_slice HO208.out; subst eo43) | (go_at_call 13; (with_reducible refine (impl_Roles.calls k3 20 true 0 0 _ _ t203 _ _ t206 t209 t210 _ ?side1 ?side2 ?side3 ?side4 A32.out).mono ?_); (case side1 => repeat (first | exact (Kd.R_reads' HO205.out).2.2 | (with_reducible refine Kd.C_alloc ?_ _) | (with_reducible refine Kd.C_drewN ?_ _) | (with_reducible refine Kd.C_drew ?_))); (case side2 => exact (Kd.R_reads' HO205.out).2.1); (case side3 => repeat (first | exact (Kd.R_reads' HO208.out).2.2 | (with_reducible refine Kd.C_alloc ?_ _) | (with_reducible refine Kd.C_drewN ?_ _) | (with_reducible refine Kd.C_drew ?_))); (case side4 => exact (Kd.R_reads' HO208.out).2.1); rintro e w44 ⟨v211, v213, rfl, ho0, ⟨lp_t210, hp_, ho1⟩, hb⟩; have HTt210 := Aside0.mk hp_; have HLt210 := Aside0.mk hp_.len; clear hp_; have n0_ := Aside0.mk (Kd.R_below (by (with_reducible repeat (first | apply Kd.R_alloc | apply Kd.R_drewN | apply Kd.R_drew)); exact HO_9.out) hb); have n1_ := Aside0.mk (Kd.R_below (by (with_reducible repeat (first | apply Kd.R_alloc | apply Kd.R_drewN | apply Kd.R_drew)); exact HO193.out) hb); have n2_ := Aside0.mk (Kd.R_below (by (with_reducible repeat (first | apply Kd.R_alloc | apply Kd.R_drewN | apply Kd.R_drew)); exact HO196.out) hb); have n3_ := Aside0.mk (Kd.R_elder' (by (with_reducible repeat (first | apply Kd.R_alloc | apply Kd.R_drewN | apply Kd.R_drew)); exact HO200.out) (Kd.R_base ho0) hb); have n4_ := Aside0.mk (Kd.S_elder' (by (with_reducible repeat (first | apply Kd.S_alloc | apply Kd.S_drewN | apply Kd.S_drew)); exact HO202.out) (Kd.S_base ho1) hb); have n5_ := Aside0.mk (Kd.R_below (by (with_reducible repeat (first | apply Kd.R_alloc | apply Kd.R_drewN | apply Kd.R_drew)); exact HO205.out) hb); have n6_ := Aside0.mk (Kd.R_below (by (with_reducible repeat (first | apply Kd.R_alloc | apply Kd.R_drewN | apply Kd.R_drew)); exact HO208.out) hb); have n7_ := Aside0.mk (Kd.R_lower (Kd.R_new' ho0 (Kd.R_lt (by (with_reducible repeat (first | apply Kd.R_alloc | apply Kd.R_drewN | apply Kd.R_drew)); exact HO200.out))) (below_size (by repeat (first | (with_reducible first | exact HB.out | apply below_alloc | apply pw_below_drewN | apply below_drew1) | exact HB.out)))); have n8_ := Aside0.mk (Kd.S_lower (Kd.S_new' ho1 (Kd.S_lt (by (with_reducible repeat (first | apply Kd.S_alloc | apply Kd.S_drewN | apply Kd.S_drew)); exact HO202.out))) (below_size (by repeat (first | (with_reducible first | exact HB.out | apply below_alloc | apply pw_below_drewN | apply below_drew1) | exact HB.out)))); have n9_ := Aside0.mk (below_step (by repeat (first | (with_reducible first | exact HB.out | apply below_alloc | apply pw_below_drewN | apply below_drew1) | exact HB.out)) hb); clear HO_9; clear HO193; clear HO196; clear HO200; clear HO202; clear HO205; clear HO208; clear HB; have HO_9 := n0_; have HO193 := n1_; have HO196 := n2_; have HO200 := n3_; have HO202 := n4_; have HO205 := n5_; have HO208 := n6_; have HO212 := n7_; have HO214 := n8_; have HB := n9_; clear n0_ n1_ n2_ n3_ n4_ n5_ n6_ n7_ n8_ n9_; (try clear hb); (try clear hb2); (try clear hk); (try clear hi); (try clear ho0); (try clear ho1)))
          repeat (go_quiet (first | (go_at_call 14; (with_reducible refine (laws_added.calls k3 _ _ l0 t191 _ ?side1 ?side2 A27.out).mono ?_); (case side1 => repeat (first | exact (Kd.C_below HR0.out HB.out) | (with_reducible refine Kd.C_alloc ?_ _) | (with_reducible refine Kd.C_drewN ?_ _) | (with_reducible refine Kd.C_drew ?_))); (case side2 => exact HC0.out); rintro e w34 ⟨v192, rfl, ho0, hb⟩; have n0_ := Aside0.mk (Kd.R_below (by (with_reducible repeat (first | apply Kd.R_alloc | apply Kd.R_drewN | apply Kd.R_drew)); exact HO_9.out) hb); have n1_ := Aside0.mk (Kd.R_lower ho0 (below_size (by repeat (first | (with_reducible first | exact HB.out | apply below_alloc | apply pw_below_drewN | apply below_drew1) | exact HB.out)))); have n2_ := Aside0.mk (below_step (by repeat (first | (with_reducible first | exact HB.out | apply below_alloc | apply pw_below_drewN | apply below_drew1) | exact HB.out)) hb); clear HO_9; clear HB; have HO_9 := n0_; have HO193 := n1_; have HB := n2_; clear n0_ n1_ n2_; (try clear hb); (try clear hb2); (try clear hk); (try clear hi); (try clear ho0)) | (go_at_call 15; (with_reducible refine (laws_all.calls a1 a2 a3 t194 _ A28.out).mono ?_); rintro e w35 ⟨v195, rfl, ho0, hb⟩; have n0_ := Aside0.mk (Kd.R_below (by (with_reducible repeat (first | apply Kd.R_alloc | apply Kd.R_drewN | apply Kd.R_drew)); exact HO_9.out) hb); have n1_ := Aside0.mk (Kd.R_below (by (with_reducible repeat (first | apply Kd.R_alloc | apply Kd.R_drewN | apply Kd.R_drew)); exact HO193.out) hb); have n2_ := Aside0.mk (Kd.R_lower ho0 (below_size (by repeat (first | (with_reducible first | exact HB.out | apply below_alloc | apply pw_below_drewN | apply below_drew1) | exact HB.out)))); have n3_ := Aside0.mk (below_step (by repeat (first | (with_reducible first | exact HB.out | apply below_alloc | apply pw_below_drewN | apply below_drew1) | exact HB.out)) hb); clear HO_9; clear HO193; clear HB; have HO_9 := n0_; have HO193 := n1_; have HO196 := n2_; have HB := n3_; clear n0_ n1_ n2_ n3_; (try clear hb); (try clear hb2); (try clear hk); (try clear hi); (try clear ho0); obtain ⟨Ao36, co36, eo36⟩ := Kd.R_slice HO193.out; subst eo36; obtain ⟨Ao37, co37, eo37⟩ := Kd.R_slice HO196.out; subst eo37) | (go_at_call 13; (with_reducible refine (impl_Roles.calls k3 20 true 0 0 _ _ t191 _ _ t194 t197 t198 _ ?side1 ?side2 ?side3 ?side4 A29.out).mono ?_); (case side1 => repeat (first | exact (Kd.R_reads' HO193.out).2.2 | (with_reducible refine Kd.C_alloc ?_ _) | (with_reducible refine Kd.C_drewN ?_ _) | (with_reducible refine Kd.C_drew ?_))); (case side2 => exact (Kd.R_reads' HO193.out).2.1); (case side3 => repeat (first | exact (Kd.R_reads' HO196.out).2.2 | (with_reducible refine Kd.C_alloc ?_ _) | (with_reducible refine Kd.C_drewN ?_ _) | (with_reducible refine Kd.C_drew ?_))); (case side4 => exact (Kd.R_reads' HO196.out).2.1); rintro e w38 ⟨v199, v201, rfl, ho0, ⟨lp_t198, hp_, ho1⟩, hb⟩; have HTt198 := Aside0.mk hp_; have HLt198 := Aside0.mk hp_.len; clear hp_; have n0_ := Aside0.mk (Kd.R_below (by (with_reducible repeat (first | apply Kd.R_alloc | apply Kd.R_drewN | apply Kd.R_drew)); exact HO_9.out) hb); have n1_ := Aside0.mk (Kd.R_below (by (with_reducible repeat (first | apply Kd.R_alloc | apply Kd.R_drewN | apply Kd.R_drew)); exact HO193.out) hb); have n2_ := Aside0.mk (Kd.R_below (by (with_reducible repeat (first | apply Kd.R_alloc | apply Kd.R_drewN | apply Kd.R_drew)); exact HO196.out) hb); have n3_ := Aside0.mk (Kd.R_lower ho0 (below_size (by repeat (first | (with_reducible first | exact HB.out | apply below_alloc | apply pw_below_drewN | apply below_drew1) | exact HB.out)))); have n4_ := Aside0.mk (Kd.S_lower ho1 (below_size (by repeat (first | (with_reducible first | exact HB.out | apply below_alloc | apply pw_below_drewN | apply below_drew1) | exact HB.out)))); have n5_ := Aside0.mk (below_step (by repeat (first | (with_reducible first | exact HB.out | apply below_alloc | apply pw_below_drewN | apply below_drew1) | exact HB.out)) hb); clear HO_9; clear HO193; clear HO196; clear HB; have HO_9 := n0_; have HO193 := n1_; have HO196 := n2_; have HO200 := n3_; have HO202 := n4_; have HB := n5_; clear n0_ n1_ n2_ n3_ n4_ n5_; (try clear hb); (try clear hb2); (try clear hk); (try clear hi); (try clear ho0); (try clear ho1); obtain ⟨Ao39, co39, eo39⟩ := Kd.R_slice HO_9.out; subst eo39) | (go_at_call 14; (with_reducible refine (laws_added.calls k3 _ _ x9_3 t203 _ ?side1 ?side2 A30.out).mono ?_); (case side1 => repeat (first | exact (Kd.R_reads' HO_9.out).2.2 | (with_reducible refine Kd.C_alloc ?_ _) | (with_reducible refine Kd.C_drewN ?_ _) | (with_reducible refine Kd.C_drew ?_))); (case side2 => exact (Kd.R_reads' HO_9.out).2.1); rintro e w40 ⟨v204, rfl, ho0, hb⟩; have n0_ := Aside0.mk (Kd.R_below (by (with_reducible repeat (first | apply Kd.R_alloc | apply Kd.R_drewN | apply Kd.R_drew)); exact HO_9.out) hb); have n1_ := Aside0.mk (Kd.R_elder' (by (with_reducible repeat (first | apply Kd.R_alloc | apply Kd.R_drewN | apply Kd.R_drew)); exact HO193.out) (Kd.R_base ho0) hb); have n2_ := Aside0.mk (Kd.R_below (by (with_reducible repeat (first | apply Kd.R_alloc | apply Kd.R_drewN | apply Kd.R_drew)); exact HO196.out) hb); have n3_ := Aside0.mk (Kd.R_below (by (with_reducible repeat (first | apply Kd.R_alloc | apply Kd.R_drewN | apply Kd.R_drew)); exact HO200.out) hb); have n4_ := Aside0.mk (Kd.S_below (by (with_reducible repeat (first | apply Kd.S_alloc | apply Kd.S_drewN | apply Kd.S_drew)); exact HO202.out) hb); have n5_ := Aside0.mk (Kd.R_lower (Kd.R_new' ho0 (Kd.R_lt (by (with_reducible repeat (first | apply Kd.R_alloc | apply Kd.R_drewN | apply Kd.R_drew)); exact HO193.out))) (below_size (by repeat (first | (with_reducible first | exact HB.out | apply below_alloc | apply pw_below_drewN | apply below_drew1) | exact HB.out)))); have n6_ := Aside0.mk (below_step (by repeat (first | (with_reducible first | exact HB.out | apply below_alloc | apply pw_below_drewN | apply below_drew1) | exact HB.out)) hb); clear HO_9; clear HO193; clear HO196; clear HO200; clear HO202; clear HB; have HO_9 := n0_; have HO193 := n1_; have HO196 := n2_; have HO200 := n3_; have HO202 := n4_; have HO205 := n5_; have HB := n6_; clear n0_ n1_ n2_ n3_ n4_ n5_ n6_; (try clear hb); (try clear hb2); (try clear hk); (try clear hi); (try clear ho0)) | (go_at_call 15; (with_reducible refine (laws_all.calls a1 a2 a3 t206 _ A31.out).mono ?_); rintro e w41 ⟨v207, rfl, ho0, hb⟩; have n0_ := Aside0.mk (Kd.R_below (by (with_reducible repeat (first | apply Kd.R_alloc | apply Kd.R_drewN | apply Kd.R_drew)); exact HO_9.out) hb); have n1_ := Aside0.mk (Kd.R_below (by (with_reducible repeat (first | apply Kd.R_alloc | apply Kd.R_drewN | apply Kd.R_drew)); exact HO193.out) hb); have n2_ := Aside0.mk (Kd.R_elder' (by (with_reducible repeat (first | apply Kd.R_alloc | apply Kd.R_drewN | apply Kd.R_drew)); exact HO196.out) (Kd.R_base ho0) hb); have n3_ := Aside0.mk (Kd.R_below (by (with_reducible repeat (first | apply Kd.R_alloc | apply Kd.R_drewN | apply Kd.R_drew)); exact HO200.out) hb); have n4_ := Aside0.mk (Kd.S_below (by (with_reducible repeat (first | apply Kd.S_alloc | apply Kd.S_drewN | apply Kd.S_drew)); exact HO202.out) hb); have n5_ := Aside0.mk (Kd.R_below (by (with_reducible repeat (first | apply Kd.R_alloc | apply Kd.R_drewN | apply Kd.R_drew)); exact HO205.out) hb); have n6_ := Aside0.mk (Kd.R_lower (Kd.R_new' ho0 (Kd.R_lt (by (with_reducible repeat (first | apply Kd.R_alloc | apply Kd.R_drewN | apply Kd.R_drew)); exact HO196.out))) (below_size (by repeat (first | (with_reducible first | exact HB.out | apply below_alloc | apply pw_below_drewN | apply below_drew1) | exact HB.out)))); have n7_ := Aside0.mk (below_step (by repeat (first | (with_reducible first | exact HB.out | apply below_alloc | apply pw_below_drewN | apply below_drew1) | exact HB.out)) hb); clear HO_9; clear HO193; clear HO196; clear HO200; clear HO202; clear HO205; clear HB; have HO_9 := n0_; have HO193 := n1_; have HO196 := n2_; have HO200 := n3_; have HO202 := n4_; have HO205 := n5_; have HO208 := n6_; have HB := n7_; clear n0_ n1_ n2_ n3_ n4_ n5_ n6_ n7_; (try clear hb); (try clear hb2); (try clear hk); (try clear hi); (try clear ho0); obtain ⟨Ao42, co42, eo42⟩ := Kd.R_slice HO205.out; subst eo42; obtain ⟨Ao43, co43, eo43⟩ := Kd.R_slice HO208.out; subst eo43) | (go_at_call 13; (with_reducible refine (impl_Roles.calls k3 20 true 0 0 _ _ t203 _ _ t206 t209 t210 _ ?side1 ?side2 ?side3 ?side4 A32.out).mono ?_); (case side1 => repeat (first | exact (Kd.R_reads' HO205.out).2.2 | (with_reducible refine Kd.C_alloc ?_ _) | (with_reducible refine Kd.C_drewN ?_ _) | (with_reducible refine Kd.C_drew ?_))); (case side2 => exact (Kd.R_reads' HO205.out).2.1); (case side3 => repeat (first | exact (Kd.R_reads' HO208.out).2.2 | (with_reducible refine Kd.C_alloc ?_ _) | (with_reducible refine Kd.C_drewN ?_ _) | (with_reducible refine Kd.C_drew ?_))); (case side4 => exact (Kd.R_reads' HO208.out).2.1); rintro e w44 ⟨v211, v213, rfl, ho0, ⟨lp_t210, hp_, ho1⟩, hb⟩; have HTt210 := Aside0.mk hp_; have HLt210 := Aside0.mk hp_.len; clear hp_; have n0_ := Aside0.mk (Kd.R_below (by (with_reducible repeat (first | apply Kd.R_alloc | apply Kd.R_drewN | apply Kd.R_drew)); exact HO_9.out) hb); have n1_ := Aside0.mk (Kd.R_below (by (with_reducible repeat (first | apply Kd.R_alloc | apply Kd.R_drewN | apply Kd.R_drew)); exact HO193.out) hb); have n2_ := Aside0.mk (Kd.R_below (by (with_reducible repeat (first | apply Kd.R_alloc | apply Kd.R_drewN | apply Kd.R_drew)); exact HO196.out) hb); have n3_ := Aside0.mk (Kd.R_elder' (by (with_reducible repeat (first | apply Kd.R_alloc | apply Kd.R_drewN | apply Kd.R_drew)); exact HO200.out) (Kd.R_base ho0) hb); have n4_ := Aside0.mk (Kd.S_elder' (by (with_reducible repeat (first | apply Kd.S_alloc | apply Kd.S_drewN | apply Kd.S_drew)); exact HO202.out) (Kd.S_base ho1) hb); have n5_ := Aside0.mk (Kd.R_below (by (with_reducible repeat (first | apply Kd.R_alloc | apply Kd.R_drewN | apply Kd.R_drew)); exact HO205.out) hb); have n6_ := Aside0.mk (Kd.R_below (by (with_reducible repeat (first | apply Kd.R_alloc | apply Kd.R_drewN | apply Kd.R_drew)); exact HO208.out) hb); have n7_ := Aside0.mk (Kd.R_lower (Kd.R_new' ho0 (Kd.R_lt (by (with_reducible repeat (first | apply Kd.R_alloc | apply Kd.R_drewN | apply Kd.R_drew)); exact HO200.out))) (below_size (by repeat (first | (with_reducible first | exact HB.out | apply below_alloc | apply pw_below_drewN | apply below_drew1) | exact HB.out)))); have n8_ := Aside0.mk (Kd.S_lower (Kd.S_new' ho1 (Kd.S_lt (by (with_reducible repeat (first | apply Kd.S_alloc | apply Kd.S_drewN | apply Kd.S_drew)); exact HO202.out))) (below_size (by repeat (first | (with_reducible first | exact HB.out | apply below_alloc | apply pw_below_drewN | apply below_drew1) | exact HB.out)))); have n9_ := Aside0.mk (below_step (by repeat (first | (with_reducible first | exact HB.out | apply below_alloc | apply pw_below_drewN | apply below_drew1) | exact HB.out)) hb); clear HO_9; clear HO193; clear HO196; clear HO200; clear HO202; clear HO205; clear HO208; clear HB; have HO_9 := n0_; have HO193 := n1_; have HO196 := n2_; have HO200 := n3_; have HO202 := n4_; have HO205 := n5_; have HO208 := n6_; have HO212 := n7_; have HO214 := n8_; have HB := n9_; clear n0_ n1_ n2_ n3_ n4_ n5_ n6_ n7_ n8_ n9_; (try clear hb); (try clear hb2); (try clear hk); (try clear hi); (try clear ho0); (try clear ho1))); go_upto_region 13 with (first | (go_at_call 14; (with_reducible refine (laws_added.calls k3 _ _ l0 t191 _ ?side1 ?side2 A27.out).mono ?_); (case side1 => repeat (first | exact (Kd.C_below HR0.out HB.out) | (with_reducible refine Kd.C_alloc ?_ _) | (with_reducible refine Kd.C_drewN ?_ _) | (with_reducible refine Kd.C_drew ?_))); (case side2 => exact HC0.out); rintro e w34 ⟨v192, rfl, ho0, hb⟩; have n0_ := Aside0.mk (Kd.R_below (by (with_reducible repeat (first | apply Kd.R_alloc | apply Kd.R_drewN | apply Kd.R_drew)); exact HO_9.out) hb); have n1_ := Aside0.mk (Kd.R_lower ho0 (below_size (by repeat (first | (with_reducible first | exact HB.out | apply below_alloc | apply pw_below_drewN | apply below_drew1) | exact HB.out)))); have n2_ := Aside0.mk (below_step (by repeat (first | (with_reducible first | exact HB.out | apply below_alloc | apply pw_below_drewN | apply below_drew1) | exact HB.out)) hb); clear HO_9; clear HB; have HO_9 := n0_; have HO193 := n1_; have HB := n2_; clear n0_ n1_ n2_; (try clear hb); (try clear hb2); (try clear hk); (try clear hi); (try clear ho0)) | (go_at_call 15; (with_reducible refine (laws_all.calls a1 a2 a3 t194 _ A28.out).mono ?_); rintro e w35 ⟨v195, rfl, ho0, hb⟩; have n0_ := Aside0.mk (Kd.R_below (by (with_reducible repeat (first | apply Kd.R_alloc | apply Kd.R_drewN | apply Kd.R_drew)); exact HO_9.out) hb); have n1_ := Aside0.mk (Kd.R_below (by (with_reducible repeat (first | apply Kd.R_alloc | apply Kd.R_drewN | apply Kd.R_drew)); exact HO193.out) hb); have n2_ := Aside0.mk (Kd.R_lower ho0 (below_size (by repeat (first | (with_reducible first | exact HB.out | apply below_alloc | apply pw_below_drewN | apply below_drew1) | exact HB.out)))); have n3_ := Aside0.mk (below_step (by repeat (first | (with_reducible first | exact HB.out | apply below_alloc | apply pw_below_drewN | apply below_drew1) | exact HB.out)) hb); clear HO_9; clear HO193; clear HB; have HO_9 := n0_; have HO193 := n1_; have HO196 := n2_; have HB := n3_; clear n0_ n1_ n2_ n3_; (try clear hb); (try clear hb2); (try clear hk); (try clear hi); (try clear ho0); obtain ⟨Ao36, co36, eo36⟩ := Kd.R_slice HO193.out; subst eo36; obtain ⟨Ao37, co37, eo37⟩ := Kd.R_slice HO196.out; subst eo37) | (go_at_call 13; (with_reducible refine (impl_Roles.calls k3 20 true 0 0 _ _ t191 _ _ t194 t197 t198 _ ?side1 ?side2 ?side3 ?side4 A29.out).mono ?_); (case side1 => repeat (first | exact (Kd.R_reads' HO193.out).2.2 | (with_reducible refine Kd.C_alloc ?_ _) | (with_reducible refine Kd.C_drewN ?_ _) | (with_reducible refine Kd.C_drew ?_))); (case side2 => exact (Kd.R_reads' HO193.out).2.1); (case side3 => repeat (first | exact (Kd.R_reads' HO196.out).2.2 | (with_reducible refine Kd.C_alloc ?_ _) | (with_reducible refine Kd.C_drewN ?_ _) | (with_reducible refine Kd.C_drew ?_))); (case side4 => exact (Kd.R_reads' HO196.out).2.1); rintro e w38 ⟨v199, v201, rfl, ho0, ⟨lp_t198, hp_, ho1⟩, hb⟩; have HTt198 := Aside0.mk hp_; have HLt198 := Aside0.mk hp_.len; clear hp_; have n0_ := Aside0.mk (Kd.R_below (by (with_reducible repeat (first | apply Kd.R_alloc | apply Kd.R_drewN | apply Kd.R_drew)); exact HO_9.out) hb); have n1_ := Aside0.mk (Kd.R_below (by (with_reducible repeat (first | apply Kd.R_alloc | apply Kd.R_drewN | apply Kd.R_drew)); exact HO193.out) hb); have n2_ := Aside0.mk (Kd.R_below (by (with_reducible repeat (first | apply Kd.R_alloc | apply Kd.R_drewN | apply Kd.R_drew)); exact HO196.out) hb); have n3_ := Aside0.mk (Kd.R_lower ho0 (below_size (by repeat (first | (with_reducible first | exact HB.out | apply below_alloc | apply pw_below_drewN | apply below_drew1) | exact HB.out)))); have n4_ := Aside0.mk (Kd.S_lower ho1 (below_size (by repeat (first | (with_reducible first | exact HB.out | apply below_alloc | apply pw_below_drewN | apply below_drew1) | exact HB.out)))); have n5_ := Aside0.mk (below_step (by repeat (first | (with_reducible first | exact HB.out | apply below_alloc | apply pw_below_drewN | apply below_drew1) | exact HB.out)) hb); clear HO_9; clear HO193; clear HO196; clear HB; have HO_9 := n0_; have HO193 := n1_; have HO196 := n2_; have HO200 := n3_; have HO202 := n4_; have HB := n5_; clear n0_ n1_ n2_ n3_ n4_ n5_; (try clear hb); (try clear hb2); (try clear hk); (try clear hi); (try clear ho0); (try clear ho1); obtain ⟨Ao39, co39, eo39⟩ := Kd.R_slice HO_9.out; subst eo39) | (go_at_call 14; (with_reducible refine (laws_added.calls k3 _ _ x9_3 t203 _ ?side1 ?side2 A30.out).mono ?_); (case side1 => repeat (first | exact (Kd.R_reads' HO_9.out).2.2 | (with_reducible refine Kd.C_alloc ?_ _) | (with_reducible refine Kd.C_drewN ?_ _) | (with_reducible refine Kd.C_drew ?_))); (case side2 => exact (Kd.R_reads' HO_9.out).2.1); rintro e w40 ⟨v204, rfl, ho0, hb⟩; have n0_ := Aside0.mk (Kd.R_below (by (with_reducible repeat (first | apply Kd.R_alloc | apply Kd.R_drewN | apply Kd.R_drew)); exact HO_9.out) hb); have n1_ := Aside0.mk (Kd.R_elder' (by (with_reducible repeat (first | apply Kd.R_alloc | apply Kd.R_drewN | apply Kd.R_drew)); exact HO193.out) (Kd.R_base ho0) hb); have n2_ := Aside0.mk (Kd.R_below (by (with_reducible repeat (first | apply Kd.R_alloc | apply Kd.R_drewN | apply Kd.R_drew)); exact HO196.out) hb); have n3_ := Aside0.mk (Kd.R_below (by (with_reducible repeat (first | apply Kd.R_alloc | apply Kd.R_drewN | apply Kd.R_drew)); exact HO200.out) hb); have n4_ := Aside0.mk (Kd.S_below (by (with_reducible repeat (first | apply Kd.S_alloc | apply Kd.S_drewN | apply Kd.S_drew)); exact HO202.out) hb); have n5_ := Aside0.mk (Kd.R_lower (Kd.R_new' ho0 (Kd.R_lt (by (with_reducible repeat (first | apply Kd.R_alloc | apply Kd.R_drewN | apply Kd.R_drew)); exact HO193.out))) (below_size (by repeat (first | (with_reducible first | exact HB.out | apply below_alloc | apply pw_below_drewN | apply below_drew1) | exact HB.out)))); have n6_ := Aside0.mk (below_step (by repeat (first | (with_reducible first | exact HB.out | apply below_alloc | apply pw_below_drewN | apply below_drew1) | exact HB.out)) hb); clear HO_9; clear HO193; clear HO196; clear HO200; clear HO202; clear HB; have HO_9 := n0_; have HO193 := n1_; have HO196 := n2_; have HO200 := n3_; have HO202 := n4_; have HO205 := n5_; have HB := n6_; clear n0_ n1_ n2_ n3_ n4_ n5_ n6_; (try clear hb); (try clear hb2); (try clear hk); (try clear hi); (try clear ho0)) | (go_at_call 15; (with_reducible refine (laws_all.calls a1 a2 a3 t206 _ A31.out).mono ?_); rintro e w41 ⟨v207, rfl, ho0, hb⟩; have n0_ := Aside0.mk (Kd.R_below (by (with_reducible repeat (first | apply Kd.R_alloc | apply Kd.R_drewN | apply Kd.R_drew)); exact HO_9.out) hb); have n1_ := Aside0.mk (Kd.R_below (by (with_reducible repeat (first | apply Kd.R_alloc | apply Kd.R_drewN | apply Kd.R_drew)); exact HO193.out) hb); have n2_ := Aside0.mk (Kd.R_elder' (by (with_reducible repeat (first | apply Kd.R_alloc | apply Kd.R_drewN | apply Kd.R_drew)); exact HO196.out) (Kd.R_base ho0) hb); have n3_ := Aside0.mk (Kd.R_below (by (with_reducible repeat (first | apply Kd.R_alloc | apply Kd.R_drewN | apply Kd.R_drew)); exact HO200.out) hb); have n4_ := Aside0.mk (Kd.S_below (by (with_reducible repeat (first | apply Kd.S_alloc | apply Kd.S_drewN | apply Kd.S_drew)); exact HO202.out) hb); have n5_ := Aside0.mk (Kd.R_below (by (with_reducible repeat (first | apply Kd.R_alloc | apply Kd.R_drewN | apply Kd.R_drew)); exact HO205.out) hb); have n6_ := Aside0.mk (Kd.R_lower (Kd.R_new' ho0 (Kd.R_lt (by (with_reducible repeat (first | apply Kd.R_alloc | apply Kd.R_drewN | apply Kd.R_drew)); exact HO196.out))) (below_size (by repeat (first | (with_reducible first | exact HB.out | apply below_alloc | apply pw_below_drewN | apply below_drew1) | exact HB.out)))); have n7_ := Aside0.mk (below_step (by repeat (first | (with_reducible first | exact HB.out | apply below_alloc | apply pw_below_drewN | apply below_drew1) | exact HB.out)) hb); clear HO_9; clear HO193; clear HO196; clear HO200; clear HO202; clear HO205; clear HB; have HO_9 := n0_; have HO193 := n1_; have HO196 := n2_; have HO200 := n3_; have HO202 := n4_; have HO205 := n5_; have HO208 := n6_; have HB := n7_; clear n0_ n1_ n2_ n3_ n4_ n5_ n6_ n7_; (try clear hb); (try clear hb2); (try clear hk); (try clear hi); (try clear ho0); obtain ⟨Ao42, co42, eo42⟩ := Kd.R_slice HO205.out; subst eo42; obtain ⟨Ao43, co43, eo43⟩ := Kd.R_slice HO208.out; subst eo43) | (go_at_call 13; (with_reducible refine (impl_Roles.calls k3 20 true 0 0 _ _ t203 _ _ t206 t209 t210 _ ?side1 ?side2 ?side3 ?side4 A32.out).mono ?_); (case side1 => repeat (first | exact (Kd.R_reads' HO205.out).2.2 | (with_reducible refine Kd.C_alloc ?_ _) | (with_reducible refine Kd.C_drewN ?_ _) | (with_reducible refine Kd.C_drew ?_))); (case side2 => exact (Kd.R_reads' HO205.out).2.1); (case side3 => repeat (first | exact (Kd.R_reads' HO208.out).2.2 | (with_reducible refine Kd.C_alloc ?_ _) | (with_reducible refine Kd.C_drewN ?_ _) | (with_reducible refine Kd.C_drew ?_))); (case side4 => exact (Kd.R_reads' HO208.out).2.1); rintro e w44 ⟨v211, v213, rfl, ho0, ⟨lp_t210, hp_, ho1⟩, hb⟩; have HTt210 := Aside0.mk hp_; have HLt210 := Aside0.mk hp_.len; clear hp_; have n0_ := Aside0.mk (Kd.R_below (by (with_reducible repeat (first | apply Kd.R_alloc | apply Kd.R_drewN | apply Kd.R_drew)); exact HO_9.out) hb); have n1_ := Aside0.mk (Kd.R_below (by (with_reducible repeat (first | apply Kd.R_alloc | apply Kd.R_drewN | apply Kd.R_drew)); exact HO193.out) hb); have n2_ := Aside0.mk (Kd.R_below (by (with_reducible repeat (first | apply Kd.R_alloc | apply Kd.R_drewN | apply Kd.R_drew)); exact HO196.out) hb); have n3_ := Aside0.mk (Kd.R_elder' (by (with_reducible repeat (first | apply Kd.R_alloc | apply Kd.R_drewN | apply Kd.R_drew)); exact HO200.out) (Kd.R_base ho0) hb); have n4_ := Aside0.mk (Kd.S_elder' (by (with_reducible repeat (first | apply Kd.S_alloc | apply Kd.S_drewN | apply Kd.S_drew)); exact HO202.out) (Kd.S_base ho1) hb); have n5_ := Aside0.mk (Kd.R_below (by (with_reducible repeat (first | apply Kd.R_alloc | apply Kd.R_drewN | apply Kd.R_drew)); exact HO205.out) hb); have n6_ := Aside0.mk (Kd.R_below (by (with_reducible repeat (first | apply Kd.R_alloc | apply Kd.R_drewN | apply Kd.R_drew)); exact HO208.out) hb); have n7_ := Aside0.mk (Kd.R_lower (Kd.R_new' ho0 (Kd.R_lt (by (with_reducible repeat (first | apply Kd.R_alloc | apply Kd.R_drewN | apply Kd.R_drew)); exact HO200.out))) (below_size (by repeat (first | (with_reducible first | exact HB.out | apply below_alloc | apply pw_below_drewN | apply below_drew1) | exact HB.out)))); have n8_ := Aside0.mk (Kd.S_lower (Kd.S_new' ho1 (Kd.S_lt (by (with_reducible repeat (first | apply Kd.S_alloc | apply Kd.S_drewN | apply Kd.S_drew)); exact HO202.out))) (below_size (by repeat (first | (with_reducible first | exact HB.out | apply below_alloc | apply pw_below_drewN | apply below_drew1) | exact HB.out)))); have n9_ := Aside0.mk (below_step (by repeat (first | (with_reducible first | exact HB.out | apply below_alloc | apply pw_below_drewN | apply below_drew1) | exact HB.out)) hb); clear HO_9; clear HO193; clear HO196; clear HO200; clear HO202; clear HO205; clear HO208; clear HB; have HO_9 := n0_; have HO193 := n1_; have HO196 := n2_; have HO200 := n3_; have HO202 := n4_; have HO205 := n5_; have HO208 := n6_; have HO212 := n7_; have HO214 := n8_; have HB := n9_; clear n0_ n1_ n2_ n3_ n4_ n5_ n6_ n7_ n8_ n9_; (try clear hb); (try clear hb2); (try clear hk); (try clear hi); (try clear ho0); (try clear ho1))))
          (try simp only [Act.put, List.setIfInBounds_toArray, List.set_cons_zero, List.set_cons_succ])
          go_cut [97] (fun v97 wc => ∃ (kq : Nat) (x97_32 : Bool), v97 = .bool x97_32 ∧ Aside0 (laws_FnRolesDomains.j3 kq l0 a1 a3 x9_3 x97_32 = some r) ∧ Aside0 (kq ≤ k3) ∧ Aside0 (Kd.R k28 28 wc w.heap.size (fun _ => True) (.slice Ao39 x9_3.length co39) x9_3) ∧ Aside0 (Below w.heap.size w wc))
          case first =>
           have H := HC33.out
           clear HC33
           by_cases c45 : (t198.length : Int) = 8
           ·rw [if_pos c45] at H
            have c45b0 : ((t198.length : Int) == 8) = true := beq_iff_eq.mpr c45
            try rw [← HLt198.out] at c45b0
            have c45b1 : ((t198.length : Int) != 8) = false := bne_eq_false_iff_eq.mpr c45
            try rw [← HLt198.out] at c45b1
            clear c45
            (first | rw [c45b0] | (simp only [i64_w, i32_w]; rw [c45b0]) | skip)
            replace H := Option.bind_eq_some_iff.mp H
            obtain ⟨t215, A460, H⟩ := H
            replace H : (laws_FnRolesDomains.j3 k3 l0 a1 a3 x9_3 (!t215)) = some r := H
            have A46 := Aside0.mk A460
            clear A460
            have H' := Aside0.mk H
            clear H
            obtain ⟨Ao47, co47, eo47⟩ := Kd.S_slice HO202.out
            subst eo47
            obtain ⟨Ao48, co48, eo48⟩ := Kd.S_slice HO214.out
            subst eo48
            go_wp2_with (first | (go_at_call 16; (with_reducible refine (laws_sameTold.calls _ _ _ lp_t198 _ _ lp_t210 t215 _ ?side1 ?side2 ?side3 ?side4 (sameTold_told HTt198.out HTt210.out A46.out).choose_spec).mono ?_); (case side1 => repeat (first | exact (Kd.S_reads' HO202.out).2.2 | (with_reducible refine Kd.C_alloc ?_ _) | (with_reducible refine Kd.C_drewN ?_ _) | (with_reducible refine Kd.C_drew ?_))); (case side2 => exact (Kd.S_reads' HO202.out).2.1); (case side3 => repeat (first | exact (Kd.S_reads' HO214.out).2.2 | (with_reducible refine Kd.C_alloc ?_ _) | (with_reducible refine Kd.C_drewN ?_ _) | (with_reducible refine Kd.C_drew ?_))); (case side4 => exact (Kd.S_reads' HO214.out).2.1); rintro e w49 ⟨rfl, hb⟩; have n0_ := Aside0.mk (Kd.R_below (by (with_reducible repeat (first | apply Kd.R_alloc | apply Kd.R_drewN | apply Kd.R_drew)); exact HO_9.out) hb); have n1_ := Aside0.mk (Kd.R_below (by (with_reducible repeat (first | apply Kd.R_alloc | apply Kd.R_drewN | apply Kd.R_drew)); exact HO193.out) hb); have n2_ := Aside0.mk (Kd.R_below (by (with_reducible repeat (first | apply Kd.R_alloc | apply Kd.R_drewN | apply Kd.R_drew)); exact HO196.out) hb); have n3_ := Aside0.mk (Kd.R_below (by (with_reducible repeat (first | apply Kd.R_alloc | apply Kd.R_drewN | apply Kd.R_drew)); exact HO200.out) hb); have n4_ := Aside0.mk (Kd.S_below (by (with_reducible repeat (first | apply Kd.S_alloc | apply Kd.S_drewN | apply Kd.S_drew)); exact HO202.out) hb); have n5_ := Aside0.mk (Kd.R_below (by (with_reducible repeat (first | apply Kd.R_alloc | apply Kd.R_drewN | apply Kd.R_drew)); exact HO205.out) hb); have n6_ := Aside0.mk (Kd.R_below (by (with_reducible repeat (first | apply Kd.R_alloc | apply Kd.R_drewN | apply Kd.R_drew)); exact HO208.out) hb); have n7_ := Aside0.mk (Kd.R_below (by (with_reducible repeat (first | apply Kd.R_alloc | apply Kd.R_drewN | apply Kd.R_drew)); exact HO212.out) hb); have n8_ := Aside0.mk (Kd.S_below (by (with_reducible repeat (first | apply Kd.S_alloc | apply Kd.S_drewN | apply Kd.S_drew)); exact HO214.out) hb); have n9_ := Aside0.mk (below_step (by repeat (first | (with_reducible first | exact HB.out | apply below_alloc | apply pw_below_drewN | apply below_drew1) | exact HB.out)) hb); clear HO_9; clear HO193; clear HO196; clear HO200; clear HO202; clear HO205; clear HO208; clear HO212; clear HO214; clear HB; have HO_9 := n0_; have HO193 := n1_; have HO196 := n2_; have HO200 := n3_; have HO202 := n4_; have HO205 := n5_; have HO208 := n6_; have HO212 := n7_; have HO214 := n8_; have HB := n9_; clear n0_ n1_ n2_ n3_ n4_ n5_ n6_ n7_ n8_ n9_; (try clear hb); (try clear hb2); (try clear hk); (try clear hi)))
            repeat (go_quiet (first | (go_at_call 16; (with_reducible refine (laws_sameTold.calls _ _ _ lp_t198 _ _ lp_t210 t215 _ ?side1 ?side2 ?side3 ?side4 (sameTold_told HTt198.out HTt210.out A46.out).choose_spec).mono ?_); (case side1 => repeat (first | exact (Kd.S_reads' HO202.out).2.2 | (with_reducible refine Kd.C_alloc ?_ _) | (with_reducible refine Kd.C_drewN ?_ _) | (with_reducible refine Kd.C_drew ?_))); (case side2 => exact (Kd.S_reads' HO202.out).2.1); (case side3 => repeat (first | exact (Kd.S_reads' HO214.out).2.2 | (with_reducible refine Kd.C_alloc ?_ _) | (with_reducible refine Kd.C_drewN ?_ _) | (with_reducible refine Kd.C_drew ?_))); (case side4 => exact (Kd.S_reads' HO214.out).2.1); rintro e w49 ⟨rfl, hb⟩; have n0_ := Aside0.mk (Kd.R_below (by (with_reducible repeat (first | apply Kd.R_alloc | apply Kd.R_drewN | apply Kd.R_drew)); exact HO_9.out) hb); have n1_ := Aside0.mk (Kd.R_below (by (with_reducible repeat (first | apply Kd.R_alloc | apply Kd.R_drewN | apply Kd.R_drew)); exact HO193.out) hb); have n2_ := Aside0.mk (Kd.R_below (by (with_reducible repeat (first | apply Kd.R_alloc | apply Kd.R_drewN | apply Kd.R_drew)); exact HO196.out) hb); have n3_ := Aside0.mk (Kd.R_below (by (with_reducible repeat (first | apply Kd.R_alloc | apply Kd.R_drewN | apply Kd.R_drew)); exact HO200.out) hb); have n4_ := Aside0.mk (Kd.S_below (by (with_reducible repeat (first | apply Kd.S_alloc | apply Kd.S_drewN | apply Kd.S_drew)); exact HO202.out) hb); have n5_ := Aside0.mk (Kd.R_below (by (with_reducible repeat (first | apply Kd.R_alloc | apply Kd.R_drewN | apply Kd.R_drew)); exact HO205.out) hb); have n6_ := Aside0.mk (Kd.R_below (by (with_reducible repeat (first | apply Kd.R_alloc | apply Kd.R_drewN | apply Kd.R_drew)); exact HO208.out) hb); have n7_ := Aside0.mk (Kd.R_below (by (with_reducible repeat (first | apply Kd.R_alloc | apply Kd.R_drewN | apply Kd.R_drew)); exact HO212.out) hb); have n8_ := Aside0.mk (Kd.S_below (by (with_reducible repeat (first | apply Kd.S_alloc | apply Kd.S_drewN | apply Kd.S_drew)); exact HO214.out) hb); have n9_ := Aside0.mk (below_step (by repeat (first | (with_reducible first | exact HB.out | apply below_alloc | apply pw_below_drewN | apply below_drew1) | exact HB.out)) hb); clear HO_9; clear HO193; clear HO196; clear HO200; clear HO202; clear HO205; clear HO208; clear HO212; clear HO214; clear HB; have HO_9 := n0_; have HO193 := n1_; have HO196 := n2_; have HO200 := n3_; have HO202 := n4_; have HO205 := n5_; have HO208 := n6_; have HO212 := n7_; have HO214 := n8_; have HB := n9_; clear n0_ n1_ n2_ n3_ n4_ n5_ n6_ n7_ n8_ n9_; (try clear hb); (try clear hb2); (try clear hk); (try clear hi))); try go_wp2_with (first | (go_at_call 16; (with_reducible refine (laws_sameTold.calls _ _ _ lp_t198 _ _ lp_t210 t215 _ ?side1 ?side2 ?side3 ?side4 (sameTold_told HTt198.out HTt210.out A46.out).choose_spec).mono ?_); (case side1 => repeat (first | exact (Kd.S_reads' HO202.out).2.2 | (with_reducible refine Kd.C_alloc ?_ _) | (with_reducible refine Kd.C_drewN ?_ _) | (with_reducible refine Kd.C_drew ?_))); (case side2 => exact (Kd.S_reads' HO202.out).2.1); (case side3 => repeat (first | exact (Kd.S_reads' HO214.out).2.2 | (with_reducible refine Kd.C_alloc ?_ _) | (with_reducible refine Kd.C_drewN ?_ _) | (with_reducible refine Kd.C_drew ?_))); (case side4 => exact (Kd.S_reads' HO214.out).2.1); rintro e w49 ⟨rfl, hb⟩; have n0_ := Aside0.mk (Kd.R_below (by (with_reducible repeat (first | apply Kd.R_alloc | apply Kd.R_drewN | apply Kd.R_drew)); exact HO_9.out) hb); have n1_ := Aside0.mk (Kd.R_below (by (with_reducible repeat (first | apply Kd.R_alloc | apply Kd.R_drewN | apply Kd.R_drew)); exact HO193.out) hb); have n2_ := Aside0.mk (Kd.R_below (by (with_reducible repeat (first | apply Kd.R_alloc | apply Kd.R_drewN | apply Kd.R_drew)); exact HO196.out) hb); have n3_ := Aside0.mk (Kd.R_below (by (with_reducible repeat (first | apply Kd.R_alloc | apply Kd.R_drewN | apply Kd.R_drew)); exact HO200.out) hb); have n4_ := Aside0.mk (Kd.S_below (by (with_reducible repeat (first | apply Kd.S_alloc | apply Kd.S_drewN | apply Kd.S_drew)); exact HO202.out) hb); have n5_ := Aside0.mk (Kd.R_below (by (with_reducible repeat (first | apply Kd.R_alloc | apply Kd.R_drewN | apply Kd.R_drew)); exact HO205.out) hb); have n6_ := Aside0.mk (Kd.R_below (by (with_reducible repeat (first | apply Kd.R_alloc | apply Kd.R_drewN | apply Kd.R_drew)); exact HO208.out) hb); have n7_ := Aside0.mk (Kd.R_below (by (with_reducible repeat (first | apply Kd.R_alloc | apply Kd.R_drewN | apply Kd.R_drew)); exact HO212.out) hb); have n8_ := Aside0.mk (Kd.S_below (by (with_reducible repeat (first | apply Kd.S_alloc | apply Kd.S_drewN | apply Kd.S_drew)); exact HO214.out) hb); have n9_ := Aside0.mk (below_step (by repeat (first | (with_reducible first | exact HB.out | apply below_alloc | apply pw_below_drewN | apply below_drew1) | exact HB.out)) hb); clear HO_9; clear HO193; clear HO196; clear HO200; clear HO202; clear HO205; clear HO208; clear HO212; clear HO214; clear HB; have HO_9 := n0_; have HO193 := n1_; have HO196 := n2_; have HO200 := n3_; have HO202 := n4_; have HO205 := n5_; have HO208 := n6_; have HO212 := n7_; have HO214 := n8_; have HB := n9_; clear n0_ n1_ n2_ n3_ n4_ n5_ n6_ n7_ n8_ n9_; (try clear hb); (try clear hb2); (try clear hk); (try clear hi))))
            go_meet
            case rel => exact ⟨_, (!t215), (by first | rfl | (simp; done) | (simp [*]; done)), H', ⟨by have := HJ4.out; have := HJ14.out; have := HK3.out; first | omega | exact Nat.le_refl _⟩, ⟨by (with_reducible repeat (first | apply Kd.R_alloc | apply Kd.R_drewN | apply Kd.R_drew)); exact HO_9.out⟩, ⟨by repeat (first | (with_reducible first | exact HB.out | apply below_alloc | apply pw_below_drewN | apply below_drew1) | exact HB.out)⟩⟩
           ·rw [if_neg c45] at H
            have c45b0 : ((t198.length : Int) == 8) = false := beq_eq_false_iff_ne.mpr c45
            try rw [← HLt198.out] at c45b0
            have c45b1 : ((t198.length : Int) != 8) = true := bne_iff_ne.mpr c45
            try rw [← HLt198.out] at c45b1
            (first | rw [c45b0] | (simp only [i64_w, i32_w]; rw [c45b0]) | skip)
            have H' := Aside0.mk H
            clear H
            obtain ⟨Ao50, co50, eo50⟩ := Kd.S_slice HO202.out
            subst eo50
            go_wp2
            repeat (go_quiet (fail); try go_wp2)
            go_meet
            case rel => exact ⟨_, (true), (by first | rfl | (simp; done) | (simp [*]; done)), H', ⟨by have := HJ4.out; have := HJ14.out; have := HK3.out; first | omega | exact Nat.le_refl _⟩, ⟨by (with_reducible repeat (first | apply Kd.R_alloc | apply Kd.R_drewN | apply Kd.R_drew)); exact HO_9.out⟩, ⟨by repeat (first | (with_reducible first | exact HB.out | apply below_alloc | apply pw_below_drewN | apply below_drew1) | exact HB.out)⟩⟩
          case rest =>
           clear HC33
           try clear c1
           try clear p1
           try clear q1
           try clear hx1
           try clear c2
           try clear p2
           try clear c3
           try clear c4
           try clear p6
           try clear c7
           try clear c8
           try clear c8b0
           try clear c8b1
           try clear c10
           try clear c10b0
           try clear c10b1
           try clear c14
           try clear c17
           try clear p18
           try clear q18
           try clear hx18
           try clear c19
           try clear c22
           try clear c22b0
           try clear c23
           try clear c23b0
           try clear c24
           try clear c24b0
           try clear c24b1
           try clear c25
           try clear c45
           try clear c45b0
           try clear c45b1
           try clear hx186_0
           try clear hx186_1
           try clear hx186_2
           try clear hx187_0
           try clear hx187_1
           try clear hx187_2
           try clear p186
           try clear p187
           try clear p2
           try clear q186
           try clear q187
           obtain ⟨kq, x97_32, rfl, HA, HJ32, HO_9, HB⟩ := hcut
           cases kq with
           | zero => exact absurd HA.out (by simp [laws_FnRolesDomains.j3])
           | succ kj32 =>
            have H := HA.out
            clear HA
            simp only [laws_FnRolesDomains.j3] at H
            by_cases c51 : x97_32 = true
            ·subst c51
             have H1 : (some false) = some r := by rw [if_pos rfl] at H; exact H
             clear H
             have H := H1
             clear H1
             obtain rfl := Option.some.inj H
             go_wp2
             repeat (go_quiet (fail); try go_wp2)
             go_ret
             exact ⟨by first | rfl | (simp [errW_none, errW_some] <;> rfl) | (simp [*, errW_none, errW_some] <;> rfl), by repeat (first | (with_reducible first | exact HB.out | apply below_alloc | apply pw_below_drewN | apply below_drew1) | exact HB.out)⟩
            ·replace c51 := Bool.eq_false_iff.mpr c51
             subst c51
             have H1 : ((laws_added.f kj32 l0).bind fun t216 => ((laws_question.f kj32 20 true t216 5 a1 (⟨#[]⟩ : ByteArray) (⟨#[]⟩ : ByteArray)).bind fun bt219 => (laws_FnRolesDomains.l1 kj32 a1 a3 x9_3 bt219.2.2.2 false false 0 bt219.1 bt219.2.1 bt219.2.2.1))) = some r := by rw [if_neg (show ¬ (false = true) by decide)] at H; exact H
             clear H
             have H := H1
             clear H1
             replace H := Option.bind_eq_some_iff.mp H
             obtain ⟨t216, A520, H⟩ := H
             replace H : ((laws_question.f kj32 20 true t216 5 a1 (⟨#[]⟩ : ByteArray) (⟨#[]⟩ : ByteArray)).bind fun bt219 => (laws_FnRolesDomains.l1 kj32 a1 a3 x9_3 bt219.2.2.2 false false 0 bt219.1 bt219.2.1 bt219.2.2.1)) = some r := H
             have A52 := Aside0.mk A520
             clear A520
             replace H := Option.bind_eq_some_iff.mp H
             obtain ⟨⟨t219, t220, t221, t224⟩, A530, H⟩ := H
             replace H : (laws_FnRolesDomains.l1 kj32 a1 a3 x9_3 t224 false false 0 t219 t220 t221) = some r := H
             have A53 := Aside0.mk A530
             clear A530
             have H' := Aside0.mk H
             clear H
             go_wp2_with (first | (go_at_call 14; (with_reducible refine (laws_added.calls kj32 _ _ l0 t216 _ ?side1 ?side2 A52.out).mono ?_); (case side1 => repeat (first | exact (Kd.C_below HR0.out HB.out) | (with_reducible refine Kd.C_alloc ?_ _) | (with_reducible refine Kd.C_drewN ?_ _) | (with_reducible refine Kd.C_drew ?_))); (case side2 => exact HC0.out); rintro e w54 ⟨v217, rfl, ho0, hb⟩; have n0_ := Aside0.mk (Kd.R_below (by (with_reducible repeat (first | apply Kd.R_alloc | apply Kd.R_drewN | apply Kd.R_drew)); exact HO_9.out) hb); have n1_ := Aside0.mk (Kd.R_lower ho0 (below_size (by repeat (first | (with_reducible first | exact HB.out | apply below_alloc | apply pw_below_drewN | apply below_drew1) | exact HB.out)))); have n2_ := Aside0.mk (below_step (by repeat (first | (with_reducible first | exact HB.out | apply below_alloc | apply pw_below_drewN | apply below_drew1) | exact HB.out)) hb); clear HO_9; clear HB; have HO_9 := n0_; have HO218 := n1_; have HB := n2_; clear n0_ n1_ n2_; (try clear hb); (try clear hb2); (try clear hk); (try clear hi); (try clear ho0); obtain ⟨Ao55, co55, eo55⟩ := Kd.R_slice HO218.out; subst eo55) | (go_at_call 17; (with_reducible refine (laws_question.calls kj32 20 true _ _ t216 5 a1 (⟨#[]⟩ : ByteArray) (⟨#[]⟩ : ByteArray) t219 t220 t221 t224 _ ?side1 ?side2 A53.out).mono ?_); (case side1 => repeat (first | exact (Kd.R_reads' HO218.out).2.2 | (with_reducible refine Kd.C_alloc ?_ _) | (with_reducible refine Kd.C_drewN ?_ _) | (with_reducible refine Kd.C_drew ?_))); (case side2 => exact (Kd.R_reads' HO218.out).2.1); rintro e w56 ⟨v222, rfl, ⟨lq_t221, hq_, ho0⟩, hb⟩; have HQt221 := Aside0.mk hq_; clear hq_; have n0_ := Aside0.mk (Kd.R_below (by (with_reducible repeat (first | apply Kd.R_alloc | apply Kd.R_drewN | apply Kd.R_drew)); exact HO_9.out) hb); have n1_ := Aside0.mk (Kd.R_below (by (with_reducible repeat (first | apply Kd.R_alloc | apply Kd.R_drewN | apply Kd.R_drew)); exact HO218.out) hb); have n2_ := Aside0.mk (Kd.V_lower (Kd.V_mono (ok' := fun k_ => some k_ ≠ (.slice Ao39 x9_3.length co39 : Value).ownBlock ∧ some k_ ≠ (.slice Ao55 t216.length co55 : Value).ownBlock) ho0 (fun k_ hk_ => ⟨(Kd.fresh' (Kd.R_lt (by (with_reducible repeat (first | apply Kd.R_alloc | apply Kd.R_drewN | apply Kd.R_drew)); exact HO_9.out)) k_ hk_), (Kd.fresh' (Kd.R_lt (by (with_reducible repeat (first | apply Kd.R_alloc | apply Kd.R_drewN | apply Kd.R_drew)); exact HO218.out)) k_ hk_)⟩)) (below_size (by repeat (first | (with_reducible first | exact HB.out | apply below_alloc | apply pw_below_drewN | apply below_drew1) | exact HB.out)))); have n3_ := Aside0.mk (below_step (by repeat (first | (with_reducible first | exact HB.out | apply below_alloc | apply pw_below_drewN | apply below_drew1) | exact HB.out)) hb); clear HO_9; clear HO218; clear HB; have HO_9 := n0_; have HO218 := n1_; have HO223 := n2_; have HB := n3_; clear n0_ n1_ n2_ n3_; (try clear hb); (try clear hb2); (try clear hk); (try clear hi); (try clear ho0)) | ((with_reducible refine gate_dst (N := 15) rfl ?_); (try (refine gate_guard (by rfl) ?_; dsimp only)); refine box_event ?hg (N := 15) ?hd (cs := #[.int .i64 0, .bool false, .slice none 0 0]) (t := 40) ?hr ?_; (case hd => rfl); (case hg => rfl); (case hr => first | (go_simp; done) | (go_simp; rfl)); intro gb225 hg w57 hbox hb; have n0_ := Aside0.mk (Kd.R_below (by (with_reducible repeat (first | apply Kd.R_alloc | apply Kd.R_drewN | apply Kd.R_drew)); exact HO_9.out) hb); have n1_ := Aside0.mk (Kd.R_below (by (with_reducible repeat (first | apply Kd.R_alloc | apply Kd.R_drewN | apply Kd.R_drew)); exact HO218.out) hb); have n2_ := Aside0.mk (Kd.V_below (Kd.V_elderB (by (with_reducible repeat (first | apply Kd.V_alloc | apply Kd.V_drewN | apply Kd.V_drew)); exact HO223.out) gb225 (Nat.le_of_eq hg.symm)) hb); have n3_ := Aside0.mk (below_step (by repeat (first | (with_reducible first | exact HB.out | apply below_alloc | apply pw_below_drewN | apply below_drew1) | exact HB.out)) hb); have n4_ := Aside0.mk (hbox); have n5_ := Aside0.mk ((by rw [hg]; exact (below_size (by repeat (first | (with_reducible first | exact HB.out | apply below_alloc | apply pw_below_drewN | apply below_drew1) | exact HB.out))) : w.heap.size ≤ gb225)); have n6_ := Aside0.mk ((by rw [hg]; exact (below_size (by repeat (first | (with_reducible first | exact HB.out | apply below_alloc | apply pw_below_drewN | apply below_drew1) | exact HB.out))) : w.heap.size ≤ gb225)); clear HO_9; clear HO218; clear HO223; clear HB; have HO_9 := n0_; have HO218 := n1_; have HO223 := n2_; have HB := n3_; have BK225 := n4_; have GW225 := n5_; have GE225 := n6_; clear n0_ n1_ n2_ n3_ n4_ n5_ n6_; clear hb hbox hg; have hcz58_0 : w57.cell? ⟨gb225, 0, none⟩ = some (.int .i64 0) := (blk_cell BK225.out 0).trans rfl; have hcz58_1 : w57.cell? ⟨gb225, 1, none⟩ = some (.bool false) := (blk_cell BK225.out 1).trans rfl; have hcz58_2 : w57.cell? ⟨gb225, 2, none⟩ = some (.slice none 0 0) := (blk_cell BK225.out 2).trans rfl; have hfz58_0 := blk_frozen BK225.out 0; have hfz58_1 := blk_frozen BK225.out 1; have hfz58_2 := blk_frozen BK225.out 2; obtain ⟨Ao59, co59, eo59⟩ := Kd.V_slice HO223.out; subst eo59))
             repeat (go_quiet (first | (go_at_call 14; (with_reducible refine (laws_added.calls kj32 _ _ l0 t216 _ ?side1 ?side2 A52.out).mono ?_); (case side1 => repeat (first | exact (Kd.C_below HR0.out HB.out) | (with_reducible refine Kd.C_alloc ?_ _) | (with_reducible refine Kd.C_drewN ?_ _) | (with_reducible refine Kd.C_drew ?_))); (case side2 => exact HC0.out); rintro e w54 ⟨v217, rfl, ho0, hb⟩; have n0_ := Aside0.mk (Kd.R_below (by (with_reducible repeat (first | apply Kd.R_alloc | apply Kd.R_drewN | apply Kd.R_drew)); exact HO_9.out) hb); have n1_ := Aside0.mk (Kd.R_lower ho0 (below_size (by repeat (first | (with_reducible first | exact HB.out | apply below_alloc | apply pw_below_drewN | apply below_drew1) | exact HB.out)))); have n2_ := Aside0.mk (below_step (by repeat (first | (with_reducible first | exact HB.out | apply below_alloc | apply pw_below_drewN | apply below_drew1) | exact HB.out)) hb); clear HO_9; clear HB; have HO_9 := n0_; have HO218 := n1_; have HB := n2_; clear n0_ n1_ n2_; (try clear hb); (try clear hb2); (try clear hk); (try clear hi); (try clear ho0); obtain ⟨Ao55, co55, eo55⟩ := Kd.R_slice HO218.out; subst eo55) | (go_at_call 17; (with_reducible refine (laws_question.calls kj32 20 true _ _ t216 5 a1 (⟨#[]⟩ : ByteArray) (⟨#[]⟩ : ByteArray) t219 t220 t221 t224 _ ?side1 ?side2 A53.out).mono ?_); (case side1 => repeat (first | exact (Kd.R_reads' HO218.out).2.2 | (with_reducible refine Kd.C_alloc ?_ _) | (with_reducible refine Kd.C_drewN ?_ _) | (with_reducible refine Kd.C_drew ?_))); (case side2 => exact (Kd.R_reads' HO218.out).2.1); rintro e w56 ⟨v222, rfl, ⟨lq_t221, hq_, ho0⟩, hb⟩; have HQt221 := Aside0.mk hq_; clear hq_; have n0_ := Aside0.mk (Kd.R_below (by (with_reducible repeat (first | apply Kd.R_alloc | apply Kd.R_drewN | apply Kd.R_drew)); exact HO_9.out) hb); have n1_ := Aside0.mk (Kd.R_below (by (with_reducible repeat (first | apply Kd.R_alloc | apply Kd.R_drewN | apply Kd.R_drew)); exact HO218.out) hb); have n2_ := Aside0.mk (Kd.V_lower (Kd.V_mono (ok' := fun k_ => some k_ ≠ (.slice Ao39 x9_3.length co39 : Value).ownBlock ∧ some k_ ≠ (.slice Ao55 t216.length co55 : Value).ownBlock) ho0 (fun k_ hk_ => ⟨(Kd.fresh' (Kd.R_lt (by (with_reducible repeat (first | apply Kd.R_alloc | apply Kd.R_drewN | apply Kd.R_drew)); exact HO_9.out)) k_ hk_), (Kd.fresh' (Kd.R_lt (by (with_reducible repeat (first | apply Kd.R_alloc | apply Kd.R_drewN | apply Kd.R_drew)); exact HO218.out)) k_ hk_)⟩)) (below_size (by repeat (first | (with_reducible first | exact HB.out | apply below_alloc | apply pw_below_drewN | apply below_drew1) | exact HB.out)))); have n3_ := Aside0.mk (below_step (by repeat (first | (with_reducible first | exact HB.out | apply below_alloc | apply pw_below_drewN | apply below_drew1) | exact HB.out)) hb); clear HO_9; clear HO218; clear HB; have HO_9 := n0_; have HO218 := n1_; have HO223 := n2_; have HB := n3_; clear n0_ n1_ n2_ n3_; (try clear hb); (try clear hb2); (try clear hk); (try clear hi); (try clear ho0)) | ((with_reducible refine gate_dst (N := 15) rfl ?_); (try (refine gate_guard (by rfl) ?_; dsimp only)); refine box_event ?hg (N := 15) ?hd (cs := #[.int .i64 0, .bool false, .slice none 0 0]) (t := 40) ?hr ?_; (case hd => rfl); (case hg => rfl); (case hr => first | (go_simp; done) | (go_simp; rfl)); intro gb225 hg w57 hbox hb; have n0_ := Aside0.mk (Kd.R_below (by (with_reducible repeat (first | apply Kd.R_alloc | apply Kd.R_drewN | apply Kd.R_drew)); exact HO_9.out) hb); have n1_ := Aside0.mk (Kd.R_below (by (with_reducible repeat (first | apply Kd.R_alloc | apply Kd.R_drewN | apply Kd.R_drew)); exact HO218.out) hb); have n2_ := Aside0.mk (Kd.V_below (Kd.V_elderB (by (with_reducible repeat (first | apply Kd.V_alloc | apply Kd.V_drewN | apply Kd.V_drew)); exact HO223.out) gb225 (Nat.le_of_eq hg.symm)) hb); have n3_ := Aside0.mk (below_step (by repeat (first | (with_reducible first | exact HB.out | apply below_alloc | apply pw_below_drewN | apply below_drew1) | exact HB.out)) hb); have n4_ := Aside0.mk (hbox); have n5_ := Aside0.mk ((by rw [hg]; exact (below_size (by repeat (first | (with_reducible first | exact HB.out | apply below_alloc | apply pw_below_drewN | apply below_drew1) | exact HB.out))) : w.heap.size ≤ gb225)); have n6_ := Aside0.mk ((by rw [hg]; exact (below_size (by repeat (first | (with_reducible first | exact HB.out | apply below_alloc | apply pw_below_drewN | apply below_drew1) | exact HB.out))) : w.heap.size ≤ gb225)); clear HO_9; clear HO218; clear HO223; clear HB; have HO_9 := n0_; have HO218 := n1_; have HO223 := n2_; have HB := n3_; have BK225 := n4_; have GW225 := n5_; have GE225 := n6_; clear n0_ n1_ n2_ n3_ n4_ n5_ n6_; clear hb hbox hg; have hcz58_0 : w57.cell? ⟨gb225, 0, none⟩ = some (.int .i64 0) := (blk_cell BK225.out 0).trans rfl; have hcz58_1 : w57.cell? ⟨gb225, 1, none⟩ = some (.bool false) := (blk_cell BK225.out 1).trans rfl; have hcz58_2 : w57.cell? ⟨gb225, 2, none⟩ = some (.slice none 0 0) := (blk_cell BK225.out 2).trans rfl; have hfz58_0 := blk_frozen BK225.out 0; have hfz58_1 := blk_frozen BK225.out 1; have hfz58_2 := blk_frozen BK225.out 2; obtain ⟨Ao59, co59, eo59⟩ := Kd.V_slice HO223.out; subst eo59)); try go_wp2_with (first | (go_at_call 14; (with_reducible refine (laws_added.calls kj32 _ _ l0 t216 _ ?side1 ?side2 A52.out).mono ?_); (case side1 => repeat (first | exact (Kd.C_below HR0.out HB.out) | (with_reducible refine Kd.C_alloc ?_ _) | (with_reducible refine Kd.C_drewN ?_ _) | (with_reducible refine Kd.C_drew ?_))); (case side2 => exact HC0.out); rintro e w54 ⟨v217, rfl, ho0, hb⟩; have n0_ := Aside0.mk (Kd.R_below (by (with_reducible repeat (first | apply Kd.R_alloc | apply Kd.R_drewN | apply Kd.R_drew)); exact HO_9.out) hb); have n1_ := Aside0.mk (Kd.R_lower ho0 (below_size (by repeat (first | (with_reducible first | exact HB.out | apply below_alloc | apply pw_below_drewN | apply below_drew1) | exact HB.out)))); have n2_ := Aside0.mk (below_step (by repeat (first | (with_reducible first | exact HB.out | apply below_alloc | apply pw_below_drewN | apply below_drew1) | exact HB.out)) hb); clear HO_9; clear HB; have HO_9 := n0_; have HO218 := n1_; have HB := n2_; clear n0_ n1_ n2_; (try clear hb); (try clear hb2); (try clear hk); (try clear hi); (try clear ho0); obtain ⟨Ao55, co55, eo55⟩ := Kd.R_slice HO218.out; subst eo55) | (go_at_call 17; (with_reducible refine (laws_question.calls kj32 20 true _ _ t216 5 a1 (⟨#[]⟩ : ByteArray) (⟨#[]⟩ : ByteArray) t219 t220 t221 t224 _ ?side1 ?side2 A53.out).mono ?_); (case side1 => repeat (first | exact (Kd.R_reads' HO218.out).2.2 | (with_reducible refine Kd.C_alloc ?_ _) | (with_reducible refine Kd.C_drewN ?_ _) | (with_reducible refine Kd.C_drew ?_))); (case side2 => exact (Kd.R_reads' HO218.out).2.1); rintro e w56 ⟨v222, rfl, ⟨lq_t221, hq_, ho0⟩, hb⟩; have HQt221 := Aside0.mk hq_; clear hq_; have n0_ := Aside0.mk (Kd.R_below (by (with_reducible repeat (first | apply Kd.R_alloc | apply Kd.R_drewN | apply Kd.R_drew)); exact HO_9.out) hb); have n1_ := Aside0.mk (Kd.R_below (by (with_reducible repeat (first | apply Kd.R_alloc | apply Kd.R_drewN | apply Kd.R_drew)); exact HO218.out) hb); have n2_ := Aside0.mk (Kd.V_lower (Kd.V_mono (ok' := fun k_ => some k_ ≠ (.slice Ao39 x9_3.length co39 : Value).ownBlock ∧ some k_ ≠ (.slice Ao55 t216.length co55 : Value).ownBlock) ho0 (fun k_ hk_ => ⟨(Kd.fresh' (Kd.R_lt (by (with_reducible repeat (first | apply Kd.R_alloc | apply Kd.R_drewN | apply Kd.R_drew)); exact HO_9.out)) k_ hk_), (Kd.fresh' (Kd.R_lt (by (with_reducible repeat (first | apply Kd.R_alloc | apply Kd.R_drewN | apply Kd.R_drew)); exact HO218.out)) k_ hk_)⟩)) (below_size (by repeat (first | (with_reducible first | exact HB.out | apply below_alloc | apply pw_below_drewN | apply below_drew1) | exact HB.out)))); have n3_ := Aside0.mk (below_step (by repeat (first | (with_reducible first | exact HB.out | apply below_alloc | apply pw_below_drewN | apply below_drew1) | exact HB.out)) hb); clear HO_9; clear HO218; clear HB; have HO_9 := n0_; have HO218 := n1_; have HO223 := n2_; have HB := n3_; clear n0_ n1_ n2_ n3_; (try clear hb); (try clear hb2); (try clear hk); (try clear hi); (try clear ho0)) | ((with_reducible refine gate_dst (N := 15) rfl ?_); (try (refine gate_guard (by rfl) ?_; dsimp only)); refine box_event ?hg (N := 15) ?hd (cs := #[.int .i64 0, .bool false, .slice none 0 0]) (t := 40) ?hr ?_; (case hd => rfl); (case hg => rfl); (case hr => first | (go_simp; done) | (go_simp; rfl)); intro gb225 hg w57 hbox hb; have n0_ := Aside0.mk (Kd.R_below (by (with_reducible repeat (first | apply Kd.R_alloc | apply Kd.R_drewN | apply Kd.R_drew)); exact HO_9.out) hb); have n1_ := Aside0.mk (Kd.R_below (by (with_reducible repeat (first | apply Kd.R_alloc | apply Kd.R_drewN | apply Kd.R_drew)); exact HO218.out) hb); have n2_ := Aside0.mk (Kd.V_below (Kd.V_elderB (by (with_reducible repeat (first | apply Kd.V_alloc | apply Kd.V_drewN | apply Kd.V_drew)); exact HO223.out) gb225 (Nat.le_of_eq hg.symm)) hb); have n3_ := Aside0.mk (below_step (by repeat (first | (with_reducible first | exact HB.out | apply below_alloc | apply pw_below_drewN | apply below_drew1) | exact HB.out)) hb); have n4_ := Aside0.mk (hbox); have n5_ := Aside0.mk ((by rw [hg]; exact (below_size (by repeat (first | (with_reducible first | exact HB.out | apply below_alloc | apply pw_below_drewN | apply below_drew1) | exact HB.out))) : w.heap.size ≤ gb225)); have n6_ := Aside0.mk ((by rw [hg]; exact (below_size (by repeat (first | (with_reducible first | exact HB.out | apply below_alloc | apply pw_below_drewN | apply below_drew1) | exact HB.out))) : w.heap.size ≤ gb225)); clear HO_9; clear HO218; clear HO223; clear HB; have HO_9 := n0_; have HO218 := n1_; have HO223 := n2_; have HB := n3_; have BK225 := n4_; have GW225 := n5_; have GE225 := n6_; clear n0_ n1_ n2_ n3_ n4_ n5_ n6_; clear hb hbox hg; have hcz58_0 : w57.cell? ⟨gb225, 0, none⟩ = some (.int .i64 0) := (blk_cell BK225.out 0).trans rfl; have hcz58_1 : w57.cell? ⟨gb225, 1, none⟩ = some (.bool false) := (blk_cell BK225.out 1).trans rfl; have hcz58_2 : w57.cell? ⟨gb225, 2, none⟩ = some (.slice none 0 0) := (blk_cell BK225.out 2).trans rfl; have hfz58_0 := blk_frozen BK225.out 0; have hfz58_1 := blk_frozen BK225.out 1; have hfz58_2 := blk_frozen BK225.out 2; obtain ⟨Ao59, co59, eo59⟩ := Kd.V_slice HO223.out; subst eo59)))
             obtain ⟨kz_, HZ_⟩ := doms_blind HQt221.out (question5_few (by omega) (by omega) A53.out) (Kd.C_max (Kd.R_reads' HO_9.out).2.2) H'.out
             clear H'
             have H' := Aside0.mk HZ_
             have HJ32 := Aside0.mk (Nat.le_refl kz_)
             clear HZ_
             go_loopg [17, 18, 19] kz_ (fun kq v17 v18 v19 w' => ∃ (x17_5 : Bool) (x18_5 : Bool) (x19_5 : Int), v17 = .bool x17_5 ∧ v18 = .bool x18_5 ∧ v19 = .int .i64 x19_5 ∧ Aside0 (laws_FnRolesDomains.l1 kq a1 a3 x9_3 t224 x17_5 x18_5 x19_5 t219 t220 lq_t221 = some r) ∧ Aside0 (kq ≤ kz_) ∧ Aside0 (Kd.R k28 28 w' w.heap.size (fun _ => True) (.slice Ao39 x9_3.length co39) x9_3) ∧ Aside0 (Kd.V Kd.string 9 w' w.heap.size (fun k_ => some k_ ≠ ((.slice Ao39 x9_3.length co39) : Value).ownBlock ∧ k_ ≠ gb225) (.slice Ao59 lq_t221.length co59) lq_t221) ∧ Aside0 (w'.heap[gb225]? = some (.cells #[.int .i64 t219, .bool t220, (.slice Ao59 lq_t221.length co59)] 40 (0, 0))) ∧ Aside0 (Below w.heap.size w w'))
             case atStart => exact ⟨(false), (false), (0), (by first | rfl | (simp; done) | (simp [*]; done)), (by first | rfl | (simp; done) | (simp [*]; done)), (by first | rfl | (simp; done) | (simp [*]; done)), H', ⟨Nat.le_refl _⟩, ⟨by (with_reducible repeat (first | apply Kd.R_alloc | apply Kd.R_drewN | apply Kd.R_drew)); exact Kd.R_mono (Kd.R_far (p := ⟨gb225, 2, none⟩) (Kd.R_far (p := ⟨gb225, 1, none⟩) (Kd.R_far (p := ⟨gb225, 0, none⟩) (Kd.R_types HO_9.out BK225.out (by decide)) (fun _ hk => hk.2) (.int .i64 t219)) (fun _ hk => hk.2) (.bool t220)) (fun _ hk => hk.2) (.slice Ao59 lq_t221.length co59)) (fun _ hk => trivial)⟩, ⟨by (with_reducible repeat (first | apply Kd.V_alloc | apply Kd.V_drewN | apply Kd.V_drew)); exact Kd.V_mono (Kd.V_far (p := ⟨gb225, 2, none⟩) (Kd.V_far (p := ⟨gb225, 1, none⟩) (Kd.V_far (p := ⟨gb225, 0, none⟩) (Kd.V_mono HO223.out (fun k_ hk => (⟨hk, hk.2⟩ : _ ∧ k_ ≠ gb225))) (fun _ hk => hk.2) (.int .i64 t219)) (fun _ hk => hk.2) (.bool t220)) (fun _ hk => hk.2) (.slice Ao59 lq_t221.length co59)) (fun _ hk => ⟨hk.1.1.1, hk.1.2⟩)⟩, ⟨by (with_reducible repeat (first | refine blk_drewN ?_ _ | refine blk_drew ?_ | refine blk_alloc ?_ _)); refine blk_put (cs := #[.int .i64 t219, .bool t220, .slice none 0 0]) ?_ 2 _ rfl; (with_reducible repeat (first | refine blk_drewN ?_ _ | refine blk_drew ?_ | refine blk_alloc ?_ _)); refine blk_put (cs := #[.int .i64 t219, .bool false, .slice none 0 0]) ?_ 1 _ rfl; (with_reducible repeat (first | refine blk_drewN ?_ _ | refine blk_drew ?_ | refine blk_alloc ?_ _)); refine blk_put (cs := #[.int .i64 0, .bool false, .slice none 0 0]) ?_ 0 _ rfl; (with_reducible repeat (first | refine blk_drewN ?_ _ | refine blk_drew ?_ | refine blk_alloc ?_ _)); exact BK225.out⟩, ⟨by repeat (first | (with_reducible first | exact HB.out | apply below_alloc | apply pw_below_drewN | apply below_drew1 | refine below_set ?_ GE225.out) | exact HB.out)⟩⟩
             case round =>
              clear H'
              try clear c1
              try clear p1
              try clear q1
              try clear hx1
              try clear c2
              try clear p2
              try clear c3
              try clear c4
              try clear c5
              try clear p6
              try clear c7
              try clear c8
              try clear c8b0
              try clear c8b1
              try clear c10
              try clear c10b0
              try clear c10b1
              try clear c14
              try clear c17
              try clear p18
              try clear q18
              try clear hx18
              try clear c19
              try clear c22
              try clear c22b0
              try clear c23
              try clear c23b0
              try clear c24
              try clear c24b0
              try clear c24b1
              try clear c25
              try clear c45
              try clear c45b0
              try clear c45b1
              try clear c51
              try clear hcz58_0
              try clear hcz58_1
              try clear hcz58_2
              try clear hfz58_0
              try clear hfz58_1
              try clear hfz58_2
              try clear hx186_0
              try clear hx186_1
              try clear hx186_2
              try clear hx187_0
              try clear hx187_1
              try clear hx187_2
              try clear p1
              try clear p18
              try clear p186
              try clear p187
              try clear p2
              try clear p6
              try clear q1
              try clear q18
              try clear q186
              try clear q187
              obtain ⟨x17_5, x18_5, x19_5, rfl, rfl, rfl, HA, HK5, HO_9, HO_226002, BK225, HB⟩ := hrel
              cases gk with
              | zero => exact absurd HA.out (by simp [laws_FnRolesDomains.l1])
              | succ k5 =>
               have H := HA.out
               clear HA
               simp only [laws_FnRolesDomains.l1] at H
               by_cases c60 : x19_5 < (x9_3.length : Int)
               ·rw [if_pos c60] at H
                have c60b0 : decide (x19_5 < (x9_3.length : Int)) = true := decide_eq_true c60
                clear c60
                by_cases c61 : x17_5 = true
                ·subst c61
                 have H1 : (if x18_5 = true then (laws_FnRolesDomains.l1 k5 a1 a3 x9_3 t224 true true (wrap64 (x19_5 + 1)) t219 t220 lq_t221) else (if 0 ≤ x19_5 then (laws_FnRolesDomains.l1 k5 a1 a3 x9_3 t224 true (((rd_T28 x9_3 x19_5).f1).toList == a1.toList) (wrap64 (x19_5 + 1)) t219 t220 lq_t221) else (none))) = some r := by rw [if_pos rfl] at H; exact H
                 clear H
                 have H := H1
                 clear H1
                 by_cases c62 : x18_5 = true
                 ·subst c62
                  have H1 : (laws_FnRolesDomains.l1 k5 a1 a3 x9_3 t224 true true (wrap64 (x19_5 + 1)) t219 t220 lq_t221) = some r := by rw [if_pos rfl] at H; exact H
                  clear H
                  have H := H1
                  clear H1
                  have H' := Aside0.mk H
                  clear H
                  go_wp2
                  repeat (go_quiet (fail); try go_wp2)
                  go_roundg k5
                  case measure => have := HJ4.out; have := HJ14.out; have := HK3.out; have := HJ32.out; have := HK5.out; omega
                  case rel => exact ⟨(true), (true), (wrap64 (x19_5 + 1)), (by first | rfl | (simp; done) | (simp [*]; done)), (by first | rfl | (simp; done) | (simp [*]; done)), (by first | rfl | (simp; done) | (simp [*]; done)), H', ⟨by have := HJ4.out; have := HJ14.out; have := HK3.out; have := HJ32.out; have := HK5.out; omega⟩, ⟨by (with_reducible repeat (first | apply Kd.R_alloc | apply Kd.R_drewN | apply Kd.R_drew)); exact HO_9.out⟩, ⟨by (with_reducible repeat (first | apply Kd.V_alloc | apply Kd.V_drewN | apply Kd.V_drew)); exact HO_226002.out⟩, ⟨by (with_reducible repeat (first | refine blk_drewN ?_ _ | refine blk_drew ?_ | refine blk_alloc ?_ _)); exact BK225.out⟩, ⟨by repeat (first | (with_reducible first | exact HB.out | apply below_alloc | apply pw_below_drewN | apply below_drew1 | refine below_set ?_ GE225.out) | exact HB.out)⟩⟩
                 ·replace c62 := Bool.eq_false_iff.mpr c62
                  subst c62
                  have H1 : (if 0 ≤ x19_5 then (laws_FnRolesDomains.l1 k5 a1 a3 x9_3 t224 true (((rd_T28 x9_3 x19_5).f1).toList == a1.toList) (wrap64 (x19_5 + 1)) t219 t220 lq_t221) else (none)) = some r := by rw [if_neg (show ¬ (false = true) by decide)] at H; exact H
                  clear H
                  have H := H1
                  clear H1
                  by_cases c63 : 0 ≤ x19_5
                  ·rw [if_pos c63] at H
                   have c63b0 : decide (0 ≤ x19_5) = true := decide_eq_true c63
                   clear c63
                   have H' := Aside0.mk H
                   clear H
                   have p226 : 0 ≤ (x19_5 : Int) := of_decide_eq_true (by first | (with_reducible assumption) | assumption)
                   have q226 : x19_5 < (x9_3.length : Int) := of_decide_eq_true (by first | (with_reducible assumption) | assumption)
                   obtain ⟨ad226, e226, hx226_0, hx226_1, hx226_2⟩ := at_T28 (Kd.R_reads' HO_9.out).2.2 x19_5 p226 q226
                   cases e226
                   replace p226 := eq_true p226
                   replace q226 := eq_true q226
                   go_wp2
                   repeat (go_quiet (fail); try go_wp2)
                   go_roundg k5
                   case measure => have := HJ4.out; have := HJ14.out; have := HK3.out; have := HJ32.out; have := HK5.out; omega
                   case rel => exact ⟨(true), ((((rd_T28 x9_3 x19_5).f1).toList == a1.toList)), (wrap64 (x19_5 + 1)), (by first | rfl | (simp; done) | (simp [*]; done)), (by first | rfl | (simp; done) | (simp [*]; done)), (by first | rfl | (simp; done) | (simp [*]; done)), H', ⟨by have := HJ4.out; have := HJ14.out; have := HK3.out; have := HJ32.out; have := HK5.out; omega⟩, ⟨by (with_reducible repeat (first | apply Kd.R_alloc | apply Kd.R_drewN | apply Kd.R_drew)); exact HO_9.out⟩, ⟨by (with_reducible repeat (first | apply Kd.V_alloc | apply Kd.V_drewN | apply Kd.V_drew)); exact HO_226002.out⟩, ⟨by (with_reducible repeat (first | refine blk_drewN ?_ _ | refine blk_drew ?_ | refine blk_alloc ?_ _)); exact BK225.out⟩, ⟨by repeat (first | (with_reducible first | exact HB.out | apply below_alloc | apply pw_below_drewN | apply below_drew1 | refine below_set ?_ GE225.out) | exact HB.out)⟩⟩
                  ·rw [if_neg c63] at H
                   exact absurd H (by simp)
                ·replace c61 := Bool.eq_false_iff.mpr c61
                 subst c61
                 have H1 : (if 0 ≤ x19_5 then (if x18_5 = true then (laws_FnRolesDomains.l1 k5 a1 a3 x9_3 t224 (((rd_T28 x9_3 x19_5).f0).toList == a1.toList) true (wrap64 (x19_5 + 1)) t219 t220 lq_t221) else (laws_FnRolesDomains.l1 k5 a1 a3 x9_3 t224 (((rd_T28 x9_3 x19_5).f0).toList == a1.toList) (((rd_T28 x9_3 x19_5).f1).toList == a1.toList) (wrap64 (x19_5 + 1)) t219 t220 lq_t221)) else (none)) = some r := by rw [if_neg (show ¬ (false = true) by decide)] at H; exact H
                 clear H
                 have H := H1
                 clear H1
                 by_cases c64 : 0 ≤ x19_5
                 ·rw [if_pos c64] at H
                  have c64b0 : decide (0 ≤ x19_5) = true := decide_eq_true c64
                  clear c64
                  by_cases c65 : x18_5 = true
                  ·subst c65
                   have H1 : (laws_FnRolesDomains.l1 k5 a1 a3 x9_3 t224 (((rd_T28 x9_3 x19_5).f0).toList == a1.toList) true (wrap64 (x19_5 + 1)) t219 t220 lq_t221) = some r := by rw [if_pos rfl] at H; exact H
                   clear H
                   have H := H1
                   clear H1
                   have H' := Aside0.mk H
                   clear H
                   have p227 : 0 ≤ (x19_5 : Int) := of_decide_eq_true (by first | (with_reducible assumption) | assumption)
                   have q227 : x19_5 < (x9_3.length : Int) := of_decide_eq_true (by first | (with_reducible assumption) | assumption)
                   obtain ⟨ad227, e227, hx227_0, hx227_1, hx227_2⟩ := at_T28 (Kd.R_reads' HO_9.out).2.2 x19_5 p227 q227
                   cases e227
                   replace p227 := eq_true p227
                   replace q227 := eq_true q227
                   go_wp2
                   repeat (go_quiet (fail); try go_wp2)
                   go_roundg k5
                   case measure => have := HJ4.out; have := HJ14.out; have := HK3.out; have := HJ32.out; have := HK5.out; omega
                   case rel => exact ⟨((((rd_T28 x9_3 x19_5).f0).toList == a1.toList)), (true), (wrap64 (x19_5 + 1)), (by first | rfl | (simp; done) | (simp [*]; done)), (by first | rfl | (simp; done) | (simp [*]; done)), (by first | rfl | (simp; done) | (simp [*]; done)), H', ⟨by have := HJ4.out; have := HJ14.out; have := HK3.out; have := HJ32.out; have := HK5.out; omega⟩, ⟨by (with_reducible repeat (first | apply Kd.R_alloc | apply Kd.R_drewN | apply Kd.R_drew)); exact HO_9.out⟩, ⟨by (with_reducible repeat (first | apply Kd.V_alloc | apply Kd.V_drewN | apply Kd.V_drew)); exact HO_226002.out⟩, ⟨by (with_reducible repeat (first | refine blk_drewN ?_ _ | refine blk_drew ?_ | refine blk_alloc ?_ _)); exact BK225.out⟩, ⟨by repeat (first | (with_reducible first | exact HB.out | apply below_alloc | apply pw_below_drewN | apply below_drew1 | refine below_set ?_ GE225.out) | exact HB.out)⟩⟩
                  ·replace c65 := Bool.eq_false_iff.mpr c65
                   subst c65
                   have H1 : (laws_FnRolesDomains.l1 k5 a1 a3 x9_3 t224 (((rd_T28 x9_3 x19_5).f0).toList == a1.toList) (((rd_T28 x9_3 x19_5).f1).toList == a1.toList) (wrap64 (x19_5 + 1)) t219 t220 lq_t221) = some r := by rw [if_neg (show ¬ (false = true) by decide)] at H; exact H
                   clear H
                   have H := H1
                   clear H1
                   have H' := Aside0.mk H
                   clear H
                   have p227 : 0 ≤ (x19_5 : Int) := of_decide_eq_true (by first | (with_reducible assumption) | assumption)
                   have q227 : x19_5 < (x9_3.length : Int) := of_decide_eq_true (by first | (with_reducible assumption) | assumption)
                   obtain ⟨ad227, e227, hx227_0, hx227_1, hx227_2⟩ := at_T28 (Kd.R_reads' HO_9.out).2.2 x19_5 p227 q227
                   cases e227
                   replace p227 := eq_true p227
                   replace q227 := eq_true q227
                   have p228 : 0 ≤ (x19_5 : Int) := of_decide_eq_true (by first | (with_reducible assumption) | assumption)
                   have q228 : x19_5 < (x9_3.length : Int) := of_decide_eq_true (by first | (with_reducible assumption) | assumption)
                   obtain ⟨ad228, e228, hx228_0, hx228_1, hx228_2⟩ := at_T28 (Kd.R_reads' HO_9.out).2.2 x19_5 p228 q228
                   obtain rfl : ad227 = ad228 := (by injection e228)
                   replace p228 := eq_true p228
                   replace q228 := eq_true q228
                   go_wp2
                   repeat (go_quiet (fail); try go_wp2)
                   go_roundg k5
                   case measure => have := HJ4.out; have := HJ14.out; have := HK3.out; have := HJ32.out; have := HK5.out; omega
                   case rel => exact ⟨((((rd_T28 x9_3 x19_5).f0).toList == a1.toList)), ((((rd_T28 x9_3 x19_5).f1).toList == a1.toList)), (wrap64 (x19_5 + 1)), (by first | rfl | (simp; done) | (simp [*]; done)), (by first | rfl | (simp; done) | (simp [*]; done)), (by first | rfl | (simp; done) | (simp [*]; done)), H', ⟨by have := HJ4.out; have := HJ14.out; have := HK3.out; have := HJ32.out; have := HK5.out; omega⟩, ⟨by (with_reducible repeat (first | apply Kd.R_alloc | apply Kd.R_drewN | apply Kd.R_drew)); exact HO_9.out⟩, ⟨by (with_reducible repeat (first | apply Kd.V_alloc | apply Kd.V_drewN | apply Kd.V_drew)); exact HO_226002.out⟩, ⟨by (with_reducible repeat (first | refine blk_drewN ?_ _ | refine blk_drew ?_ | refine blk_alloc ?_ _)); exact BK225.out⟩, ⟨by repeat (first | (with_reducible first | exact HB.out | apply below_alloc | apply pw_below_drewN | apply below_drew1 | refine below_set ?_ GE225.out) | exact HB.out)⟩⟩
                 ·rw [if_neg c64] at H
                  exact absurd H (by simp)
               ·rw [if_neg c60] at H
                have c60b0 : decide (x19_5 < (x9_3.length : Int)) = false := decide_eq_false c60
                clear c60
                by_cases c66 : t224 = true
                ·subst c66
                 have H1 : (if t219 = 0 then (if x18_5 = true then (if x17_5 = true then ((laws_has.f k5 lq_t221 a3).bind fun t229 => (if (t229 == x17_5) = true then ((laws_awakeRoles.f k5).bind fun t230 => (some t230)) else (some false))) else ((laws_awakeRoles.f k5).bind fun t231 => (some t231))) else ((laws_has.f k5 lq_t221 a3).bind fun t232 => (if (t232 == x17_5) = true then ((laws_awakeRoles.f k5).bind fun t233 => (some t233)) else (some false)))) else ((laws_awakeRoles.f k5).bind fun t234 => (some t234))) = some r := by rw [if_pos rfl] at H; exact H
                 clear H
                 have H := H1
                 clear H1
                 by_cases c67 : t219 = 0
                 ·rw [if_pos c67] at H
                  have c67b0 : (t219 == 0) = true := beq_iff_eq.mpr c67
                  have c67b1 : (t219 != 0) = false := bne_eq_false_iff_eq.mpr c67
                  clear c67
                  by_cases c68 : x18_5 = true
                  ·subst c68
                   have H1 : (if x17_5 = true then ((laws_has.f k5 lq_t221 a3).bind fun t229 => (if (t229 == x17_5) = true then ((laws_awakeRoles.f k5).bind fun t230 => (some t230)) else (some false))) else ((laws_awakeRoles.f k5).bind fun t231 => (some t231))) = some r := by rw [if_pos rfl] at H; exact H
                   clear H
                   have H := H1
                   clear H1
                   by_cases c69 : x17_5 = true
                   ·subst c69
                    have H1 : ((laws_has.f k5 lq_t221 a3).bind fun t229 => (if (t229 == true) = true then ((laws_awakeRoles.f k5).bind fun t230 => (some t230)) else (some false))) = some r := by rw [if_pos rfl] at H; exact H
                    clear H
                    have H := H1
                    clear H1
                    replace H := Option.bind_eq_some_iff.mp H
                    obtain ⟨t229, A700, H⟩ := H
                    replace H : (if (t229 == true) = true then ((laws_awakeRoles.f k5).bind fun t230 => (some t230)) else (some false)) = some r := H
                    have A70 := Aside0.mk A700
                    clear A700
                    by_cases c71 : (t229 == true) = true
                    ·rw [if_pos c71] at H
                     have c71b0 : (t229 == true) = true := c71
                     (try (have c71b1 : decide (t229 = true) = true := by simpa using c71))
                     (try (have c71b2 : (t229 == true) = true := by simpa using c71))
                     clear c71
                     replace H := Option.bind_eq_some_iff.mp H
                     obtain ⟨t230, A720, H⟩ := H
                     replace H : (some t230) = some r := H
                     have A72 := Aside0.mk A720
                     clear A720
                     obtain rfl := Option.some.inj H
                     have hcz73_0 : wr.cell? ⟨gb225, 0, none⟩ = some (.int .i64 t219) := (blk_cell BK225.out 0).trans rfl
                     have hcz73_1 : wr.cell? ⟨gb225, 1, none⟩ = some (.bool t220) := (blk_cell BK225.out 1).trans rfl
                     have hcz73_2 : wr.cell? ⟨gb225, 2, none⟩ = some (.slice Ao59 lq_t221.length co59) := (blk_cell BK225.out 2).trans rfl
                     have hfz73_0 := blk_frozen BK225.out 0
                     have hfz73_1 := blk_frozen BK225.out 1
                     have hfz73_2 := blk_frozen BK225.out 2
                     go_wp2_with (first | (go_at_call 18; (with_reducible refine (laws_has.calls k5 _ _ lq_t221 a3 t229 _ ?side1 ?side2 A70.out).mono ?_); (case side1 => repeat (first | exact (Kd.V_reads' HO_226002.out).2.2 | (with_reducible refine Kd.C_alloc ?_ _) | (with_reducible refine Kd.C_drewN ?_ _) | (with_reducible refine Kd.C_drew ?_))); (case side2 => exact (Kd.V_reads' HO_226002.out).2.1); rintro e w' ⟨rfl, ⟨nd, rfl⟩⟩; (try first | exact ⟨rfl, _, World.drewN_drewN _ _ _⟩ | exact ⟨rfl, _, Eq.trans (World.drewN_drewN _ _ _) (congrArg (World.drewN _) (Nat.add_assoc _ _ _))⟩)) | (go_at_call 12; (with_reducible refine (laws_awakeRoles.calls k5  t230 _ A72.out).mono ?_); rintro e w74 ⟨rfl, hb⟩; have n0_ := Aside0.mk (Kd.R_below (by (with_reducible repeat (first | apply Kd.R_alloc | apply Kd.R_drewN | apply Kd.R_drew)); exact HO_9.out) hb); have n1_ := Aside0.mk (Kd.V_below (by (with_reducible repeat (first | apply Kd.V_alloc | apply Kd.V_drewN | apply Kd.V_drew)); exact HO_226002.out) hb); have n2_ := Aside0.mk (blk_below (g := gb225) (o := .cells #[.int .i64 t219, .bool t220, .slice Ao59 lq_t221.length co59] 40 (0, 0)) (by (with_reducible repeat (first | refine blk_drewN ?_ _ | refine blk_drew ?_ | refine blk_alloc ?_ _)); exact BK225.out) hb); have n3_ := Aside0.mk (below_step (by repeat (first | (with_reducible first | exact HB.out | apply below_alloc | apply pw_below_drewN | apply below_drew1 | refine below_set ?_ GE225.out) | exact HB.out)) hb); clear HO_9; clear HO_226002; clear BK225; clear HB; have HO_9 := n0_; have HO_226002 := n1_; have BK225 := n2_; have HB := n3_; clear n0_ n1_ n2_ n3_; (try clear hb); (try clear hb2); (try clear hk); (try clear hi)))
                     repeat (go_quiet (first | (go_at_call 18; (with_reducible refine (laws_has.calls k5 _ _ lq_t221 a3 t229 _ ?side1 ?side2 A70.out).mono ?_); (case side1 => repeat (first | exact (Kd.V_reads' HO_226002.out).2.2 | (with_reducible refine Kd.C_alloc ?_ _) | (with_reducible refine Kd.C_drewN ?_ _) | (with_reducible refine Kd.C_drew ?_))); (case side2 => exact (Kd.V_reads' HO_226002.out).2.1); rintro e w' ⟨rfl, ⟨nd, rfl⟩⟩; (try first | exact ⟨rfl, _, World.drewN_drewN _ _ _⟩ | exact ⟨rfl, _, Eq.trans (World.drewN_drewN _ _ _) (congrArg (World.drewN _) (Nat.add_assoc _ _ _))⟩)) | (go_at_call 12; (with_reducible refine (laws_awakeRoles.calls k5  t230 _ A72.out).mono ?_); rintro e w74 ⟨rfl, hb⟩; have n0_ := Aside0.mk (Kd.R_below (by (with_reducible repeat (first | apply Kd.R_alloc | apply Kd.R_drewN | apply Kd.R_drew)); exact HO_9.out) hb); have n1_ := Aside0.mk (Kd.V_below (by (with_reducible repeat (first | apply Kd.V_alloc | apply Kd.V_drewN | apply Kd.V_drew)); exact HO_226002.out) hb); have n2_ := Aside0.mk (blk_below (g := gb225) (o := .cells #[.int .i64 t219, .bool t220, .slice Ao59 lq_t221.length co59] 40 (0, 0)) (by (with_reducible repeat (first | refine blk_drewN ?_ _ | refine blk_drew ?_ | refine blk_alloc ?_ _)); exact BK225.out) hb); have n3_ := Aside0.mk (below_step (by repeat (first | (with_reducible first | exact HB.out | apply below_alloc | apply pw_below_drewN | apply below_drew1 | refine below_set ?_ GE225.out) | exact HB.out)) hb); clear HO_9; clear HO_226002; clear BK225; clear HB; have HO_9 := n0_; have HO_226002 := n1_; have BK225 := n2_; have HB := n3_; clear n0_ n1_ n2_ n3_; (try clear hb); (try clear hb2); (try clear hk); (try clear hi))); try go_wp2_with (first | (go_at_call 18; (with_reducible refine (laws_has.calls k5 _ _ lq_t221 a3 t229 _ ?side1 ?side2 A70.out).mono ?_); (case side1 => repeat (first | exact (Kd.V_reads' HO_226002.out).2.2 | (with_reducible refine Kd.C_alloc ?_ _) | (with_reducible refine Kd.C_drewN ?_ _) | (with_reducible refine Kd.C_drew ?_))); (case side2 => exact (Kd.V_reads' HO_226002.out).2.1); rintro e w' ⟨rfl, ⟨nd, rfl⟩⟩; (try first | exact ⟨rfl, _, World.drewN_drewN _ _ _⟩ | exact ⟨rfl, _, Eq.trans (World.drewN_drewN _ _ _) (congrArg (World.drewN _) (Nat.add_assoc _ _ _))⟩)) | (go_at_call 12; (with_reducible refine (laws_awakeRoles.calls k5  t230 _ A72.out).mono ?_); rintro e w74 ⟨rfl, hb⟩; have n0_ := Aside0.mk (Kd.R_below (by (with_reducible repeat (first | apply Kd.R_alloc | apply Kd.R_drewN | apply Kd.R_drew)); exact HO_9.out) hb); have n1_ := Aside0.mk (Kd.V_below (by (with_reducible repeat (first | apply Kd.V_alloc | apply Kd.V_drewN | apply Kd.V_drew)); exact HO_226002.out) hb); have n2_ := Aside0.mk (blk_below (g := gb225) (o := .cells #[.int .i64 t219, .bool t220, .slice Ao59 lq_t221.length co59] 40 (0, 0)) (by (with_reducible repeat (first | refine blk_drewN ?_ _ | refine blk_drew ?_ | refine blk_alloc ?_ _)); exact BK225.out) hb); have n3_ := Aside0.mk (below_step (by repeat (first | (with_reducible first | exact HB.out | apply below_alloc | apply pw_below_drewN | apply below_drew1 | refine below_set ?_ GE225.out) | exact HB.out)) hb); clear HO_9; clear HO_226002; clear BK225; clear HB; have HO_9 := n0_; have HO_226002 := n1_; have BK225 := n2_; have HB := n3_; clear n0_ n1_ n2_ n3_; (try clear hb); (try clear hb2); (try clear hk); (try clear hi))))
                     go_ret
                     exact ⟨by first | rfl | (simp [errW_none, errW_some] <;> rfl) | (simp [*, errW_none, errW_some] <;> rfl), by repeat (first | (with_reducible first | exact HB.out | apply below_alloc | apply pw_below_drewN | apply below_drew1 | refine below_set ?_ GE225.out) | exact HB.out)⟩
                    ·rw [if_neg c71] at H
                     have c71b0 : (t229 == true) = false := by simpa using c71
                     (try (have c71b1 : decide (t229 = true) = false := by simpa using c71))
                     (try (have c71b2 : (t229 == true) = false := by simpa using c71))
                     (try (have c71b3 : ¬ (t229 = true) := by simpa using c71))
                     clear c71
                     obtain rfl := Option.some.inj H
                     have hcz75_0 : wr.cell? ⟨gb225, 0, none⟩ = some (.int .i64 t219) := (blk_cell BK225.out 0).trans rfl
                     have hcz75_1 : wr.cell? ⟨gb225, 1, none⟩ = some (.bool t220) := (blk_cell BK225.out 1).trans rfl
                     have hcz75_2 : wr.cell? ⟨gb225, 2, none⟩ = some (.slice Ao59 lq_t221.length co59) := (blk_cell BK225.out 2).trans rfl
                     have hfz75_0 := blk_frozen BK225.out 0
                     have hfz75_1 := blk_frozen BK225.out 1
                     have hfz75_2 := blk_frozen BK225.out 2
                     go_wp2_with (first | (go_at_call 18; (with_reducible refine (laws_has.calls k5 _ _ lq_t221 a3 t229 _ ?side1 ?side2 A70.out).mono ?_); (case side1 => repeat (first | exact (Kd.V_reads' HO_226002.out).2.2 | (with_reducible refine Kd.C_alloc ?_ _) | (with_reducible refine Kd.C_drewN ?_ _) | (with_reducible refine Kd.C_drew ?_))); (case side2 => exact (Kd.V_reads' HO_226002.out).2.1); rintro e w' ⟨rfl, ⟨nd, rfl⟩⟩; (try first | exact ⟨rfl, _, World.drewN_drewN _ _ _⟩ | exact ⟨rfl, _, Eq.trans (World.drewN_drewN _ _ _) (congrArg (World.drewN _) (Nat.add_assoc _ _ _))⟩)))
                     repeat (go_quiet (first | (go_at_call 18; (with_reducible refine (laws_has.calls k5 _ _ lq_t221 a3 t229 _ ?side1 ?side2 A70.out).mono ?_); (case side1 => repeat (first | exact (Kd.V_reads' HO_226002.out).2.2 | (with_reducible refine Kd.C_alloc ?_ _) | (with_reducible refine Kd.C_drewN ?_ _) | (with_reducible refine Kd.C_drew ?_))); (case side2 => exact (Kd.V_reads' HO_226002.out).2.1); rintro e w' ⟨rfl, ⟨nd, rfl⟩⟩; (try first | exact ⟨rfl, _, World.drewN_drewN _ _ _⟩ | exact ⟨rfl, _, Eq.trans (World.drewN_drewN _ _ _) (congrArg (World.drewN _) (Nat.add_assoc _ _ _))⟩))); try go_wp2_with (first | (go_at_call 18; (with_reducible refine (laws_has.calls k5 _ _ lq_t221 a3 t229 _ ?side1 ?side2 A70.out).mono ?_); (case side1 => repeat (first | exact (Kd.V_reads' HO_226002.out).2.2 | (with_reducible refine Kd.C_alloc ?_ _) | (with_reducible refine Kd.C_drewN ?_ _) | (with_reducible refine Kd.C_drew ?_))); (case side2 => exact (Kd.V_reads' HO_226002.out).2.1); rintro e w' ⟨rfl, ⟨nd, rfl⟩⟩; (try first | exact ⟨rfl, _, World.drewN_drewN _ _ _⟩ | exact ⟨rfl, _, Eq.trans (World.drewN_drewN _ _ _) (congrArg (World.drewN _) (Nat.add_assoc _ _ _))⟩))))
                     go_ret
                     exact ⟨by first | rfl | (simp [errW_none, errW_some] <;> rfl) | (simp [*, errW_none, errW_some] <;> rfl), by repeat (first | (with_reducible first | exact HB.out | apply below_alloc | apply pw_below_drewN | apply below_drew1 | refine below_set ?_ GE225.out) | exact HB.out)⟩
                   ·replace c69 := Bool.eq_false_iff.mpr c69
                    subst c69
                    have H1 : ((laws_awakeRoles.f k5).bind fun t231 => (some t231)) = some r := by rw [if_neg (show ¬ (false = true) by decide)] at H; exact H
                    clear H
                    have H := H1
                    clear H1
                    replace H := Option.bind_eq_some_iff.mp H
                    obtain ⟨t231, A760, H⟩ := H
                    replace H : (some t231) = some r := H
                    have A76 := Aside0.mk A760
                    clear A760
                    obtain rfl := Option.some.inj H
                    have hcz77_0 : wr.cell? ⟨gb225, 0, none⟩ = some (.int .i64 t219) := (blk_cell BK225.out 0).trans rfl
                    have hcz77_1 : wr.cell? ⟨gb225, 1, none⟩ = some (.bool t220) := (blk_cell BK225.out 1).trans rfl
                    have hcz77_2 : wr.cell? ⟨gb225, 2, none⟩ = some (.slice Ao59 lq_t221.length co59) := (blk_cell BK225.out 2).trans rfl
                    have hfz77_0 := blk_frozen BK225.out 0
                    have hfz77_1 := blk_frozen BK225.out 1
                    have hfz77_2 := blk_frozen BK225.out 2
                    go_wp2_with (first | (go_at_call 12; (with_reducible refine (laws_awakeRoles.calls k5  t231 _ A76.out).mono ?_); rintro e w78 ⟨rfl, hb⟩; have n0_ := Aside0.mk (Kd.R_below (by (with_reducible repeat (first | apply Kd.R_alloc | apply Kd.R_drewN | apply Kd.R_drew)); exact HO_9.out) hb); have n1_ := Aside0.mk (Kd.V_below (by (with_reducible repeat (first | apply Kd.V_alloc | apply Kd.V_drewN | apply Kd.V_drew)); exact HO_226002.out) hb); have n2_ := Aside0.mk (blk_below (g := gb225) (o := .cells #[.int .i64 t219, .bool t220, .slice Ao59 lq_t221.length co59] 40 (0, 0)) (by (with_reducible repeat (first | refine blk_drewN ?_ _ | refine blk_drew ?_ | refine blk_alloc ?_ _)); exact BK225.out) hb); have n3_ := Aside0.mk (below_step (by repeat (first | (with_reducible first | exact HB.out | apply below_alloc | apply pw_below_drewN | apply below_drew1 | refine below_set ?_ GE225.out) | exact HB.out)) hb); clear HO_9; clear HO_226002; clear BK225; clear HB; have HO_9 := n0_; have HO_226002 := n1_; have BK225 := n2_; have HB := n3_; clear n0_ n1_ n2_ n3_; (try clear hb); (try clear hb2); (try clear hk); (try clear hi)))
                    repeat (go_quiet (first | (go_at_call 12; (with_reducible refine (laws_awakeRoles.calls k5  t231 _ A76.out).mono ?_); rintro e w78 ⟨rfl, hb⟩; have n0_ := Aside0.mk (Kd.R_below (by (with_reducible repeat (first | apply Kd.R_alloc | apply Kd.R_drewN | apply Kd.R_drew)); exact HO_9.out) hb); have n1_ := Aside0.mk (Kd.V_below (by (with_reducible repeat (first | apply Kd.V_alloc | apply Kd.V_drewN | apply Kd.V_drew)); exact HO_226002.out) hb); have n2_ := Aside0.mk (blk_below (g := gb225) (o := .cells #[.int .i64 t219, .bool t220, .slice Ao59 lq_t221.length co59] 40 (0, 0)) (by (with_reducible repeat (first | refine blk_drewN ?_ _ | refine blk_drew ?_ | refine blk_alloc ?_ _)); exact BK225.out) hb); have n3_ := Aside0.mk (below_step (by repeat (first | (with_reducible first | exact HB.out | apply below_alloc | apply pw_below_drewN | apply below_drew1 | refine below_set ?_ GE225.out) | exact HB.out)) hb); clear HO_9; clear HO_226002; clear BK225; clear HB; have HO_9 := n0_; have HO_226002 := n1_; have BK225 := n2_; have HB := n3_; clear n0_ n1_ n2_ n3_; (try clear hb); (try clear hb2); (try clear hk); (try clear hi))); try go_wp2_with (first | (go_at_call 12; (with_reducible refine (laws_awakeRoles.calls k5  t231 _ A76.out).mono ?_); rintro e w78 ⟨rfl, hb⟩; have n0_ := Aside0.mk (Kd.R_below (by (with_reducible repeat (first | apply Kd.R_alloc | apply Kd.R_drewN | apply Kd.R_drew)); exact HO_9.out) hb); have n1_ := Aside0.mk (Kd.V_below (by (with_reducible repeat (first | apply Kd.V_alloc | apply Kd.V_drewN | apply Kd.V_drew)); exact HO_226002.out) hb); have n2_ := Aside0.mk (blk_below (g := gb225) (o := .cells #[.int .i64 t219, .bool t220, .slice Ao59 lq_t221.length co59] 40 (0, 0)) (by (with_reducible repeat (first | refine blk_drewN ?_ _ | refine blk_drew ?_ | refine blk_alloc ?_ _)); exact BK225.out) hb); have n3_ := Aside0.mk (below_step (by repeat (first | (with_reducible first | exact HB.out | apply below_alloc | apply pw_below_drewN | apply below_drew1 | refine below_set ?_ GE225.out) | exact HB.out)) hb); clear HO_9; clear HO_226002; clear BK225; clear HB; have HO_9 := n0_; have HO_226002 := n1_; have BK225 := n2_; have HB := n3_; clear n0_ n1_ n2_ n3_; (try clear hb); (try clear hb2); (try clear hk); (try clear hi))))
                    go_ret
                    exact ⟨by first | rfl | (simp [errW_none, errW_some] <;> rfl) | (simp [*, errW_none, errW_some] <;> rfl), by repeat (first | (with_reducible first | exact HB.out | apply below_alloc | apply pw_below_drewN | apply below_drew1 | refine below_set ?_ GE225.out) | exact HB.out)⟩
                  ·replace c68 := Bool.eq_false_iff.mpr c68
                   subst c68
                   have H1 : ((laws_has.f k5 lq_t221 a3).bind fun t232 => (if (t232 == x17_5) = true then ((laws_awakeRoles.f k5).bind fun t233 => (some t233)) else (some false))) = some r := by rw [if_neg (show ¬ (false = true) by decide)] at H; exact H
                   clear H
                   have H := H1
                   clear H1
                   replace H := Option.bind_eq_some_iff.mp H
                   obtain ⟨t232, A790, H⟩ := H
                   replace H : (if (t232 == x17_5) = true then ((laws_awakeRoles.f k5).bind fun t233 => (some t233)) else (some false)) = some r := H
                   have A79 := Aside0.mk A790
                   clear A790
                   by_cases c80 : (t232 == x17_5) = true
                   ·rw [if_pos c80] at H
                    have c80b0 : (t232 == x17_5) = true := c80
                    (try (have c80b1 : decide (t232 = x17_5) = true := by simpa using c80))
                    (try (have c80b2 : (t232 == x17_5) = true := by simpa using c80))
                    clear c80
                    replace H := Option.bind_eq_some_iff.mp H
                    obtain ⟨t233, A810, H⟩ := H
                    replace H : (some t233) = some r := H
                    have A81 := Aside0.mk A810
                    clear A810
                    obtain rfl := Option.some.inj H
                    have hcz82_0 : wr.cell? ⟨gb225, 0, none⟩ = some (.int .i64 t219) := (blk_cell BK225.out 0).trans rfl
                    have hcz82_1 : wr.cell? ⟨gb225, 1, none⟩ = some (.bool t220) := (blk_cell BK225.out 1).trans rfl
                    have hcz82_2 : wr.cell? ⟨gb225, 2, none⟩ = some (.slice Ao59 lq_t221.length co59) := (blk_cell BK225.out 2).trans rfl
                    have hfz82_0 := blk_frozen BK225.out 0
                    have hfz82_1 := blk_frozen BK225.out 1
                    have hfz82_2 := blk_frozen BK225.out 2
                    go_wp2_with (first | (go_at_call 18; (with_reducible refine (laws_has.calls k5 _ _ lq_t221 a3 t232 _ ?side1 ?side2 A79.out).mono ?_); (case side1 => repeat (first | exact (Kd.V_reads' HO_226002.out).2.2 | (with_reducible refine Kd.C_alloc ?_ _) | (with_reducible refine Kd.C_drewN ?_ _) | (with_reducible refine Kd.C_drew ?_))); (case side2 => exact (Kd.V_reads' HO_226002.out).2.1); rintro e w' ⟨rfl, ⟨nd, rfl⟩⟩; (try first | exact ⟨rfl, _, World.drewN_drewN _ _ _⟩ | exact ⟨rfl, _, Eq.trans (World.drewN_drewN _ _ _) (congrArg (World.drewN _) (Nat.add_assoc _ _ _))⟩)) | (go_at_call 12; (with_reducible refine (laws_awakeRoles.calls k5  t233 _ A81.out).mono ?_); rintro e w83 ⟨rfl, hb⟩; have n0_ := Aside0.mk (Kd.R_below (by (with_reducible repeat (first | apply Kd.R_alloc | apply Kd.R_drewN | apply Kd.R_drew)); exact HO_9.out) hb); have n1_ := Aside0.mk (Kd.V_below (by (with_reducible repeat (first | apply Kd.V_alloc | apply Kd.V_drewN | apply Kd.V_drew)); exact HO_226002.out) hb); have n2_ := Aside0.mk (blk_below (g := gb225) (o := .cells #[.int .i64 t219, .bool t220, .slice Ao59 lq_t221.length co59] 40 (0, 0)) (by (with_reducible repeat (first | refine blk_drewN ?_ _ | refine blk_drew ?_ | refine blk_alloc ?_ _)); exact BK225.out) hb); have n3_ := Aside0.mk (below_step (by repeat (first | (with_reducible first | exact HB.out | apply below_alloc | apply pw_below_drewN | apply below_drew1 | refine below_set ?_ GE225.out) | exact HB.out)) hb); clear HO_9; clear HO_226002; clear BK225; clear HB; have HO_9 := n0_; have HO_226002 := n1_; have BK225 := n2_; have HB := n3_; clear n0_ n1_ n2_ n3_; (try clear hb); (try clear hb2); (try clear hk); (try clear hi)))
                    repeat (go_quiet (first | (go_at_call 18; (with_reducible refine (laws_has.calls k5 _ _ lq_t221 a3 t232 _ ?side1 ?side2 A79.out).mono ?_); (case side1 => repeat (first | exact (Kd.V_reads' HO_226002.out).2.2 | (with_reducible refine Kd.C_alloc ?_ _) | (with_reducible refine Kd.C_drewN ?_ _) | (with_reducible refine Kd.C_drew ?_))); (case side2 => exact (Kd.V_reads' HO_226002.out).2.1); rintro e w' ⟨rfl, ⟨nd, rfl⟩⟩; (try first | exact ⟨rfl, _, World.drewN_drewN _ _ _⟩ | exact ⟨rfl, _, Eq.trans (World.drewN_drewN _ _ _) (congrArg (World.drewN _) (Nat.add_assoc _ _ _))⟩)) | (go_at_call 12; (with_reducible refine (laws_awakeRoles.calls k5  t233 _ A81.out).mono ?_); rintro e w83 ⟨rfl, hb⟩; have n0_ := Aside0.mk (Kd.R_below (by (with_reducible repeat (first | apply Kd.R_alloc | apply Kd.R_drewN | apply Kd.R_drew)); exact HO_9.out) hb); have n1_ := Aside0.mk (Kd.V_below (by (with_reducible repeat (first | apply Kd.V_alloc | apply Kd.V_drewN | apply Kd.V_drew)); exact HO_226002.out) hb); have n2_ := Aside0.mk (blk_below (g := gb225) (o := .cells #[.int .i64 t219, .bool t220, .slice Ao59 lq_t221.length co59] 40 (0, 0)) (by (with_reducible repeat (first | refine blk_drewN ?_ _ | refine blk_drew ?_ | refine blk_alloc ?_ _)); exact BK225.out) hb); have n3_ := Aside0.mk (below_step (by repeat (first | (with_reducible first | exact HB.out | apply below_alloc | apply pw_below_drewN | apply below_drew1 | refine below_set ?_ GE225.out) | exact HB.out)) hb); clear HO_9; clear HO_226002; clear BK225; clear HB; have HO_9 := n0_; have HO_226002 := n1_; have BK225 := n2_; have HB := n3_; clear n0_ n1_ n2_ n3_; (try clear hb); (try clear hb2); (try clear hk); (try clear hi))); try go_wp2_with (first | (go_at_call 18; (with_reducible refine (laws_has.calls k5 _ _ lq_t221 a3 t232 _ ?side1 ?side2 A79.out).mono ?_); (case side1 => repeat (first | exact (Kd.V_reads' HO_226002.out).2.2 | (with_reducible refine Kd.C_alloc ?_ _) | (with_reducible refine Kd.C_drewN ?_ _) | (with_reducible refine Kd.C_drew ?_))); (case side2 => exact (Kd.V_reads' HO_226002.out).2.1); rintro e w' ⟨rfl, ⟨nd, rfl⟩⟩; (try first | exact ⟨rfl, _, World.drewN_drewN _ _ _⟩ | exact ⟨rfl, _, Eq.trans (World.drewN_drewN _ _ _) (congrArg (World.drewN _) (Nat.add_assoc _ _ _))⟩)) | (go_at_call 12; (with_reducible refine (laws_awakeRoles.calls k5  t233 _ A81.out).mono ?_); rintro e w83 ⟨rfl, hb⟩; have n0_ := Aside0.mk (Kd.R_below (by (with_reducible repeat (first | apply Kd.R_alloc | apply Kd.R_drewN | apply Kd.R_drew)); exact HO_9.out) hb); have n1_ := Aside0.mk (Kd.V_below (by (with_reducible repeat (first | apply Kd.V_alloc | apply Kd.V_drewN | apply Kd.V_drew)); exact HO_226002.out) hb); have n2_ := Aside0.mk (blk_below (g := gb225) (o := .cells #[.int .i64 t219, .bool t220, .slice Ao59 lq_t221.length co59] 40 (0, 0)) (by (with_reducible repeat (first | refine blk_drewN ?_ _ | refine blk_drew ?_ | refine blk_alloc ?_ _)); exact BK225.out) hb); have n3_ := Aside0.mk (below_step (by repeat (first | (with_reducible first | exact HB.out | apply below_alloc | apply pw_below_drewN | apply below_drew1 | refine below_set ?_ GE225.out) | exact HB.out)) hb); clear HO_9; clear HO_226002; clear BK225; clear HB; have HO_9 := n0_; have HO_226002 := n1_; have BK225 := n2_; have HB := n3_; clear n0_ n1_ n2_ n3_; (try clear hb); (try clear hb2); (try clear hk); (try clear hi))))
                    go_ret
                    exact ⟨by first | rfl | (simp [errW_none, errW_some] <;> rfl) | (simp [*, errW_none, errW_some] <;> rfl), by repeat (first | (with_reducible first | exact HB.out | apply below_alloc | apply pw_below_drewN | apply below_drew1 | refine below_set ?_ GE225.out) | exact HB.out)⟩
                   ·rw [if_neg c80] at H
                    have c80b0 : (t232 == x17_5) = false := by simpa using c80
                    (try (have c80b1 : decide (t232 = x17_5) = false := by simpa using c80))
                    (try (have c80b2 : (t232 == x17_5) = false := by simpa using c80))
                    (try (have c80b3 : ¬ (t232 = x17_5) := by simpa using c80))
                    clear c80
                    obtain rfl := Option.some.inj H
                    have hcz84_0 : wr.cell? ⟨gb225, 0, none⟩ = some (.int .i64 t219) := (blk_cell BK225.out 0).trans rfl
                    have hcz84_1 : wr.cell? ⟨gb225, 1, none⟩ = some (.bool t220) := (blk_cell BK225.out 1).trans rfl
                    have hcz84_2 : wr.cell? ⟨gb225, 2, none⟩ = some (.slice Ao59 lq_t221.length co59) := (blk_cell BK225.out 2).trans rfl
                    have hfz84_0 := blk_frozen BK225.out 0
                    have hfz84_1 := blk_frozen BK225.out 1
                    have hfz84_2 := blk_frozen BK225.out 2
                    go_wp2_with (first | (go_at_call 18; (with_reducible refine (laws_has.calls k5 _ _ lq_t221 a3 t232 _ ?side1 ?side2 A79.out).mono ?_); (case side1 => repeat (first | exact (Kd.V_reads' HO_226002.out).2.2 | (with_reducible refine Kd.C_alloc ?_ _) | (with_reducible refine Kd.C_drewN ?_ _) | (with_reducible refine Kd.C_drew ?_))); (case side2 => exact (Kd.V_reads' HO_226002.out).2.1); rintro e w' ⟨rfl, ⟨nd, rfl⟩⟩; (try first | exact ⟨rfl, _, World.drewN_drewN _ _ _⟩ | exact ⟨rfl, _, Eq.trans (World.drewN_drewN _ _ _) (congrArg (World.drewN _) (Nat.add_assoc _ _ _))⟩)))
                    repeat (go_quiet (first | (go_at_call 18; (with_reducible refine (laws_has.calls k5 _ _ lq_t221 a3 t232 _ ?side1 ?side2 A79.out).mono ?_); (case side1 => repeat (first | exact (Kd.V_reads' HO_226002.out).2.2 | (with_reducible refine Kd.C_alloc ?_ _) | (with_reducible refine Kd.C_drewN ?_ _) | (with_reducible refine Kd.C_drew ?_))); (case side2 => exact (Kd.V_reads' HO_226002.out).2.1); rintro e w' ⟨rfl, ⟨nd, rfl⟩⟩; (try first | exact ⟨rfl, _, World.drewN_drewN _ _ _⟩ | exact ⟨rfl, _, Eq.trans (World.drewN_drewN _ _ _) (congrArg (World.drewN _) (Nat.add_assoc _ _ _))⟩))); try go_wp2_with (first | (go_at_call 18; (with_reducible refine (laws_has.calls k5 _ _ lq_t221 a3 t232 _ ?side1 ?side2 A79.out).mono ?_); (case side1 => repeat (first | exact (Kd.V_reads' HO_226002.out).2.2 | (with_reducible refine Kd.C_alloc ?_ _) | (with_reducible refine Kd.C_drewN ?_ _) | (with_reducible refine Kd.C_drew ?_))); (case side2 => exact (Kd.V_reads' HO_226002.out).2.1); rintro e w' ⟨rfl, ⟨nd, rfl⟩⟩; (try first | exact ⟨rfl, _, World.drewN_drewN _ _ _⟩ | exact ⟨rfl, _, Eq.trans (World.drewN_drewN _ _ _) (congrArg (World.drewN _) (Nat.add_assoc _ _ _))⟩))))
                    go_ret
                    exact ⟨by first | rfl | (simp [errW_none, errW_some] <;> rfl) | (simp [*, errW_none, errW_some] <;> rfl), by repeat (first | (with_reducible first | exact HB.out | apply below_alloc | apply pw_below_drewN | apply below_drew1 | refine below_set ?_ GE225.out) | exact HB.out)⟩
                 ·rw [if_neg c67] at H
                  have c67b0 : (t219 == 0) = false := beq_eq_false_iff_ne.mpr c67
                  have c67b1 : (t219 != 0) = true := bne_iff_ne.mpr c67
                  replace H := Option.bind_eq_some_iff.mp H
                  obtain ⟨t234, A850, H⟩ := H
                  replace H : (some t234) = some r := H
                  have A85 := Aside0.mk A850
                  clear A850
                  obtain rfl := Option.some.inj H
                  have hcz86_0 : wr.cell? ⟨gb225, 0, none⟩ = some (.int .i64 t219) := (blk_cell BK225.out 0).trans rfl
                  have hcz86_1 : wr.cell? ⟨gb225, 1, none⟩ = some (.bool t220) := (blk_cell BK225.out 1).trans rfl
                  have hcz86_2 : wr.cell? ⟨gb225, 2, none⟩ = some (.slice Ao59 lq_t221.length co59) := (blk_cell BK225.out 2).trans rfl
                  have hfz86_0 := blk_frozen BK225.out 0
                  have hfz86_1 := blk_frozen BK225.out 1
                  have hfz86_2 := blk_frozen BK225.out 2
                  go_wp2_with (first | (go_at_call 12; (with_reducible refine (laws_awakeRoles.calls k5  t234 _ A85.out).mono ?_); rintro e w87 ⟨rfl, hb⟩; have n0_ := Aside0.mk (Kd.R_below (by (with_reducible repeat (first | apply Kd.R_alloc | apply Kd.R_drewN | apply Kd.R_drew)); exact HO_9.out) hb); have n1_ := Aside0.mk (Kd.V_below (by (with_reducible repeat (first | apply Kd.V_alloc | apply Kd.V_drewN | apply Kd.V_drew)); exact HO_226002.out) hb); have n2_ := Aside0.mk (blk_below (g := gb225) (o := .cells #[.int .i64 t219, .bool t220, .slice Ao59 lq_t221.length co59] 40 (0, 0)) (by (with_reducible repeat (first | refine blk_drewN ?_ _ | refine blk_drew ?_ | refine blk_alloc ?_ _)); exact BK225.out) hb); have n3_ := Aside0.mk (below_step (by repeat (first | (with_reducible first | exact HB.out | apply below_alloc | apply pw_below_drewN | apply below_drew1 | refine below_set ?_ GE225.out) | exact HB.out)) hb); clear HO_9; clear HO_226002; clear BK225; clear HB; have HO_9 := n0_; have HO_226002 := n1_; have BK225 := n2_; have HB := n3_; clear n0_ n1_ n2_ n3_; (try clear hb); (try clear hb2); (try clear hk); (try clear hi)))
                  repeat (go_quiet (first | (go_at_call 12; (with_reducible refine (laws_awakeRoles.calls k5  t234 _ A85.out).mono ?_); rintro e w87 ⟨rfl, hb⟩; have n0_ := Aside0.mk (Kd.R_below (by (with_reducible repeat (first | apply Kd.R_alloc | apply Kd.R_drewN | apply Kd.R_drew)); exact HO_9.out) hb); have n1_ := Aside0.mk (Kd.V_below (by (with_reducible repeat (first | apply Kd.V_alloc | apply Kd.V_drewN | apply Kd.V_drew)); exact HO_226002.out) hb); have n2_ := Aside0.mk (blk_below (g := gb225) (o := .cells #[.int .i64 t219, .bool t220, .slice Ao59 lq_t221.length co59] 40 (0, 0)) (by (with_reducible repeat (first | refine blk_drewN ?_ _ | refine blk_drew ?_ | refine blk_alloc ?_ _)); exact BK225.out) hb); have n3_ := Aside0.mk (below_step (by repeat (first | (with_reducible first | exact HB.out | apply below_alloc | apply pw_below_drewN | apply below_drew1 | refine below_set ?_ GE225.out) | exact HB.out)) hb); clear HO_9; clear HO_226002; clear BK225; clear HB; have HO_9 := n0_; have HO_226002 := n1_; have BK225 := n2_; have HB := n3_; clear n0_ n1_ n2_ n3_; (try clear hb); (try clear hb2); (try clear hk); (try clear hi))); try go_wp2_with (first | (go_at_call 12; (with_reducible refine (laws_awakeRoles.calls k5  t234 _ A85.out).mono ?_); rintro e w87 ⟨rfl, hb⟩; have n0_ := Aside0.mk (Kd.R_below (by (with_reducible repeat (first | apply Kd.R_alloc | apply Kd.R_drewN | apply Kd.R_drew)); exact HO_9.out) hb); have n1_ := Aside0.mk (Kd.V_below (by (with_reducible repeat (first | apply Kd.V_alloc | apply Kd.V_drewN | apply Kd.V_drew)); exact HO_226002.out) hb); have n2_ := Aside0.mk (blk_below (g := gb225) (o := .cells #[.int .i64 t219, .bool t220, .slice Ao59 lq_t221.length co59] 40 (0, 0)) (by (with_reducible repeat (first | refine blk_drewN ?_ _ | refine blk_drew ?_ | refine blk_alloc ?_ _)); exact BK225.out) hb); have n3_ := Aside0.mk (below_step (by repeat (first | (with_reducible first | exact HB.out | apply below_alloc | apply pw_below_drewN | apply below_drew1 | refine below_set ?_ GE225.out) | exact HB.out)) hb); clear HO_9; clear HO_226002; clear BK225; clear HB; have HO_9 := n0_; have HO_226002 := n1_; have BK225 := n2_; have HB := n3_; clear n0_ n1_ n2_ n3_; (try clear hb); (try clear hb2); (try clear hk); (try clear hi))))
                  go_ret
                  exact ⟨by first | rfl | (simp [errW_none, errW_some] <;> rfl) | (simp [*, errW_none, errW_some] <;> rfl), by repeat (first | (with_reducible first | exact HB.out | apply below_alloc | apply pw_below_drewN | apply below_drew1 | refine below_set ?_ GE225.out) | exact HB.out)⟩
                ·replace c66 := Bool.eq_false_iff.mpr c66
                 subst c66
                 have H1 : (some false) = some r := by rw [if_neg (show ¬ (false = true) by decide)] at H; exact H
                 clear H
                 have H := H1
                 clear H1
                 obtain rfl := Option.some.inj H
                 go_wp2
                 repeat (go_quiet (fail); try go_wp2)
                 go_ret
                 exact ⟨by first | rfl | (simp [errW_none, errW_some] <;> rfl) | (simp [*, errW_none, errW_some] <;> rfl), by repeat (first | (with_reducible first | exact HB.out | apply below_alloc | apply pw_below_drewN | apply below_drew1 | refine below_set ?_ GE225.out) | exact HB.out)⟩

end Go.Proofs.YtjijaciaioieaaaGreat.PFnRolesOrder
