/- The machine side of laws.FnRolesOrder: each function of this text answers what its Lean function answers (written for this claim by a program of this session over the kit's print; no condition beyond what each theorem says). -/
import Derived.Test.YtjijaciaioieaaaGreatOFnRolesOrderx0
import Derived.Test.YtjijaciaioieaaaGreatOFnRolesOrderx1
import Derived.Test.YtjijaciaioieaaaGreatOFnRolesOrderx2
import Derived.Test.YtjijaciaioieaaaGreatOFnRolesOrderx4
import Derived.Test.YtjijaciaioieaaaGreatOFnRolesOrderx90
namespace Go.Proofs.YtjijaciaioieaaaGreat.PFnRolesOrder
open Go.RowKit Go.Proofs.YtjijaciaioieaaaGreatW.PrintWords Go.Proofs.YtjijaciaioieaaaGreatW.PrintLast Go.Proofs.YtjijaciaioieaaaGreatW.PrintMore
attribute [local go_sem] max2_int min2_int max_two min_two max_three min_three max_four min_four   -- for this text's walks alone
set_option linter.unusedVariables false
set_option linter.unusedSimpArgs false

/-! ### laws_FnRolesOrder: function 6 -/
mutual
def laws_FnRolesOrder.j0 : Nat → Int → Bool → List (S28) → Int → ByteArray → ByteArray → ByteArray → Bool → Option (Bool)
 | 0, _, _, _, _, _, _, _, _ => none
 | k + 1, x0, x1, x2, x3, x4, x5, x6, x38 => if x38 = true then (some true) else (if x0 < 1 then (laws_FnRolesOrder.j1 k x0 x1 x2 x3 x4 x5 x6 true) else (if x0 > 20 then (laws_FnRolesOrder.j1 k x0 x1 x2 x3 x4 x5 x6 true) else (if (x2.length : Int) = 0 then (laws_FnRolesOrder.j1 k x0 x1 x2 x3 x4 x5 x6 true) else ((laws_links.f k x2 x1).bind fun t182 => (if t182 = true then ((laws_named.f k x4 x5 x6 x1).bind fun t183 => (laws_FnRolesOrder.j1 k x0 x1 x2 x3 x4 x5 x6 (!t183))) else (laws_FnRolesOrder.j1 k x0 x1 x2 x3 x4 x5 x6 true))))))
def laws_FnRolesOrder.j1 : Nat → Int → Bool → List (S28) → Int → ByteArray → ByteArray → ByteArray → Bool → Option (Bool)
 | 0, _, _, _, _, _, _, _, _ => none
 | k + 1, x0, x1, x2, x3, x4, x5, x6, x63 => if x63 = true then ((laws_awakeRoles.f k).bind fun t184 => (some t184)) else (if (IntKind.u64.wrap ((x2.length : Int))) = 0 then (none) else ((some (([] : List (S28)) : List (S28))).bind fun y185 => (if 0 ≤ (wrap64 (Int.tmod (IntKind.u64.wrap (x3)) (IntKind.u64.wrap ((x2.length : Int))))) then (if (wrap64 (Int.tmod (IntKind.u64.wrap (x3)) (IntKind.u64.wrap ((x2.length : Int))))) ≤ (x2.length : Int) then ((some (x2.drop ((wrap64 (Int.tmod (IntKind.u64.wrap (x3)) (IntKind.u64.wrap ((x2.length : Int))))) : Int).toNat : List (S28))).bind fun y188 => (if y185.length + y188.length < 2932031007402 then ((some (y185 ++ y188 : List (S28))).bind fun y192 => ((some (x2.take ((wrap64 (Int.tmod (IntKind.u64.wrap (x3)) (IntKind.u64.wrap ((x2.length : Int))))) : Int).toNat : List (S28))).bind fun y195 => (if y192.length + y195.length < 2932031007402 then ((laws_added.f k x2).bind fun t202 => ((laws_all.f x4 x5 x6).bind fun t205 => ((impl_Roles.f k x0 x1 0 0 t202 t205).bind fun bt208 => ((laws_added.f k (y192 ++ y195)).bind fun t214 => ((laws_all.f x4 x5 x6).bind fun t217 => ((impl_Roles.f k x0 x1 0 0 t214 t217).bind fun bt220 => (if (bt208.1.length : Int) = (x2.length : Int) then (if (bt220.1.length : Int) = (x2.length : Int) then (if (bt208.2.length : Int) = 8 then ((laws_sameTold.f k bt208.2 bt220.2).bind fun t226 => (if t226 = true then ((laws_awakeRoles.f k).bind fun t227 => (some t227)) else (some false))) else (some false)) else (some false)) else (some false)))))))) else (none)))) else (none))) else (none)) else (none))))
end
def laws_FnRolesOrder.f (k : Nat) (a0 : Int) (a1 : Bool) (l2 : List (S28)) (a3 : Int) (a4 : ByteArray) (a5 : ByteArray) (a6 : ByteArray) : Option (Bool) := (laws_zzFits25.f k l2).bind fun t181 => (if t181 = true then (if (a4.size : Int) > 2147483647 then (laws_FnRolesOrder.j0 k a0 a1 l2 a3 a4 a5 a6 true) else (if (a5.size : Int) > 2147483647 then (laws_FnRolesOrder.j0 k a0 a1 l2 a3 a4 a5 a6 true) else (laws_FnRolesOrder.j0 k a0 a1 l2 a3 a4 a5 a6 (decide ((a6.size : Int) > 2147483647))))) else (laws_FnRolesOrder.j0 k a0 a1 l2 a3 a4 a5 a6 true))
theorem laws_FnRolesOrder.mono_l : ∀ k, (∀ y0 y1 y2 y3 y4 y5 y6 y7, LeO (laws_FnRolesOrder.j0 k y0 y1 y2 y3 y4 y5 y6 y7) (laws_FnRolesOrder.j0 (k + 1) y0 y1 y2 y3 y4 y5 y6 y7)) ∧ (∀ y0 y1 y2 y3 y4 y5 y6 y7, LeO (laws_FnRolesOrder.j1 k y0 y1 y2 y3 y4 y5 y6 y7) (laws_FnRolesOrder.j1 (k + 1) y0 y1 y2 y3 y4 y5 y6 y7))
 | 0 => ⟨fun _ _ _ _ _ _ _ _ r h => by simp [laws_FnRolesOrder.j0] at h, fun _ _ _ _ _ _ _ _ r h => by simp [laws_FnRolesOrder.j1] at h⟩
 | k + 1 => by
  obtain ⟨ih0, ih1⟩ := laws_FnRolesOrder.mono_l k
  refine ⟨?_, ?_⟩
  ·intro y0 y1 y2 y3 y4 y5 y6 y7
   unfold laws_FnRolesOrder.j0
   repeat' first
   | (with_reducible exact ih0 _ _ _ _ _ _ _ _)
   | (with_reducible exact ih1 _ _ _ _ _ _ _ _)
   | (with_reducible exact impl_Roles.mono _ _ _ _ _ _ _)
   | (with_reducible exact laws_added.mono _ _)
   | (with_reducible exact laws_awakeRoles.mono _)
   | (with_reducible exact laws_links.mono _ _ _)
   | (with_reducible exact laws_named.mono _ _ _ _ _)
   | (with_reducible exact laws_sameTold.mono _ _ _)
   | (with_reducible exact laws_zzFits25.mono _ _)
   | (with_reducible exact LeO.refl _)
   | (with_reducible exact LeO.none _)
   | (with_reducible refine LeO.ite ?_ ?_)
   | (with_reducible refine LeO.bind ?_ (fun _ => ?_))
   | exact ih0 _ _ _ _ _ _ _ _
   | exact ih1 _ _ _ _ _ _ _ _
   | exact impl_Roles.mono _ _ _ _ _ _ _
   | exact laws_added.mono _ _
   | exact laws_awakeRoles.mono _
   | exact laws_links.mono _ _ _
   | exact laws_named.mono _ _ _ _ _
   | exact laws_sameTold.mono _ _ _
   | exact laws_zzFits25.mono _ _
   | exact LeO.none _
   | refine LeO.ite ?_ ?_
   | refine LeO.bind ?_ (fun _ => ?_)
  ·intro y0 y1 y2 y3 y4 y5 y6 y7
   unfold laws_FnRolesOrder.j1
   repeat' first
   | (with_reducible exact ih0 _ _ _ _ _ _ _ _)
   | (with_reducible exact ih1 _ _ _ _ _ _ _ _)
   | (with_reducible exact impl_Roles.mono _ _ _ _ _ _ _)
   | (with_reducible exact laws_added.mono _ _)
   | (with_reducible exact laws_awakeRoles.mono _)
   | (with_reducible exact laws_links.mono _ _ _)
   | (with_reducible exact laws_named.mono _ _ _ _ _)
   | (with_reducible exact laws_sameTold.mono _ _ _)
   | (with_reducible exact laws_zzFits25.mono _ _)
   | (with_reducible exact LeO.refl _)
   | (with_reducible exact LeO.none _)
   | (with_reducible refine LeO.ite ?_ ?_)
   | (with_reducible refine LeO.bind ?_ (fun _ => ?_))
   | exact ih0 _ _ _ _ _ _ _ _
   | exact ih1 _ _ _ _ _ _ _ _
   | exact impl_Roles.mono _ _ _ _ _ _ _
   | exact laws_added.mono _ _
   | exact laws_awakeRoles.mono _
   | exact laws_links.mono _ _ _
   | exact laws_named.mono _ _ _ _ _
   | exact laws_sameTold.mono _ _ _
   | exact laws_zzFits25.mono _ _
   | exact LeO.none _
   | refine LeO.ite ?_ ?_
   | refine LeO.bind ?_ (fun _ => ?_)
theorem laws_FnRolesOrder.mono : ∀ a0 a1 a2 a3 a4 a5 a6 k, LeO (laws_FnRolesOrder.f k a0 a1 a2 a3 a4 a5 a6) (laws_FnRolesOrder.f (k + 1) a0 a1 a2 a3 a4 a5 a6) := by
 intro a0 a1 a2 a3 a4 a5 a6 k
 obtain ⟨ih0, ih1⟩ := laws_FnRolesOrder.mono_l k
 unfold laws_FnRolesOrder.f
 repeat' first
   | (with_reducible exact ih0 _ _ _ _ _ _ _ _)
   | (with_reducible exact ih1 _ _ _ _ _ _ _ _)
   | (with_reducible exact impl_Roles.mono _ _ _ _ _ _ _)
   | (with_reducible exact laws_added.mono _ _)
   | (with_reducible exact laws_awakeRoles.mono _)
   | (with_reducible exact laws_links.mono _ _ _)
   | (with_reducible exact laws_named.mono _ _ _ _ _)
   | (with_reducible exact laws_sameTold.mono _ _ _)
   | (with_reducible exact laws_zzFits25.mono _ _)
   | (with_reducible exact LeO.refl _)
   | (with_reducible exact LeO.none _)
   | (with_reducible refine LeO.ite ?_ ?_)
   | (with_reducible refine LeO.bind ?_ (fun _ => ?_))
   | exact ih0 _ _ _ _ _ _ _ _
   | exact ih1 _ _ _ _ _ _ _ _
   | exact impl_Roles.mono _ _ _ _ _ _ _
   | exact laws_added.mono _ _
   | exact laws_awakeRoles.mono _
   | exact laws_links.mono _ _ _
   | exact laws_named.mono _ _ _ _ _
   | exact laws_sameTold.mono _ _ _
   | exact laws_zzFits25.mono _ _
   | exact LeO.none _
   | refine LeO.ite ?_ ?_
   | refine LeO.bind ?_ (fun _ => ?_)
def laws_FnRolesOrder.T6 : Bool × List (List Nat × List Nat) := (true, [([], []), ([], []), ([], []), ([1, 2], [1, 2]), ([0, 3], [0, 3]), ([], []), ([], []), ([5, 6], [5, 6]), ([4, 7, 4], [4, 7]), ([8, 8, 0, 1, 2, 3, 4, 5, 6, 7, 8], [8])])
def laws_FnRolesOrder.B6 : List Nat := [0, 0, 0, 6, 15, 0, 0, 96, 255, 511]
theorem laws_FnRolesOrder.tab6 : rtab .any (opsOf Tryz.f6 6) = laws_FnRolesOrder.T6 := by kernel_rfl
theorem laws_FnRolesOrder.bits6 : waitsOk laws_FnRolesOrder.T6.2 laws_FnRolesOrder.B6 = true := by kernel_rfl
set_option maxHeartbeats 8000000 in
set_option maxRecDepth 100000 in
theorem laws_FnRolesOrder.calls (k : Nat) (a0 : Int) (a1 : Bool) (A2 : Option Addr) (c2 : Nat) (l2 : List (S28)) (a3 : Int) (a4 : ByteArray) (a5 : ByteArray) (a6 : ByteArray) (r : Bool) (w : World) (hr2 : Kd.C k28 w A2 l2.length l2) (hc2 : l2.length ≤ c2) (h : laws_FnRolesOrder.f k a0 a1 l2 a3 a4 a5 a6 = some r) :
  Calls Tryz.prog 6 #[.int .i64 a0, .bool a1, .slice A2 l2.length c2, .int .i64 a3, .string a4, .string a5, .string a6] w fun e w' => e = .returned (.bool r) ∧ Below w.heap.size w w' := by
 have HR2 := Aside0.mk hr2
 have HC2 := Aside0.mk hc2
 clear hr2 hc2
 have HB := Aside0.mk (Below.refl w.heap.size w)
 have H : ((laws_zzFits25.f k l2).bind fun t181 => (if t181 = true then (if (a4.size : Int) > 2147483647 then (laws_FnRolesOrder.j0 k a0 a1 l2 a3 a4 a5 a6 true) else (if (a5.size : Int) > 2147483647 then (laws_FnRolesOrder.j0 k a0 a1 l2 a3 a4 a5 a6 true) else (laws_FnRolesOrder.j0 k a0 a1 l2 a3 a4 a5 a6 (decide ((a6.size : Int) > 2147483647))))) else (laws_FnRolesOrder.j0 k a0 a1 l2 a3 a4 a5 a6 true))) = some r := h
 clear h
 have HC8 := Aside0.mk H
 clear H
 go_enter Tryz.func6, Tryz.ntmps6
 go_upto_region 1 with (fail)
 go_cut [38] (fun v38 wc => ∃ (kq : Nat) (x38_7 : Bool), v38 = .bool x38_7 ∧ Aside0 (laws_FnRolesOrder.j0 kq a0 a1 l2 a3 a4 a5 a6 x38_7 = some r) ∧ Aside0 (kq ≤ k) ∧ Aside0 (Below w.heap.size w wc))
 case first =>
  have H := HC8.out
  clear HC8
  replace H := Option.bind_eq_some_iff.mp H
  obtain ⟨t181, A90, H⟩ := H
  replace H : (if t181 = true then (if (a4.size : Int) > 2147483647 then (laws_FnRolesOrder.j0 k a0 a1 l2 a3 a4 a5 a6 true) else (if (a5.size : Int) > 2147483647 then (laws_FnRolesOrder.j0 k a0 a1 l2 a3 a4 a5 a6 true) else (laws_FnRolesOrder.j0 k a0 a1 l2 a3 a4 a5 a6 (decide ((a6.size : Int) > 2147483647))))) else (laws_FnRolesOrder.j0 k a0 a1 l2 a3 a4 a5 a6 true)) = some r := H
  have A9 := Aside0.mk A90
  clear A90
  by_cases c10 : t181 = true
  ·subst c10
   have H1 : (if (a4.size : Int) > 2147483647 then (laws_FnRolesOrder.j0 k a0 a1 l2 a3 a4 a5 a6 true) else (if (a5.size : Int) > 2147483647 then (laws_FnRolesOrder.j0 k a0 a1 l2 a3 a4 a5 a6 true) else (laws_FnRolesOrder.j0 k a0 a1 l2 a3 a4 a5 a6 (decide ((a6.size : Int) > 2147483647))))) = some r := by rw [if_pos rfl] at H; exact H
   clear H
   have H := H1
   clear H1
   by_cases c11 : (a4.size : Int) > 2147483647
   ·rw [if_pos c11] at H
    have c11b0 : decide (2147483647 < (a4.size : Int)) = true := decide_eq_true c11
    have c11b1 : decide (2147483647 < a4.size) = true := decide_eq_true (by omega)
    clear c11
    (first | rw [c11b0] | (simp only [i64_w, i32_w]; rw [c11b0]) | skip)
    have H' := Aside0.mk H
    clear H
    go_wp2_with (first | ((with_reducible refine gate_callee (f := 9) rfl ?_); refine goesL_ (some 22) rfl rfl Tryz.func9 (by kernel_rfl) rfl #[.slice A2 l2.length c2] rfl (by (try simp only [List.map_toArray, List.map_cons, List.map_nil]); first | done | rfl | (simp only [List.length_drop, List.length_take]; rfl)) ?_; (with_reducible refine (laws_zzFits25.calls k _ _ l2 true _ ?side1 ?side2 A9.out).mono ?_); (case side1 => repeat (first | exact (Kd.C_below HR2.out HB.out) | (with_reducible refine Kd.C_alloc ?_ _) | (with_reducible refine Kd.C_drewN ?_ _) | (with_reducible refine Kd.C_drew ?_))); (case side2 => exact HC2.out); rintro e w12 ⟨rfl, hb⟩; refine ⟨_, rfl, ?_⟩; have n0_ := Aside0.mk (below_step (by repeat (first | (with_reducible first | exact HB.out | apply below_alloc | apply pw_below_drewN | apply below_drew1) | exact HB.out)) hb); clear HB; have HB := n0_; clear n0_; (try clear hb); (try clear hb2); (try clear hk); (try clear hi)))
    go_meet
    case rel => exact ⟨_, (true), (by first | rfl | (simp; done) | (simp [*]; done)), H', ⟨by first | omega | exact Nat.le_refl _⟩, ⟨by repeat (first | (with_reducible first | exact HB.out | apply below_alloc | apply pw_below_drewN | apply below_drew1) | exact HB.out)⟩⟩
   ·rw [if_neg c11] at H
    have c11b0 : decide (2147483647 < (a4.size : Int)) = false := decide_eq_false c11
    have c11b1 : decide (2147483647 < a4.size) = false := decide_eq_false (by omega)
    clear c11
    (first | rw [c11b0] | (simp only [i64_w, i32_w]; rw [c11b0]) | skip)
    by_cases c13 : (a5.size : Int) > 2147483647
    ·rw [if_pos c13] at H
     have c13b0 : decide (2147483647 < (a5.size : Int)) = true := decide_eq_true c13
     have c13b1 : decide (2147483647 < a5.size) = true := decide_eq_true (by omega)
     clear c13
     have H' := Aside0.mk H
     clear H
     go_wp2_with (first | ((with_reducible refine gate_callee (f := 9) rfl ?_); refine goesL_ (some 22) rfl rfl Tryz.func9 (by kernel_rfl) rfl #[.slice A2 l2.length c2] rfl (by (try simp only [List.map_toArray, List.map_cons, List.map_nil]); first | done | rfl | (simp only [List.length_drop, List.length_take]; rfl)) ?_; (with_reducible refine (laws_zzFits25.calls k _ _ l2 true _ ?side1 ?side2 A9.out).mono ?_); (case side1 => repeat (first | exact (Kd.C_below HR2.out HB.out) | (with_reducible refine Kd.C_alloc ?_ _) | (with_reducible refine Kd.C_drewN ?_ _) | (with_reducible refine Kd.C_drew ?_))); (case side2 => exact HC2.out); rintro e w14 ⟨rfl, hb⟩; refine ⟨_, rfl, ?_⟩; have n0_ := Aside0.mk (below_step (by repeat (first | (with_reducible first | exact HB.out | apply below_alloc | apply pw_below_drewN | apply below_drew1) | exact HB.out)) hb); clear HB; have HB := n0_; clear n0_; (try clear hb); (try clear hb2); (try clear hk); (try clear hi)))
     go_meet
     case rel => exact ⟨_, (true), (by first | rfl | (simp; done) | (simp [*]; done)), H', ⟨by first | omega | exact Nat.le_refl _⟩, ⟨by repeat (first | (with_reducible first | exact HB.out | apply below_alloc | apply pw_below_drewN | apply below_drew1) | exact HB.out)⟩⟩
    ·rw [if_neg c13] at H
     have c13b0 : decide (2147483647 < (a5.size : Int)) = false := decide_eq_false c13
     have c13b1 : decide (2147483647 < a5.size) = false := decide_eq_false (by omega)
     clear c13
     have H' := Aside0.mk H
     clear H
     go_wp2_with (first | ((with_reducible refine gate_callee (f := 9) rfl ?_); refine goesL_ (some 22) rfl rfl Tryz.func9 (by kernel_rfl) rfl #[.slice A2 l2.length c2] rfl (by (try simp only [List.map_toArray, List.map_cons, List.map_nil]); first | done | rfl | (simp only [List.length_drop, List.length_take]; rfl)) ?_; (with_reducible refine (laws_zzFits25.calls k _ _ l2 true _ ?side1 ?side2 A9.out).mono ?_); (case side1 => repeat (first | exact (Kd.C_below HR2.out HB.out) | (with_reducible refine Kd.C_alloc ?_ _) | (with_reducible refine Kd.C_drewN ?_ _) | (with_reducible refine Kd.C_drew ?_))); (case side2 => exact HC2.out); rintro e w15 ⟨rfl, hb⟩; refine ⟨_, rfl, ?_⟩; have n0_ := Aside0.mk (below_step (by repeat (first | (with_reducible first | exact HB.out | apply below_alloc | apply pw_below_drewN | apply below_drew1) | exact HB.out)) hb); clear HB; have HB := n0_; clear n0_; (try clear hb); (try clear hb2); (try clear hk); (try clear hi)))
     go_meet
     case rel => exact ⟨_, (decide ((a6.size : Int) > 2147483647)), (by first | rfl | (simp; done) | (simp [*]; done)), H', ⟨by first | omega | exact Nat.le_refl _⟩, ⟨by repeat (first | (with_reducible first | exact HB.out | apply below_alloc | apply pw_below_drewN | apply below_drew1) | exact HB.out)⟩⟩
  ·replace c10 := Bool.eq_false_iff.mpr c10
   subst c10
   have H1 : (laws_FnRolesOrder.j0 k a0 a1 l2 a3 a4 a5 a6 true) = some r := by rw [if_neg (show ¬ (false = true) by decide)] at H; exact H
   clear H
   have H := H1
   clear H1
   have H' := Aside0.mk H
   clear H
   go_wp2_with (first | ((with_reducible refine gate_callee (f := 9) rfl ?_); refine goesL_ (some 22) rfl rfl Tryz.func9 (by kernel_rfl) rfl #[.slice A2 l2.length c2] rfl (by (try simp only [List.map_toArray, List.map_cons, List.map_nil]); first | done | rfl | (simp only [List.length_drop, List.length_take]; rfl)) ?_; (with_reducible refine (laws_zzFits25.calls k _ _ l2 false _ ?side1 ?side2 A9.out).mono ?_); (case side1 => repeat (first | exact (Kd.C_below HR2.out HB.out) | (with_reducible refine Kd.C_alloc ?_ _) | (with_reducible refine Kd.C_drewN ?_ _) | (with_reducible refine Kd.C_drew ?_))); (case side2 => exact HC2.out); rintro e w16 ⟨rfl, hb⟩; refine ⟨_, rfl, ?_⟩; have n0_ := Aside0.mk (below_step (by repeat (first | (with_reducible first | exact HB.out | apply below_alloc | apply pw_below_drewN | apply below_drew1) | exact HB.out)) hb); clear HB; have HB := n0_; clear n0_; (try clear hb); (try clear hb2); (try clear hk); (try clear hi)))
   go_meet
   case rel => exact ⟨_, (true), (by first | rfl | (simp; done) | (simp [*]; done)), H', ⟨by first | omega | exact Nat.le_refl _⟩, ⟨by repeat (first | (with_reducible first | exact HB.out | apply below_alloc | apply pw_below_drewN | apply below_drew1) | exact HB.out)⟩⟩
 case rest =>
  clear HC8
  try clear c1
  try clear c2
  try clear p2
  try clear c6
  try clear c9
  try clear c10
  try clear c11
  try clear c11b0
  try clear c11b1
  try clear c13
  try clear c13b0
  try clear c13b1
  obtain ⟨kq, x38_7, rfl, HA, HJ7, HB⟩ := hcut
  cases kq with
  | zero => exact absurd HA.out (by simp [laws_FnRolesOrder.j0])
  | succ kj7 =>
   have H := HA.out
   clear HA
   simp only [laws_FnRolesOrder.j0] at H
   by_cases c17 : x38_7 = true
   ·subst c17
    have H1 : (some true) = some r := by rw [if_pos rfl] at H; exact H
    clear H
    have H := H1
    clear H1
    obtain rfl := Option.some.inj H
    go_wp2
    go_ret
    exact ⟨by first | rfl | (simp [errW_none, errW_some] <;> rfl) | (simp [*, errW_none, errW_some] <;> rfl), by repeat (first | (with_reducible first | exact HB.out | apply below_alloc | apply pw_below_drewN | apply below_drew1) | exact HB.out)⟩
   ·replace c17 := Bool.eq_false_iff.mpr c17
    subst c17
    have H1 : (if a0 < 1 then (laws_FnRolesOrder.j1 kj7 a0 a1 l2 a3 a4 a5 a6 true) else (if a0 > 20 then (laws_FnRolesOrder.j1 kj7 a0 a1 l2 a3 a4 a5 a6 true) else (if (l2.length : Int) = 0 then (laws_FnRolesOrder.j1 kj7 a0 a1 l2 a3 a4 a5 a6 true) else ((laws_links.f kj7 l2 a1).bind fun t182 => (if t182 = true then ((laws_named.f kj7 a4 a5 a6 a1).bind fun t183 => (laws_FnRolesOrder.j1 kj7 a0 a1 l2 a3 a4 a5 a6 (!t183))) else (laws_FnRolesOrder.j1 kj7 a0 a1 l2 a3 a4 a5 a6 true)))))) = some r := by rw [if_neg (show ¬ (false = true) by decide)] at H; exact H
    clear H
    have H := H1
    clear H1
    have HC18 := Aside0.mk H
    clear H
    go_upto_region 3 with (fail)
    go_cut [63] (fun v63 wc => ∃ (kq : Nat) (x63_17 : Bool), v63 = .bool x63_17 ∧ Aside0 (laws_FnRolesOrder.j1 kq a0 a1 l2 a3 a4 a5 a6 x63_17 = some r) ∧ Aside0 (kq ≤ kj7) ∧ Aside0 (Below w.heap.size w wc))
    case first =>
     have H := HC18.out
     clear HC18
     by_cases c19 : a0 < 1
     ·rw [if_pos c19] at H
      have c19b0 : decide (a0 < 1) = true := decide_eq_true c19
      clear c19
      (first | rw [c19b0] | (simp only [i64_w, i32_w]; rw [c19b0]) | skip)
      have H' := Aside0.mk H
      clear H
      go_wp2
      go_meet
      case rel => exact ⟨_, (true), (by first | rfl | (simp; done) | (simp [*]; done)), H', ⟨by have := HJ7.out; first | omega | exact Nat.le_refl _⟩, ⟨by repeat (first | (with_reducible first | exact HB.out | apply below_alloc | apply pw_below_drewN | apply below_drew1) | exact HB.out)⟩⟩
     ·rw [if_neg c19] at H
      have c19b0 : decide (a0 < 1) = false := decide_eq_false c19
      clear c19
      (first | rw [c19b0] | (simp only [i64_w, i32_w]; rw [c19b0]) | skip)
      by_cases c20 : a0 > 20
      ·rw [if_pos c20] at H
       have c20b0 : decide (20 < a0) = true := decide_eq_true c20
       clear c20
       have H' := Aside0.mk H
       clear H
       go_wp2
       go_meet
       case rel => exact ⟨_, (true), (by first | rfl | (simp; done) | (simp [*]; done)), H', ⟨by have := HJ7.out; first | omega | exact Nat.le_refl _⟩, ⟨by repeat (first | (with_reducible first | exact HB.out | apply below_alloc | apply pw_below_drewN | apply below_drew1) | exact HB.out)⟩⟩
      ·rw [if_neg c20] at H
       have c20b0 : decide (20 < a0) = false := decide_eq_false c20
       clear c20
       by_cases c21 : (l2.length : Int) = 0
       ·rw [if_pos c21] at H
        have c21b0 : ((l2.length : Int) == 0) = true := beq_iff_eq.mpr c21
        have c21b1 : ((l2.length : Int) != 0) = false := bne_eq_false_iff_eq.mpr c21
        clear c21
        have H' := Aside0.mk H
        clear H
        go_wp2
        go_meet
        case rel => exact ⟨_, (true), (by first | rfl | (simp; done) | (simp [*]; done)), H', ⟨by have := HJ7.out; first | omega | exact Nat.le_refl _⟩, ⟨by repeat (first | (with_reducible first | exact HB.out | apply below_alloc | apply pw_below_drewN | apply below_drew1) | exact HB.out)⟩⟩
       ·rw [if_neg c21] at H
        have c21b0 : ((l2.length : Int) == 0) = false := beq_eq_false_iff_ne.mpr c21
        have c21b1 : ((l2.length : Int) != 0) = true := bne_iff_ne.mpr c21
        have c21b2 : ¬ (l2 = []) := fun h_ => c21 (by rw [h_]; rfl)
        replace H := Option.bind_eq_some_iff.mp H
        obtain ⟨t182, A220, H⟩ := H
        replace H : (if t182 = true then ((laws_named.f kj7 a4 a5 a6 a1).bind fun t183 => (laws_FnRolesOrder.j1 kj7 a0 a1 l2 a3 a4 a5 a6 (!t183))) else (laws_FnRolesOrder.j1 kj7 a0 a1 l2 a3 a4 a5 a6 true)) = some r := H
        have A22 := Aside0.mk A220
        clear A220
        by_cases c23 : t182 = true
        ·subst c23
         have H1 : ((laws_named.f kj7 a4 a5 a6 a1).bind fun t183 => (laws_FnRolesOrder.j1 kj7 a0 a1 l2 a3 a4 a5 a6 (!t183))) = some r := by rw [if_pos rfl] at H; exact H
         clear H
         have H := H1
         clear H1
         replace H := Option.bind_eq_some_iff.mp H
         obtain ⟨t183, A240, H⟩ := H
         replace H : (laws_FnRolesOrder.j1 kj7 a0 a1 l2 a3 a4 a5 a6 (!t183)) = some r := H
         have A24 := Aside0.mk A240
         clear A240
         have H' := Aside0.mk H
         clear H
         go_wp2_with (first | (go_at_call 10; (with_reducible refine (laws_links.calls kj7 _ _ l2 a1 true _ ?side1 ?side2 A22.out).mono ?_); (case side1 => repeat (first | exact (Kd.C_below HR2.out HB.out) | (with_reducible refine Kd.C_alloc ?_ _) | (with_reducible refine Kd.C_drewN ?_ _) | (with_reducible refine Kd.C_drew ?_))); (case side2 => exact HC2.out); rintro e w' ⟨rfl, ⟨nd, rfl⟩⟩) | (go_at_call 11; (with_reducible refine (laws_named.calls kj7 a4 a5 a6 a1 t183 _ A24.out).mono ?_); rintro e w' ⟨rfl, ⟨nd, rfl⟩⟩))
         go_meet
         case rel => exact ⟨_, (!t183), (by first | rfl | (simp; done) | (simp [*]; done)), H', ⟨by have := HJ7.out; first | omega | exact Nat.le_refl _⟩, ⟨by repeat (first | (with_reducible first | exact HB.out | apply below_alloc | apply pw_below_drewN | apply below_drew1) | exact HB.out)⟩⟩
        ·replace c23 := Bool.eq_false_iff.mpr c23
         subst c23
         have H1 : (laws_FnRolesOrder.j1 kj7 a0 a1 l2 a3 a4 a5 a6 true) = some r := by rw [if_neg (show ¬ (false = true) by decide)] at H; exact H
         clear H
         have H := H1
         clear H1
         have H' := Aside0.mk H
         clear H
         go_wp2_with (first | (go_at_call 10; (with_reducible refine (laws_links.calls kj7 _ _ l2 a1 false _ ?side1 ?side2 A22.out).mono ?_); (case side1 => repeat (first | exact (Kd.C_below HR2.out HB.out) | (with_reducible refine Kd.C_alloc ?_ _) | (with_reducible refine Kd.C_drewN ?_ _) | (with_reducible refine Kd.C_drew ?_))); (case side2 => exact HC2.out); rintro e w' ⟨rfl, ⟨nd, rfl⟩⟩))
         go_meet
         case rel => exact ⟨_, (true), (by first | rfl | (simp; done) | (simp [*]; done)), H', ⟨by have := HJ7.out; first | omega | exact Nat.le_refl _⟩, ⟨by repeat (first | (with_reducible first | exact HB.out | apply below_alloc | apply pw_below_drewN | apply below_drew1) | exact HB.out)⟩⟩
    case rest =>
     clear HC18
     try clear c1
     try clear c2
     try clear p2
     try clear c6
     try clear c9
     try clear c10
     try clear c11
     try clear c11b0
     try clear c11b1
     try clear c13
     try clear c13b0
     try clear c13b1
     try clear c17
     try clear c19
     try clear c19b0
     try clear c20
     try clear c20b0
     try clear c21
     try clear c21b0
     try clear c21b1
     try clear c21b2
     try clear c23
     try clear p2
     obtain ⟨kq, x63_17, rfl, HA, HJ17, HB⟩ := hcut
     cases kq with
     | zero => exact absurd HA.out (by simp [laws_FnRolesOrder.j1])
     | succ kj17 =>
      have H := HA.out
      clear HA
      simp only [laws_FnRolesOrder.j1] at H
      by_cases c25 : x63_17 = true
      ·subst c25
       have H1 : ((laws_awakeRoles.f kj17).bind fun t184 => (some t184)) = some r := by rw [if_pos rfl] at H; exact H
       clear H
       have H := H1
       clear H1
       replace H := Option.bind_eq_some_iff.mp H
       obtain ⟨t184, A260, H⟩ := H
       replace H : (some t184) = some r := H
       have A26 := Aside0.mk A260
       clear A260
       obtain rfl := Option.some.inj H
       go_wp2_with (first | ((with_reducible refine gate_callee (f := 12) rfl ?_); refine goesL_ (some 64) rfl rfl Tryz.func12 (by kernel_rfl) rfl #[] rfl (by (try simp only [List.map_toArray, List.map_cons, List.map_nil]); first | done | rfl | (simp only [List.length_drop, List.length_take]; rfl)) ?_; (with_reducible refine (laws_awakeRoles.calls kj17  t184 _ A26.out).mono ?_); rintro e w27 ⟨rfl, hb⟩; refine ⟨_, rfl, ?_⟩; have n0_ := Aside0.mk (below_step (by repeat (first | (with_reducible first | exact HB.out | apply below_alloc | apply pw_below_drewN | apply below_drew1) | exact HB.out)) hb); clear HB; have HB := n0_; clear n0_; (try clear hb); (try clear hb2); (try clear hk); (try clear hi)))
       go_ret
       exact ⟨by first | rfl | (simp [errW_none, errW_some] <;> rfl) | (simp [*, errW_none, errW_some] <;> rfl), by repeat (first | (with_reducible first | exact HB.out | apply below_alloc | apply pw_below_drewN | apply below_drew1) | exact HB.out)⟩
      ·replace c25 := Bool.eq_false_iff.mpr c25
       subst c25
       have H1 : (if (IntKind.u64.wrap ((l2.length : Int))) = 0 then (none) else ((some (([] : List (S28)) : List (S28))).bind fun y185 => (if 0 ≤ (wrap64 (Int.tmod (IntKind.u64.wrap (a3)) (IntKind.u64.wrap ((l2.length : Int))))) then (if (wrap64 (Int.tmod (IntKind.u64.wrap (a3)) (IntKind.u64.wrap ((l2.length : Int))))) ≤ (l2.length : Int) then ((some (l2.drop ((wrap64 (Int.tmod (IntKind.u64.wrap (a3)) (IntKind.u64.wrap ((l2.length : Int))))) : Int).toNat : List (S28))).bind fun y188 => (if y185.length + y188.length < 2932031007402 then ((some (y185 ++ y188 : List (S28))).bind fun y192 => ((some (l2.take ((wrap64 (Int.tmod (IntKind.u64.wrap (a3)) (IntKind.u64.wrap ((l2.length : Int))))) : Int).toNat : List (S28))).bind fun y195 => (if y192.length + y195.length < 2932031007402 then ((laws_added.f kj17 l2).bind fun t202 => ((laws_all.f a4 a5 a6).bind fun t205 => ((impl_Roles.f kj17 a0 a1 0 0 t202 t205).bind fun bt208 => ((laws_added.f kj17 (y192 ++ y195)).bind fun t214 => ((laws_all.f a4 a5 a6).bind fun t217 => ((impl_Roles.f kj17 a0 a1 0 0 t214 t217).bind fun bt220 => (if (bt208.1.length : Int) = (l2.length : Int) then (if (bt220.1.length : Int) = (l2.length : Int) then (if (bt208.2.length : Int) = 8 then ((laws_sameTold.f kj17 bt208.2 bt220.2).bind fun t226 => (if t226 = true then ((laws_awakeRoles.f kj17).bind fun t227 => (some t227)) else (some false))) else (some false)) else (some false)) else (some false)))))))) else (none)))) else (none))) else (none)) else (none)))) = some r := by rw [if_neg (show ¬ (false = true) by decide)] at H; exact H
       clear H
       have H := H1
       clear H1
       by_cases c28 : (IntKind.u64.wrap ((l2.length : Int))) = 0
       ·rw [if_pos c28] at H
        exact absurd H (by simp)
       ·rw [if_neg c28] at H
        have c28b0 : ((IntKind.u64.wrap ((l2.length : Int))) == 0) = false := beq_eq_false_iff_ne.mpr c28
        have c28b1 : ((IntKind.u64.wrap ((l2.length : Int))) != 0) = true := bne_iff_ne.mpr c28
        obtain ⟨y185, hy185⟩ : ∃ y_ : List (S28), y_ = (([] : List (S28))) := ⟨_, rfl⟩
        replace H : (if 0 ≤ (wrap64 (Int.tmod (IntKind.u64.wrap (a3)) (IntKind.u64.wrap ((l2.length : Int))))) then (if (wrap64 (Int.tmod (IntKind.u64.wrap (a3)) (IntKind.u64.wrap ((l2.length : Int))))) ≤ (l2.length : Int) then ((some (l2.drop ((wrap64 (Int.tmod (IntKind.u64.wrap (a3)) (IntKind.u64.wrap ((l2.length : Int))))) : Int).toNat : List (S28))).bind fun y188 => (if y185.length + y188.length < 2932031007402 then ((some (y185 ++ y188 : List (S28))).bind fun y192 => ((some (l2.take ((wrap64 (Int.tmod (IntKind.u64.wrap (a3)) (IntKind.u64.wrap ((l2.length : Int))))) : Int).toNat : List (S28))).bind fun y195 => (if y192.length + y195.length < 2932031007402 then ((laws_added.f kj17 l2).bind fun t202 => ((laws_all.f a4 a5 a6).bind fun t205 => ((impl_Roles.f kj17 a0 a1 0 0 t202 t205).bind fun bt208 => ((laws_added.f kj17 (y192 ++ y195)).bind fun t214 => ((laws_all.f a4 a5 a6).bind fun t217 => ((impl_Roles.f kj17 a0 a1 0 0 t214 t217).bind fun bt220 => (if (bt208.1.length : Int) = (l2.length : Int) then (if (bt220.1.length : Int) = (l2.length : Int) then (if (bt208.2.length : Int) = 8 then ((laws_sameTold.f kj17 bt208.2 bt220.2).bind fun t226 => (if t226 = true then ((laws_awakeRoles.f kj17).bind fun t227 => (some t227)) else (some false))) else (some false)) else (some false)) else (some false)))))))) else (none)))) else (none))) else (none)) else (none)) = some r := by first | (rw [hy185]; with_reducible exact H) | (have H2_ := (Option.bind_some _ _).symm.trans H; rw [hy185]; with_reducible exact H2_) | (have H2_ := (Option.bind_some _ _).symm.trans H; with_reducible exact H2_) | with_reducible exact H | (rw [hy185]; exact H) | exact H
        have Ny185 := Aside0.mk hy185
        clear hy185
        obtain ⟨ji29, hji29⟩ : ∃ j_ : Int, (wrap64 (Int.tmod (IntKind.u64.wrap (a3)) (IntKind.u64.wrap ((l2.length : Int))))) = j_ := ⟨_, rfl⟩
        replace H : (if 0 ≤ (ji29) then (if (ji29) ≤ (l2.length : Int) then ((some (l2.drop ((ji29) : Int).toNat : List (S28))).bind fun y188 => (if y185.length + y188.length < 2932031007402 then ((some (y185 ++ y188 : List (S28))).bind fun y192 => ((some (l2.take ((ji29) : Int).toNat : List (S28))).bind fun y195 => (if y192.length + y195.length < 2932031007402 then ((laws_added.f kj17 l2).bind fun t202 => ((laws_all.f a4 a5 a6).bind fun t205 => ((impl_Roles.f kj17 a0 a1 0 0 t202 t205).bind fun bt208 => ((laws_added.f kj17 (y192 ++ y195)).bind fun t214 => ((laws_all.f a4 a5 a6).bind fun t217 => ((impl_Roles.f kj17 a0 a1 0 0 t214 t217).bind fun bt220 => (if (bt208.1.length : Int) = (l2.length : Int) then (if (bt220.1.length : Int) = (l2.length : Int) then (if (bt208.2.length : Int) = 8 then ((laws_sameTold.f kj17 bt208.2 bt220.2).bind fun t226 => (if t226 = true then ((laws_awakeRoles.f kj17).bind fun t227 => (some t227)) else (some false))) else (some false)) else (some false)) else (some false)))))))) else (none)))) else (none))) else (none)) else (none)) = some r := by first | (rw [hji29] at H; exact H) | (simp only [hji29] at H ⊢; exact H)
        have hji29w : (IntKind.i64.wrap (Int.tmod (IntKind.u64.wrap (a3)) (IntKind.u64.wrap ((l2.length : Int))))) = ji29 := (i64_w _).trans hji29
        by_cases c30 : 0 ≤ (ji29)
        ·rw [if_pos c30] at H
         have c30b0 := eq_true c30
         have c30b1 : decide (0 ≤ (ji29)) = true := decide_eq_true c30
         clear c30
         by_cases c31 : (ji29) ≤ (l2.length : Int)
         ·rw [if_pos c31] at H
          have c31b0 := eq_true c31
          have c31b1 : decide ((ji29) ≤ (l2.length : Int)) = true := decide_eq_true c31
          clear c31
          obtain ⟨y188, hy188⟩ : ∃ y_ : List (S28), y_ = (l2.drop ((ji29) : Int).toNat) := ⟨_, rfl⟩
          replace H : (if y185.length + y188.length < 2932031007402 then ((some (y185 ++ y188 : List (S28))).bind fun y192 => ((some (l2.take ((ji29) : Int).toNat : List (S28))).bind fun y195 => (if y192.length + y195.length < 2932031007402 then ((laws_added.f kj17 l2).bind fun t202 => ((laws_all.f a4 a5 a6).bind fun t205 => ((impl_Roles.f kj17 a0 a1 0 0 t202 t205).bind fun bt208 => ((laws_added.f kj17 (y192 ++ y195)).bind fun t214 => ((laws_all.f a4 a5 a6).bind fun t217 => ((impl_Roles.f kj17 a0 a1 0 0 t214 t217).bind fun bt220 => (if (bt208.1.length : Int) = (l2.length : Int) then (if (bt220.1.length : Int) = (l2.length : Int) then (if (bt208.2.length : Int) = 8 then ((laws_sameTold.f kj17 bt208.2 bt220.2).bind fun t226 => (if t226 = true then ((laws_awakeRoles.f kj17).bind fun t227 => (some t227)) else (some false))) else (some false)) else (some false)) else (some false)))))))) else (none)))) else (none)) = some r := by first | (rw [hy188]; with_reducible exact H) | (have H2_ := (Option.bind_some _ _).symm.trans H; rw [hy188]; with_reducible exact H2_) | (have H2_ := (Option.bind_some _ _).symm.trans H; with_reducible exact H2_) | with_reducible exact H | (rw [hy188]; exact H) | exact H
          have Ny188 := Aside0.mk hy188
          clear hy188
          by_cases c32 : y185.length + y188.length < 2932031007402
          ·rw [if_pos c32] at H
           have LMc32 := Aside0.mk c32
           clear c32
           obtain ⟨y192, hy192⟩ : ∃ y_ : List (S28), y_ = (y185 ++ y188) := ⟨_, rfl⟩
           replace H : ((some (l2.take ((ji29) : Int).toNat : List (S28))).bind fun y195 => (if y192.length + y195.length < 2932031007402 then ((laws_added.f kj17 l2).bind fun t202 => ((laws_all.f a4 a5 a6).bind fun t205 => ((impl_Roles.f kj17 a0 a1 0 0 t202 t205).bind fun bt208 => ((laws_added.f kj17 (y192 ++ y195)).bind fun t214 => ((laws_all.f a4 a5 a6).bind fun t217 => ((impl_Roles.f kj17 a0 a1 0 0 t214 t217).bind fun bt220 => (if (bt208.1.length : Int) = (l2.length : Int) then (if (bt220.1.length : Int) = (l2.length : Int) then (if (bt208.2.length : Int) = 8 then ((laws_sameTold.f kj17 bt208.2 bt220.2).bind fun t226 => (if t226 = true then ((laws_awakeRoles.f kj17).bind fun t227 => (some t227)) else (some false))) else (some false)) else (some false)) else (some false)))))))) else (none))) = some r := by first | (rw [hy192]; with_reducible exact H) | (have H2_ := (Option.bind_some _ _).symm.trans H; rw [hy192]; with_reducible exact H2_) | (have H2_ := (Option.bind_some _ _).symm.trans H; with_reducible exact H2_) | with_reducible exact H | (rw [hy192]; exact H) | exact H
           have Ny192 := Aside0.mk hy192
           clear hy192
           have c33b0 := eq_true (of_decide_eq_true (by first | (with_reducible assumption) | assumption) : 0 ≤ (ji29))
           have c34b0 := eq_true (of_decide_eq_true (by first | (with_reducible assumption) | assumption) : (ji29) ≤ (l2.length : Int))
           obtain ⟨y195, hy195⟩ : ∃ y_ : List (S28), y_ = (l2.take ((ji29) : Int).toNat) := ⟨_, rfl⟩
           replace H : (if y192.length + y195.length < 2932031007402 then ((laws_added.f kj17 l2).bind fun t202 => ((laws_all.f a4 a5 a6).bind fun t205 => ((impl_Roles.f kj17 a0 a1 0 0 t202 t205).bind fun bt208 => ((laws_added.f kj17 (y192 ++ y195)).bind fun t214 => ((laws_all.f a4 a5 a6).bind fun t217 => ((impl_Roles.f kj17 a0 a1 0 0 t214 t217).bind fun bt220 => (if (bt208.1.length : Int) = (l2.length : Int) then (if (bt220.1.length : Int) = (l2.length : Int) then (if (bt208.2.length : Int) = 8 then ((laws_sameTold.f kj17 bt208.2 bt220.2).bind fun t226 => (if t226 = true then ((laws_awakeRoles.f kj17).bind fun t227 => (some t227)) else (some false))) else (some false)) else (some false)) else (some false)))))))) else (none)) = some r := by first | (rw [hy195]; with_reducible exact H) | (have H2_ := (Option.bind_some _ _).symm.trans H; rw [hy195]; with_reducible exact H2_) | (have H2_ := (Option.bind_some _ _).symm.trans H; with_reducible exact H2_) | with_reducible exact H | (rw [hy195]; exact H) | exact H
           have Ny195 := Aside0.mk hy195
           clear hy195
           by_cases c35 : y192.length + y195.length < 2932031007402
           ·rw [if_pos c35] at H
            have LMc35 := Aside0.mk c35
            clear c35
            obtain ⟨y199, hy199⟩ : ∃ y_ : List (S28), y_ = (y192 ++ y195) := ⟨_, rfl⟩
            replace H : ((laws_added.f kj17 l2).bind fun t202 => ((laws_all.f a4 a5 a6).bind fun t205 => ((impl_Roles.f kj17 a0 a1 0 0 t202 t205).bind fun bt208 => ((laws_added.f kj17 y199).bind fun t214 => ((laws_all.f a4 a5 a6).bind fun t217 => ((impl_Roles.f kj17 a0 a1 0 0 t214 t217).bind fun bt220 => (if (bt208.1.length : Int) = (l2.length : Int) then (if (bt220.1.length : Int) = (l2.length : Int) then (if (bt208.2.length : Int) = 8 then ((laws_sameTold.f kj17 bt208.2 bt220.2).bind fun t226 => (if t226 = true then ((laws_awakeRoles.f kj17).bind fun t227 => (some t227)) else (some false))) else (some false)) else (some false)) else (some false)))))))) = some r := by first | (rw [hy199]; with_reducible exact H) | (have H2_ := (Option.bind_some _ _).symm.trans H; rw [hy199]; with_reducible exact H2_) | (have H2_ := (Option.bind_some _ _).symm.trans H; with_reducible exact H2_) | with_reducible exact H | (rw [hy199]; exact H) | exact H
            have Ny199 := Aside0.mk hy199
            clear hy199
            replace H := Option.bind_eq_some_iff.mp H
            obtain ⟨t202, A360, H⟩ := H
            replace H : ((laws_all.f a4 a5 a6).bind fun t205 => ((impl_Roles.f kj17 a0 a1 0 0 t202 t205).bind fun bt208 => ((laws_added.f kj17 y199).bind fun t214 => ((laws_all.f a4 a5 a6).bind fun t217 => ((impl_Roles.f kj17 a0 a1 0 0 t214 t217).bind fun bt220 => (if (bt208.1.length : Int) = (l2.length : Int) then (if (bt220.1.length : Int) = (l2.length : Int) then (if (bt208.2.length : Int) = 8 then ((laws_sameTold.f kj17 bt208.2 bt220.2).bind fun t226 => (if t226 = true then ((laws_awakeRoles.f kj17).bind fun t227 => (some t227)) else (some false))) else (some false)) else (some false)) else (some false))))))) = some r := H
            have A36 := Aside0.mk A360
            clear A360
            replace H := Option.bind_eq_some_iff.mp H
            obtain ⟨t205, A370, H⟩ := H
            replace H : ((impl_Roles.f kj17 a0 a1 0 0 t202 t205).bind fun bt208 => ((laws_added.f kj17 y199).bind fun t214 => ((laws_all.f a4 a5 a6).bind fun t217 => ((impl_Roles.f kj17 a0 a1 0 0 t214 t217).bind fun bt220 => (if (bt208.1.length : Int) = (l2.length : Int) then (if (bt220.1.length : Int) = (l2.length : Int) then (if (bt208.2.length : Int) = 8 then ((laws_sameTold.f kj17 bt208.2 bt220.2).bind fun t226 => (if t226 = true then ((laws_awakeRoles.f kj17).bind fun t227 => (some t227)) else (some false))) else (some false)) else (some false)) else (some false)))))) = some r := H
            have A37 := Aside0.mk A370
            clear A370
            replace H := Option.bind_eq_some_iff.mp H
            obtain ⟨⟨t208, t209⟩, A380, H⟩ := H
            replace H : ((laws_added.f kj17 y199).bind fun t214 => ((laws_all.f a4 a5 a6).bind fun t217 => ((impl_Roles.f kj17 a0 a1 0 0 t214 t217).bind fun bt220 => (if (t208.length : Int) = (l2.length : Int) then (if (bt220.1.length : Int) = (l2.length : Int) then (if (t209.length : Int) = 8 then ((laws_sameTold.f kj17 t209 bt220.2).bind fun t226 => (if t226 = true then ((laws_awakeRoles.f kj17).bind fun t227 => (some t227)) else (some false))) else (some false)) else (some false)) else (some false))))) = some r := H
            have A38 := Aside0.mk A380
            clear A380
            replace H := Option.bind_eq_some_iff.mp H
            obtain ⟨t214, A390, H⟩ := H
            replace H : ((laws_all.f a4 a5 a6).bind fun t217 => ((impl_Roles.f kj17 a0 a1 0 0 t214 t217).bind fun bt220 => (if (t208.length : Int) = (l2.length : Int) then (if (bt220.1.length : Int) = (l2.length : Int) then (if (t209.length : Int) = 8 then ((laws_sameTold.f kj17 t209 bt220.2).bind fun t226 => (if t226 = true then ((laws_awakeRoles.f kj17).bind fun t227 => (some t227)) else (some false))) else (some false)) else (some false)) else (some false)))) = some r := H
            have A39 := Aside0.mk A390
            clear A390
            replace H := Option.bind_eq_some_iff.mp H
            obtain ⟨t217, A400, H⟩ := H
            replace H : ((impl_Roles.f kj17 a0 a1 0 0 t214 t217).bind fun bt220 => (if (t208.length : Int) = (l2.length : Int) then (if (bt220.1.length : Int) = (l2.length : Int) then (if (t209.length : Int) = 8 then ((laws_sameTold.f kj17 t209 bt220.2).bind fun t226 => (if t226 = true then ((laws_awakeRoles.f kj17).bind fun t227 => (some t227)) else (some false))) else (some false)) else (some false)) else (some false))) = some r := H
            have A40 := Aside0.mk A400
            clear A400
            replace H := Option.bind_eq_some_iff.mp H
            obtain ⟨⟨t220, t221⟩, A410, H⟩ := H
            replace H : (if (t208.length : Int) = (l2.length : Int) then (if (t220.length : Int) = (l2.length : Int) then (if (t209.length : Int) = 8 then ((laws_sameTold.f kj17 t209 t221).bind fun t226 => (if t226 = true then ((laws_awakeRoles.f kj17).bind fun t227 => (some t227)) else (some false))) else (some false)) else (some false)) else (some false)) = some r := H
            have A41 := Aside0.mk A410
            clear A410
            by_cases c42 : (t208.length : Int) = (l2.length : Int)
            ·rw [if_pos c42] at H
             have c42b0 : ((t208.length : Int) == (l2.length : Int)) = true := beq_iff_eq.mpr c42
             have c42b1 : ((t208.length : Int) != (l2.length : Int)) = false := bne_eq_false_iff_eq.mpr c42
             have c42b2 : (t208.length == l2.length) = true := by first | simpa using c42 | (simp at c42 ⊢; omega)
             clear c42
             by_cases c43 : (t220.length : Int) = (l2.length : Int)
             ·rw [if_pos c43] at H
              have c43b0 : ((t220.length : Int) == (l2.length : Int)) = true := beq_iff_eq.mpr c43
              have c43b1 : ((t220.length : Int) != (l2.length : Int)) = false := bne_eq_false_iff_eq.mpr c43
              have c43b2 : (t220.length == l2.length) = true := by first | simpa using c43 | (simp at c43 ⊢; omega)
              clear c43
              by_cases c44 : (t209.length : Int) = 8
              ·rw [if_pos c44] at H
               have c44b0 : ((t209.length : Int) == 8) = true := beq_iff_eq.mpr c44
               have c44b1 : ((t209.length : Int) != 8) = false := bne_eq_false_iff_eq.mpr c44
               clear c44
               replace H := Option.bind_eq_some_iff.mp H
               obtain ⟨t226, A450, H⟩ := H
               replace H : (if t226 = true then ((laws_awakeRoles.f kj17).bind fun t227 => (some t227)) else (some false)) = some r := H
               have A45 := Aside0.mk A450
               clear A450
               by_cases c46 : t226 = true
               ·subst c46
                have H1 : ((laws_awakeRoles.f kj17).bind fun t227 => (some t227)) = some r := by rw [if_pos rfl] at H; exact H
                clear H
                have H := H1
                clear H1
                replace H := Option.bind_eq_some_iff.mp H
                obtain ⟨t227, A470, H⟩ := H
                replace H : (some t227) = some r := H
                have A47 := Aside0.mk A470
                clear A470
                obtain rfl := Option.some.inj H
                try go_wp2
                have n0_ := Aside0.mk (below_drew1 HB.out)
                clear HB
                have HB := n0_
                clear n0_
                have q49 : ((ji29) : Int) ≤ ((l2.length : Int) : Int) := of_decide_eq_true (by first | (with_reducible assumption) | assumption)
                obtain ⟨i049, hi049, _, hsz49, _⟩ := info_parts info28
                have hroom49 : l2.length ≤ c2 := HC2.out
                have hC49 : Kd.C k28 _ A2 l2.length l2 := HR2.out
                have q049 : (0 : Int) ≤ ((ji29) : Int) := of_decide_eq_true (by first | (with_reducible assumption) | assumption)
                have hcut49 := cut_from (P := Tryz.prog) 22 28 .i64 Tryz.underlying22 hi049 3 hsz49 A2 l2.length c2 (ji29) q049 q49
                have hr49 := Kd.C_drop (m := ((ji29) : Int).toNat) (c := c2) hC49 (by omega) hroom49
                obtain ⟨A49, hA49⟩ : ∃ A1, A1 = (if c2 = ((ji29) : Int).toNat then A2 else (A2 : Option Addr).map (·.add (((ji29) : Int).toNat * 3))) := ⟨_, rfl⟩
                obtain ⟨c49, hc49⟩ : ∃ c1, c1 = c2 - ((ji29) : Int).toNat := ⟨_, rfl⟩
                have hy49 : y188.length = l2.length - ((ji29) : Int).toNat := (by rw [Ny188.out, List.length_drop] <;> omega)
                rw [show (l2).drop ((ji29) : Int).toNat = y188 from Ny188.out.symm] at hr49
                replace hr49 : Kd.C k28 _ A49 y188.length y188 := (by rw [hA49]; exact hr49)
                rw [← hy49, ← hA49, ← hc49] at hcut49
                have HR191 := Aside0.mk hr49
                have HC191 := Aside0.mk (show y188.length ≤ c49 from by rw [hy49, hc49]; exact Nat.sub_le_sub_right hroom49 _)
                clear hr49 hC49 hroom49 hi049 hsz49 hc49
                have KY49 := Aside0.mk hy49
                have KA49 := Aside0.mk hA49
                clear hy49 hA49
                replace q49 := eq_true q49
                have q50 : ((ji29) : Int) ≤ ((l2.length : Int) : Int) := of_decide_eq_true (by first | (with_reducible assumption) | assumption)
                obtain ⟨i050, hi050, _, hsz50, _⟩ := info_parts info28
                have hroom50 : l2.length ≤ c2 := HC2.out
                have hC50 : Kd.C k28 _ A2 l2.length l2 := HR2.out
                have hcut50 := cut_to (P := Tryz.prog) 22 28 .i64 Tryz.underlying22 hi050 A2 l2.length c2 (ji29) (of_decide_eq_true (by first | (with_reducible assumption) | assumption)) q50 hroom50
                have hr50 := Kd.C_take (m := ((ji29) : Int).toNat) hC50 (by omega)
                have hy50 : y195.length = ((ji29) : Int).toNat := (by rw [Ny195.out, List.length_take]; omega)
                rw [← Ny195.out] at hr50
                rw [← hy50] at hcut50
                have HR198 := Aside0.mk hr50
                have HC198 := Aside0.mk (show y195.length ≤ c2 from by omega)
                clear hr50 hC50 hroom50 hi050 hsz50
                have KY50 := Aside0.mk hy50
                clear hy50
                replace q50 := eq_true q50
                refine start_ (n := 10) (S := fun w' => True) (ds := []) #[false, false, false, false, false, false, false, false, false, false] (by kernel_rfl) rfl rfl trivial (fun hHeld => ?_); refine with_tabW laws_FnRolesOrder.tab6 laws_FnRolesOrder.bits6 (fun HT_ HW_ => ?_)
                generalize wc.drew = w48 at HB HR191 HR198 hHeld ⊢
                refine pure_ (i := 1) (N := some 73) (v := ?_) (a' := ?_) #[false, true, false, false, false, false, false, false, false, false] rfl rfl (any_of HT_.out (by kernel_rfl)) (fun _ _ _ h => h) (Or.inl ⟨by rfl, ?_⟩) ?_ ?_
                rotate_left
                ·intro w'
                 go_simp
                 with_reducible rfl
                rotate_left
                ·simp only [Act.put, List.setIfInBounds_toArray, List.set_cons_zero, List.set_cons_succ, i64_w, i32_w]
                 rfl
                refine pure_ (i := 2) (N := some 74) (v := ?_) (a' := ?_) #[false, true, true, false, false, false, false, false, false, false] rfl rfl (any_of HT_.out (by kernel_rfl)) (fun _ _ _ h => h) (Or.inl ⟨by rfl, ?_⟩) ?_ ?_
                rotate_left
                ·intro w'
                 go_simp
                 with_reducible rfl
                rotate_left
                ·simp only [Act.put, List.setIfInBounds_toArray, List.set_cons_zero, List.set_cons_succ, i64_w, i32_w]
                 rfl
                refine pure_ (i := 3) (N := some 75) (v := ?_) (a' := ?_) #[false, true, true, true, false, false, false, false, false, false] rfl rfl (any_of HT_.out (by kernel_rfl)) (fun _ _ _ h => h) (Or.inl ⟨by rfl, ?_⟩) ?_ ?_
                rotate_left
                ·intro w'
                 go_simp
                 with_reducible rfl
                rotate_left
                ·simp only [Act.put, List.setIfInBounds_toArray, List.set_cons_zero, List.set_cons_succ, i64_w, i32_w]
                 rfl
                refine pure_ (i := 5) (N := some 77) (v := ?_) (a' := ?_) #[false, true, true, true, false, true, false, false, false, false] rfl rfl (any_of HT_.out (by kernel_rfl)) (fun _ _ _ h => h) (Or.inl ⟨by rfl, ?_⟩) ?_ ?_
                rotate_left
                ·intro w'
                 go_simp
                 with_reducible rfl
                rotate_left
                ·simp only [Act.put, List.setIfInBounds_toArray, List.set_cons_zero, List.set_cons_succ, i64_w, i32_w]
                 rfl
                refine pure_ (i := 6) (N := some 78) (v := ?_) (a' := ?_) #[false, true, true, true, false, true, true, false, false, false] rfl rfl (any_of HT_.out (by kernel_rfl)) (fun _ _ _ h => h) (Or.inl ⟨by rfl, ?_⟩) ?_ ?_
                rotate_left
                ·intro w'
                 go_simp
                 with_reducible rfl
                rotate_left
                ·simp only [Act.put, List.setIfInBounds_toArray, List.set_cons_zero, List.set_cons_succ, i64_w, i32_w]
                 rfl
                refine pure_ (i := 7) (N := some 79) (v := ?_) (a' := ?_) #[false, true, true, true, false, true, true, true, false, false] rfl rfl (any_of HT_.out (by kernel_rfl)) (fun _ _ _ h => h) (Or.inl ⟨by rfl, ?_⟩) ?_ ?_
                rotate_left
                ·intro w'
                 go_simp
                 with_reducible rfl
                rotate_left
                ·simp only [Act.put, List.setIfInBounds_toArray, List.set_cons_zero, List.set_cons_succ, i64_w, i32_w]
                 rfl
                refine one_ (i := 0) (N := some 72) #[true, true, true, true, false, true, true, true, false, false] rfl rfl (one_of HT_.out (by kernel_rfl)) (by decide) (fun K hK => ?_)
                refine Kd.R_lit_step k28 _ 28 ?hg (N := 72) ?hd (xs := ([] : List (S28))) (inner := []) (ok := fun _ => True) (okp := fun _ => True) ?hr ?hp (fun _ hk => hk) trivial (Below.refl _ _) (Nat.le_refl _) (by simp) ?_; (case hd => rfl); (case hg => rfl); (case hr => first | (go_simp; done) | (go_simp; rfl)); (case hp => exact (Reps.none _ _))
                intro v186 w51 ho52 hb hg_ hnew_
                clear hg_ hnew_
                (first | rw [← Ny185.out] at ho52 | (simp only [Int.reduceToNat] at ho52; rw [← Ny185.out] at ho52))
                have n0_ := Aside0.mk (Kd.R_lower ho52 (below_size (by repeat (first | (with_reducible first | exact HB.out | apply below_alloc | apply pw_below_drewN | apply below_drew1) | exact HB.out))))
                have n1_ := Aside0.mk (below_step (by repeat (first | (with_reducible first | exact HB.out | apply below_alloc | apply pw_below_drewN | apply below_drew1) | exact HB.out)) hb)
                clear HB
                have HO187 := n0_
                have HB := n1_
                clear n0_ n1_
                clear hb ho52
                refine hK.out _ _ trivial (fun hHeld => ?_)
                clear hK K
                refine norm_ (a' := ?_) ?_ ?_
                rotate_left
                ·show Act.put _ (some 72) _ = _
                 simp only [Act.put, List.setIfInBounds_toArray, List.set_cons_zero, List.set_cons_succ, i64_w, i32_w]
                 rfl
                refine one_ (i := 4) (N := some 76) #[true, true, true, true, true, true, true, true, false, false] rfl rfl (one_of HT_.out (by kernel_rfl)) (by decide) (fun K hK => ?_)
                refine Kd.R_append_rows_step k28 (w0 := w) w.heap.size (by rfl) (.tmp 72) (.tmp 75) 22 28 (.agg #[(.string ⟨#[]⟩), (.string ⟨#[]⟩), (.string ⟨#[]⟩)]) 48 rfl Tryz.underlying22 info28 rfl (by decide) (by omega) v186 y185 y188 _ _ _ (fun _ => True) (fun _ => False) rfl rfl ?aO ?aR (fun _ _ h => h) (fun _ h => h.elim) ?aF ?aB ?aS ?aL ?_
                (case aR => repeat (first | exact (Kd.C_below HR191.out HB.out) | (with_reducible refine Kd.C_alloc ?_ _) | (with_reducible refine Kd.C_drewN ?_ _) | (with_reducible refine Kd.C_drew ?_)))
                (case aB => exact (by repeat (first | (with_reducible first | exact HB.out | apply below_alloc | apply pw_below_drewN | apply below_drew1) | exact HB.out)))
                (case aF => exact (fun _ _ => trivial))
                (case aO => exact (by (with_reducible repeat (first | apply Kd.R_alloc | apply Kd.R_drewN | apply Kd.R_drew)); exact HO187.out))
                (case aS => exact (below_size (by repeat (first | (with_reducible first | exact HB.out | apply below_alloc | apply pw_below_drewN | apply below_drew1) | exact HB.out))))
                (case aL => have := LMc32.out; omega)
                intro v193 w53 ho hb hg hat
                rw [← Ny192.out] at ho
                have n0_ := Aside0.mk (hb)
                have n1_ := Aside0.mk (ho)
                clear HB
                clear HO187
                have HB := n0_
                have HO194 := n1_
                clear n0_ n1_
                clear ho hb hg hat
                refine hK.out _ _ trivial (fun hHeld => ?_)
                clear hK K
                refine norm_ (a' := ?_) ?_ ?_
                rotate_left
                ·show Act.put _ (some 76) _ = _
                 simp only [Act.put, List.setIfInBounds_toArray, List.set_cons_zero, List.set_cons_succ, i64_w, i32_w]
                 rfl
                refine one_ (i := 8) (N := some 80) #[true, true, true, true, true, true, true, true, true, false] rfl rfl (one_of HT_.out (by kernel_rfl)) (by decide) (fun K hK => ?_)
                refine Kd.R_append_rows_step k28 (w0 := w) w.heap.size (by rfl) (.tmp 76) (.tmp 79) 22 28 (.agg #[(.string ⟨#[]⟩), (.string ⟨#[]⟩), (.string ⟨#[]⟩)]) 48 rfl Tryz.underlying22 info28 rfl (by decide) (by omega) v193 y192 y195 _ _ _ (fun _ => True) (fun _ => False) rfl rfl ?aO ?aR (fun _ _ h => h) (fun _ h => h.elim) ?aF ?aB ?aS ?aL ?_
                (case aR => repeat (first | exact (Kd.C_below HR198.out HB.out) | (with_reducible refine Kd.C_alloc ?_ _) | (with_reducible refine Kd.C_drewN ?_ _) | (with_reducible refine Kd.C_drew ?_)))
                (case aB => exact (by repeat (first | (with_reducible first | exact HB.out | apply below_alloc | apply pw_below_drewN | apply below_drew1) | exact HB.out)))
                (case aF => exact (fun _ _ => trivial))
                (case aO => exact (by (with_reducible repeat (first | apply Kd.R_alloc | apply Kd.R_drewN | apply Kd.R_drew)); exact HO194.out))
                (case aS => exact (below_size (by repeat (first | (with_reducible first | exact HB.out | apply below_alloc | apply pw_below_drewN | apply below_drew1) | exact HB.out))))
                (case aL => have := LMc35.out; omega)
                intro v200 w54 ho hb hg hat
                rw [← Ny199.out] at ho
                have n0_ := Aside0.mk (hb)
                have n1_ := Aside0.mk (ho)
                clear HB
                clear HO194
                have HB := n0_
                have HO201 := n1_
                clear n0_ n1_
                clear ho hb hg hat
                refine hK.out _ _ trivial (fun hHeld => ?_)
                clear hK K
                refine norm_ (a' := ?_) ?_ ?_
                rotate_left
                ·show Act.put _ (some 80) _ = _
                 simp only [Act.put, List.setIfInBounds_toArray, List.set_cons_zero, List.set_cons_succ, i64_w, i32_w]
                 rfl
                refine pure_ (i := 9) (N := some 16) (v := ?_) (a' := ?_) #[true, true, true, true, true, true, true, true, true, true] rfl rfl (any_of HT_.out (by kernel_rfl)) (fun _ _ _ h => h) (Or.inl ⟨by rfl, ?_⟩) ?_ ?_
                rotate_left
                ·intro w'
                 go_simp
                 with_reducible rfl
                rotate_left
                ·simp only [Act.put, List.setIfInBounds_toArray, List.set_cons_zero, List.set_cons_succ, i64_w, i32_w]
                 rfl
                refine done_ (done_of HT_.out (by kernel_rfl)) ?_
                try go_wp2_with (first | ((with_reducible refine gate_callee (f := 14) rfl ?_); refine goesL_ (some 85) rfl rfl Tryz.func14 (by kernel_rfl) rfl #[.slice A2 l2.length c2] rfl (by (try simp only [List.map_toArray, List.map_cons, List.map_nil]); first | done | rfl | (simp only [List.length_drop, List.length_take]; rfl)) ?_; (with_reducible refine (laws_added.calls kj17 _ _ l2 t202 _ ?side1 ?side2 A36.out).mono ?_); (case side1 => repeat (first | exact (Kd.C_below HR2.out HB.out) | (with_reducible refine Kd.C_alloc ?_ _) | (with_reducible refine Kd.C_drewN ?_ _) | (with_reducible refine Kd.C_drew ?_))); (case side2 => exact HC2.out); rintro e w55 ⟨v203, rfl, ho0, hb⟩; refine ⟨_, rfl, ?_⟩; have n0_ := Aside0.mk (Kd.R_below (by (with_reducible repeat (first | apply Kd.R_alloc | apply Kd.R_drewN | apply Kd.R_drew)); exact HO201.out) hb); have n1_ := Aside0.mk (Kd.R_lower ho0 (below_size (by repeat (first | (with_reducible first | exact HB.out | apply below_alloc | apply pw_below_drewN | apply below_drew1) | exact HB.out)))); have n2_ := Aside0.mk (below_step (by repeat (first | (with_reducible first | exact HB.out | apply below_alloc | apply pw_below_drewN | apply below_drew1) | exact HB.out)) hb); clear HO201; clear HB; have HO201 := n0_; have HO204 := n1_; have HB := n2_; clear n0_ n1_ n2_; (try clear hb); (try clear hb2); (try clear hk); (try clear hi); (try clear ho0)) | ((with_reducible refine gate_callee (f := 15) rfl ?_); refine goesL_ (some 89) rfl rfl Tryz.func15 (by kernel_rfl) rfl #[.string a4, .string a5, .string a6] rfl (by (try simp only [List.map_toArray, List.map_cons, List.map_nil]); first | done | rfl | (simp only [List.length_drop, List.length_take]; rfl)) ?_; (with_reducible refine (laws_all.calls a4 a5 a6 t205 _ A37.out).mono ?_); rintro e w56 ⟨v206, rfl, ho0, hb⟩; refine ⟨_, rfl, ?_⟩; have n0_ := Aside0.mk (Kd.R_below (by (with_reducible repeat (first | apply Kd.R_alloc | apply Kd.R_drewN | apply Kd.R_drew)); exact HO201.out) hb); have n1_ := Aside0.mk (Kd.R_below (by (with_reducible repeat (first | apply Kd.R_alloc | apply Kd.R_drewN | apply Kd.R_drew)); exact HO204.out) hb); have n2_ := Aside0.mk (Kd.R_lower ho0 (below_size (by repeat (first | (with_reducible first | exact HB.out | apply below_alloc | apply pw_below_drewN | apply below_drew1) | exact HB.out)))); have n3_ := Aside0.mk (below_step (by repeat (first | (with_reducible first | exact HB.out | apply below_alloc | apply pw_below_drewN | apply below_drew1) | exact HB.out)) hb); clear HO201; clear HO204; clear HB; have HO201 := n0_; have HO204 := n1_; have HO207 := n2_; have HB := n3_; clear n0_ n1_ n2_ n3_; (try clear hb); (try clear hb2); (try clear hk); (try clear hi); (try clear ho0); obtain ⟨Ao57, co57, eo57⟩ := Kd.R_slice HO204.out; subst eo57; obtain ⟨Ao58, co58, eo58⟩ := Kd.R_slice HO207.out; subst eo58) | ((with_reducible refine gate_callee (f := 13) rfl ?_); refine goesL_ (some 90) rfl rfl Tryz.func13 (by kernel_rfl) rfl #[.int .i64 a0, .bool a1, .int .i64 0, .int .i64 0, .slice Ao57 t202.length co57, .slice Ao58 t205.length co58] rfl (by (try simp only [List.map_toArray, List.map_cons, List.map_nil]); first | done | rfl | (simp only [List.length_drop, List.length_take]; rfl)) ?_; (with_reducible refine (impl_Roles.calls kj17 a0 a1 0 0 _ _ t202 _ _ t205 t208 t209 _ ?side1 ?side2 ?side3 ?side4 A38.out).mono ?_); (case side1 => repeat (first | exact (Kd.R_reads' HO204.out).2.2 | (with_reducible refine Kd.C_alloc ?_ _) | (with_reducible refine Kd.C_drewN ?_ _) | (with_reducible refine Kd.C_drew ?_))); (case side2 => exact (Kd.R_reads' HO204.out).2.1); (case side3 => repeat (first | exact (Kd.R_reads' HO207.out).2.2 | (with_reducible refine Kd.C_alloc ?_ _) | (with_reducible refine Kd.C_drewN ?_ _) | (with_reducible refine Kd.C_drew ?_))); (case side4 => exact (Kd.R_reads' HO207.out).2.1); rintro e w59 ⟨v210, v212, rfl, ho0, ⟨lp_t209, hp_, ho1⟩, hb⟩; have HTt209 := Aside0.mk hp_; have HLt209 := Aside0.mk hp_.len; (try rw [← hp_.len] at c44b0); (try rw [← hp_.len] at c44b1); clear hp_; refine ⟨_, rfl, ?_⟩; have n0_ := Aside0.mk (Kd.R_below (by (with_reducible repeat (first | apply Kd.R_alloc | apply Kd.R_drewN | apply Kd.R_drew)); exact HO201.out) hb); have n1_ := Aside0.mk (Kd.R_below (by (with_reducible repeat (first | apply Kd.R_alloc | apply Kd.R_drewN | apply Kd.R_drew)); exact HO204.out) hb); have n2_ := Aside0.mk (Kd.R_below (by (with_reducible repeat (first | apply Kd.R_alloc | apply Kd.R_drewN | apply Kd.R_drew)); exact HO207.out) hb); have n3_ := Aside0.mk (Kd.R_lower ho0 (below_size (by repeat (first | (with_reducible first | exact HB.out | apply below_alloc | apply pw_below_drewN | apply below_drew1) | exact HB.out)))); have n4_ := Aside0.mk (Kd.S_lower ho1 (below_size (by repeat (first | (with_reducible first | exact HB.out | apply below_alloc | apply pw_below_drewN | apply below_drew1) | exact HB.out)))); have n5_ := Aside0.mk (below_step (by repeat (first | (with_reducible first | exact HB.out | apply below_alloc | apply pw_below_drewN | apply below_drew1) | exact HB.out)) hb); clear HO201; clear HO204; clear HO207; clear HB; have HO201 := n0_; have HO204 := n1_; have HO207 := n2_; have HO211 := n3_; have HO213 := n4_; have HB := n5_; clear n0_ n1_ n2_ n3_ n4_ n5_; (try clear hb); (try clear hb2); (try clear hk); (try clear hi); (try clear ho0); (try clear ho1); obtain ⟨Ao60, co60, eo60⟩ := Kd.R_slice HO201.out; subst eo60) | ((with_reducible refine gate_callee (f := 14) rfl ?_); refine goesL_ (some 97) rfl rfl Tryz.func14 (by kernel_rfl) rfl #[.slice Ao60 y199.length co60] rfl (by (try simp only [List.map_toArray, List.map_cons, List.map_nil]); first | done | rfl | (simp only [List.length_drop, List.length_take]; rfl)) ?_; (with_reducible refine (laws_added.calls kj17 _ _ y199 t214 _ ?side1 ?side2 A39.out).mono ?_); (case side1 => repeat (first | exact (Kd.R_reads' HO201.out).2.2 | (with_reducible refine Kd.C_alloc ?_ _) | (with_reducible refine Kd.C_drewN ?_ _) | (with_reducible refine Kd.C_drew ?_))); (case side2 => exact (Kd.R_reads' HO201.out).2.1); rintro e w61 ⟨v215, rfl, ho0, hb⟩; refine ⟨_, rfl, ?_⟩; have n0_ := Aside0.mk (Kd.R_below (by (with_reducible repeat (first | apply Kd.R_alloc | apply Kd.R_drewN | apply Kd.R_drew)); exact HO201.out) hb); have n1_ := Aside0.mk (Kd.R_elder' (by (with_reducible repeat (first | apply Kd.R_alloc | apply Kd.R_drewN | apply Kd.R_drew)); exact HO204.out) (Kd.R_base ho0) hb); have n2_ := Aside0.mk (Kd.R_below (by (with_reducible repeat (first | apply Kd.R_alloc | apply Kd.R_drewN | apply Kd.R_drew)); exact HO207.out) hb); have n3_ := Aside0.mk (Kd.R_below (by (with_reducible repeat (first | apply Kd.R_alloc | apply Kd.R_drewN | apply Kd.R_drew)); exact HO211.out) hb); have n4_ := Aside0.mk (Kd.S_below (by (with_reducible repeat (first | apply Kd.S_alloc | apply Kd.S_drewN | apply Kd.S_drew)); exact HO213.out) hb); have n5_ := Aside0.mk (Kd.R_lower (Kd.R_new' ho0 (Kd.R_lt (by (with_reducible repeat (first | apply Kd.R_alloc | apply Kd.R_drewN | apply Kd.R_drew)); exact HO204.out))) (below_size (by repeat (first | (with_reducible first | exact HB.out | apply below_alloc | apply pw_below_drewN | apply below_drew1) | exact HB.out)))); have n6_ := Aside0.mk (below_step (by repeat (first | (with_reducible first | exact HB.out | apply below_alloc | apply pw_below_drewN | apply below_drew1) | exact HB.out)) hb); clear HO201; clear HO204; clear HO207; clear HO211; clear HO213; clear HB; have HO201 := n0_; have HO204 := n1_; have HO207 := n2_; have HO211 := n3_; have HO213 := n4_; have HO216 := n5_; have HB := n6_; clear n0_ n1_ n2_ n3_ n4_ n5_ n6_; (try clear hb); (try clear hb2); (try clear hk); (try clear hi); (try clear ho0)) | ((with_reducible refine gate_callee (f := 15) rfl ?_); refine goesL_ (some 101) rfl rfl Tryz.func15 (by kernel_rfl) rfl #[.string a4, .string a5, .string a6] rfl (by (try simp only [List.map_toArray, List.map_cons, List.map_nil]); first | done | rfl | (simp only [List.length_drop, List.length_take]; rfl)) ?_; (with_reducible refine (laws_all.calls a4 a5 a6 t217 _ A40.out).mono ?_); rintro e w62 ⟨v218, rfl, ho0, hb⟩; refine ⟨_, rfl, ?_⟩; have n0_ := Aside0.mk (Kd.R_below (by (with_reducible repeat (first | apply Kd.R_alloc | apply Kd.R_drewN | apply Kd.R_drew)); exact HO201.out) hb); have n1_ := Aside0.mk (Kd.R_below (by (with_reducible repeat (first | apply Kd.R_alloc | apply Kd.R_drewN | apply Kd.R_drew)); exact HO204.out) hb); have n2_ := Aside0.mk (Kd.R_elder' (by (with_reducible repeat (first | apply Kd.R_alloc | apply Kd.R_drewN | apply Kd.R_drew)); exact HO207.out) (Kd.R_base ho0) hb); have n3_ := Aside0.mk (Kd.R_below (by (with_reducible repeat (first | apply Kd.R_alloc | apply Kd.R_drewN | apply Kd.R_drew)); exact HO211.out) hb); have n4_ := Aside0.mk (Kd.S_below (by (with_reducible repeat (first | apply Kd.S_alloc | apply Kd.S_drewN | apply Kd.S_drew)); exact HO213.out) hb); have n5_ := Aside0.mk (Kd.R_below (by (with_reducible repeat (first | apply Kd.R_alloc | apply Kd.R_drewN | apply Kd.R_drew)); exact HO216.out) hb); have n6_ := Aside0.mk (Kd.R_lower (Kd.R_new' ho0 (Kd.R_lt (by (with_reducible repeat (first | apply Kd.R_alloc | apply Kd.R_drewN | apply Kd.R_drew)); exact HO207.out))) (below_size (by repeat (first | (with_reducible first | exact HB.out | apply below_alloc | apply pw_below_drewN | apply below_drew1) | exact HB.out)))); have n7_ := Aside0.mk (below_step (by repeat (first | (with_reducible first | exact HB.out | apply below_alloc | apply pw_below_drewN | apply below_drew1) | exact HB.out)) hb); clear HO201; clear HO204; clear HO207; clear HO211; clear HO213; clear HO216; clear HB; have HO201 := n0_; have HO204 := n1_; have HO207 := n2_; have HO211 := n3_; have HO213 := n4_; have HO216 := n5_; have HO219 := n6_; have HB := n7_; clear n0_ n1_ n2_ n3_ n4_ n5_ n6_ n7_; (try clear hb); (try clear hb2); (try clear hk); (try clear hi); (try clear ho0); obtain ⟨Ao63, co63, eo63⟩ := Kd.R_slice HO216.out; subst eo63; obtain ⟨Ao64, co64, eo64⟩ := Kd.R_slice HO219.out; subst eo64) | ((with_reducible refine gate_callee (f := 13) rfl ?_); refine goesL_ (some 102) rfl rfl Tryz.func13 (by kernel_rfl) rfl #[.int .i64 a0, .bool a1, .int .i64 0, .int .i64 0, .slice Ao63 t214.length co63, .slice Ao64 t217.length co64] rfl (by (try simp only [List.map_toArray, List.map_cons, List.map_nil]); first | done | rfl | (simp only [List.length_drop, List.length_take]; rfl)) ?_; (with_reducible refine (impl_Roles.calls kj17 a0 a1 0 0 _ _ t214 _ _ t217 t220 t221 _ ?side1 ?side2 ?side3 ?side4 A41.out).mono ?_); (case side1 => repeat (first | exact (Kd.R_reads' HO216.out).2.2 | (with_reducible refine Kd.C_alloc ?_ _) | (with_reducible refine Kd.C_drewN ?_ _) | (with_reducible refine Kd.C_drew ?_))); (case side2 => exact (Kd.R_reads' HO216.out).2.1); (case side3 => repeat (first | exact (Kd.R_reads' HO219.out).2.2 | (with_reducible refine Kd.C_alloc ?_ _) | (with_reducible refine Kd.C_drewN ?_ _) | (with_reducible refine Kd.C_drew ?_))); (case side4 => exact (Kd.R_reads' HO219.out).2.1); rintro e w65 ⟨v222, v224, rfl, ho0, ⟨lp_t221, hp_, ho1⟩, hb⟩; have HTt221 := Aside0.mk hp_; have HLt221 := Aside0.mk hp_.len; clear hp_; refine ⟨_, rfl, ?_⟩; have n0_ := Aside0.mk (Kd.R_below (by (with_reducible repeat (first | apply Kd.R_alloc | apply Kd.R_drewN | apply Kd.R_drew)); exact HO201.out) hb); have n1_ := Aside0.mk (Kd.R_below (by (with_reducible repeat (first | apply Kd.R_alloc | apply Kd.R_drewN | apply Kd.R_drew)); exact HO204.out) hb); have n2_ := Aside0.mk (Kd.R_below (by (with_reducible repeat (first | apply Kd.R_alloc | apply Kd.R_drewN | apply Kd.R_drew)); exact HO207.out) hb); have n3_ := Aside0.mk (Kd.R_elder' (by (with_reducible repeat (first | apply Kd.R_alloc | apply Kd.R_drewN | apply Kd.R_drew)); exact HO211.out) (Kd.R_base ho0) hb); have n4_ := Aside0.mk (Kd.S_elder' (by (with_reducible repeat (first | apply Kd.S_alloc | apply Kd.S_drewN | apply Kd.S_drew)); exact HO213.out) (Kd.S_base ho1) hb); have n5_ := Aside0.mk (Kd.R_below (by (with_reducible repeat (first | apply Kd.R_alloc | apply Kd.R_drewN | apply Kd.R_drew)); exact HO216.out) hb); have n6_ := Aside0.mk (Kd.R_below (by (with_reducible repeat (first | apply Kd.R_alloc | apply Kd.R_drewN | apply Kd.R_drew)); exact HO219.out) hb); have n7_ := Aside0.mk (Kd.R_lower (Kd.R_new' ho0 (Kd.R_lt (by (with_reducible repeat (first | apply Kd.R_alloc | apply Kd.R_drewN | apply Kd.R_drew)); exact HO211.out))) (below_size (by repeat (first | (with_reducible first | exact HB.out | apply below_alloc | apply pw_below_drewN | apply below_drew1) | exact HB.out)))); have n8_ := Aside0.mk (Kd.S_lower (Kd.S_new' ho1 (Kd.S_lt (by (with_reducible repeat (first | apply Kd.S_alloc | apply Kd.S_drewN | apply Kd.S_drew)); exact HO213.out))) (below_size (by repeat (first | (with_reducible first | exact HB.out | apply below_alloc | apply pw_below_drewN | apply below_drew1) | exact HB.out)))); have n9_ := Aside0.mk (below_step (by repeat (first | (with_reducible first | exact HB.out | apply below_alloc | apply pw_below_drewN | apply below_drew1) | exact HB.out)) hb); clear HO201; clear HO204; clear HO207; clear HO211; clear HO213; clear HO216; clear HO219; clear HB; have HO201 := n0_; have HO204 := n1_; have HO207 := n2_; have HO211 := n3_; have HO213 := n4_; have HO216 := n5_; have HO219 := n6_; have HO223 := n7_; have HO225 := n8_; have HB := n9_; clear n0_ n1_ n2_ n3_ n4_ n5_ n6_ n7_ n8_ n9_; (try clear hb); (try clear hb2); (try clear hk); (try clear hi); (try clear ho0); (try clear ho1); obtain ⟨Ao66, co66, eo66⟩ := Kd.R_slice HO211.out; subst eo66; obtain ⟨Ao67, co67, eo67⟩ := Kd.R_slice HO223.out; subst eo67; obtain ⟨Ao68, co68, eo68⟩ := Kd.S_slice HO213.out; subst eo68; obtain ⟨Ao69, co69, eo69⟩ := Kd.S_slice HO225.out; subst eo69) | (go_at_call 16; (with_reducible refine (laws_sameTold.calls _ _ _ lp_t209 _ _ lp_t221 true _ ?side1 ?side2 ?side3 ?side4 (sameTold_told HTt209.out HTt221.out A45.out).choose_spec).mono ?_); (case side1 => repeat (first | exact (Kd.S_reads' HO213.out).2.2 | (with_reducible refine Kd.C_alloc ?_ _) | (with_reducible refine Kd.C_drewN ?_ _) | (with_reducible refine Kd.C_drew ?_))); (case side2 => exact (Kd.S_reads' HO213.out).2.1); (case side3 => repeat (first | exact (Kd.S_reads' HO225.out).2.2 | (with_reducible refine Kd.C_alloc ?_ _) | (with_reducible refine Kd.C_drewN ?_ _) | (with_reducible refine Kd.C_drew ?_))); (case side4 => exact (Kd.S_reads' HO225.out).2.1); rintro e w70 ⟨rfl, hb⟩; have n0_ := Aside0.mk (Kd.R_below (by (with_reducible repeat (first | apply Kd.R_alloc | apply Kd.R_drewN | apply Kd.R_drew)); exact HO201.out) hb); have n1_ := Aside0.mk (Kd.R_below (by (with_reducible repeat (first | apply Kd.R_alloc | apply Kd.R_drewN | apply Kd.R_drew)); exact HO204.out) hb); have n2_ := Aside0.mk (Kd.R_below (by (with_reducible repeat (first | apply Kd.R_alloc | apply Kd.R_drewN | apply Kd.R_drew)); exact HO207.out) hb); have n3_ := Aside0.mk (Kd.R_below (by (with_reducible repeat (first | apply Kd.R_alloc | apply Kd.R_drewN | apply Kd.R_drew)); exact HO211.out) hb); have n4_ := Aside0.mk (Kd.S_below (by (with_reducible repeat (first | apply Kd.S_alloc | apply Kd.S_drewN | apply Kd.S_drew)); exact HO213.out) hb); have n5_ := Aside0.mk (Kd.R_below (by (with_reducible repeat (first | apply Kd.R_alloc | apply Kd.R_drewN | apply Kd.R_drew)); exact HO216.out) hb); have n6_ := Aside0.mk (Kd.R_below (by (with_reducible repeat (first | apply Kd.R_alloc | apply Kd.R_drewN | apply Kd.R_drew)); exact HO219.out) hb); have n7_ := Aside0.mk (Kd.R_below (by (with_reducible repeat (first | apply Kd.R_alloc | apply Kd.R_drewN | apply Kd.R_drew)); exact HO223.out) hb); have n8_ := Aside0.mk (Kd.S_below (by (with_reducible repeat (first | apply Kd.S_alloc | apply Kd.S_drewN | apply Kd.S_drew)); exact HO225.out) hb); have n9_ := Aside0.mk (below_step (by repeat (first | (with_reducible first | exact HB.out | apply below_alloc | apply pw_below_drewN | apply below_drew1) | exact HB.out)) hb); clear HO201; clear HO204; clear HO207; clear HO211; clear HO213; clear HO216; clear HO219; clear HO223; clear HO225; clear HB; have HO201 := n0_; have HO204 := n1_; have HO207 := n2_; have HO211 := n3_; have HO213 := n4_; have HO216 := n5_; have HO219 := n6_; have HO223 := n7_; have HO225 := n8_; have HB := n9_; clear n0_ n1_ n2_ n3_ n4_ n5_ n6_ n7_ n8_ n9_; (try clear hb); (try clear hb2); (try clear hk); (try clear hi)) | (go_at_call 12; (with_reducible refine (laws_awakeRoles.calls kj17  t227 _ A47.out).mono ?_); rintro e w71 ⟨rfl, hb⟩; have n0_ := Aside0.mk (Kd.R_below (by (with_reducible repeat (first | apply Kd.R_alloc | apply Kd.R_drewN | apply Kd.R_drew)); exact HO201.out) hb); have n1_ := Aside0.mk (Kd.R_below (by (with_reducible repeat (first | apply Kd.R_alloc | apply Kd.R_drewN | apply Kd.R_drew)); exact HO204.out) hb); have n2_ := Aside0.mk (Kd.R_below (by (with_reducible repeat (first | apply Kd.R_alloc | apply Kd.R_drewN | apply Kd.R_drew)); exact HO207.out) hb); have n3_ := Aside0.mk (Kd.R_below (by (with_reducible repeat (first | apply Kd.R_alloc | apply Kd.R_drewN | apply Kd.R_drew)); exact HO211.out) hb); have n4_ := Aside0.mk (Kd.S_below (by (with_reducible repeat (first | apply Kd.S_alloc | apply Kd.S_drewN | apply Kd.S_drew)); exact HO213.out) hb); have n5_ := Aside0.mk (Kd.R_below (by (with_reducible repeat (first | apply Kd.R_alloc | apply Kd.R_drewN | apply Kd.R_drew)); exact HO216.out) hb); have n6_ := Aside0.mk (Kd.R_below (by (with_reducible repeat (first | apply Kd.R_alloc | apply Kd.R_drewN | apply Kd.R_drew)); exact HO219.out) hb); have n7_ := Aside0.mk (Kd.R_below (by (with_reducible repeat (first | apply Kd.R_alloc | apply Kd.R_drewN | apply Kd.R_drew)); exact HO223.out) hb); have n8_ := Aside0.mk (Kd.S_below (by (with_reducible repeat (first | apply Kd.S_alloc | apply Kd.S_drewN | apply Kd.S_drew)); exact HO225.out) hb); have n9_ := Aside0.mk (below_step (by repeat (first | (with_reducible first | exact HB.out | apply below_alloc | apply pw_below_drewN | apply below_drew1) | exact HB.out)) hb); clear HO201; clear HO204; clear HO207; clear HO211; clear HO213; clear HO216; clear HO219; clear HO223; clear HO225; clear HB; have HO201 := n0_; have HO204 := n1_; have HO207 := n2_; have HO211 := n3_; have HO213 := n4_; have HO216 := n5_; have HO219 := n6_; have HO223 := n7_; have HO225 := n8_; have HB := n9_; clear n0_ n1_ n2_ n3_ n4_ n5_ n6_ n7_ n8_ n9_; (try clear hb); (try clear hb2); (try clear hk); (try clear hi)))
                go_ret
                exact ⟨by first | rfl | (simp [errW_none, errW_some] <;> rfl) | (simp only [← hji29]; first | rfl | (simp [errW_none, errW_some] <;> rfl)) | (simp [*, errW_none, errW_some] <;> rfl), by repeat (first | (with_reducible first | exact HB.out | apply below_alloc | apply pw_below_drewN | apply below_drew1) | exact HB.out)⟩
               ·replace c46 := Bool.eq_false_iff.mpr c46
                subst c46
                have H1 : (some false) = some r := by rw [if_neg (show ¬ (false = true) by decide)] at H; exact H
                clear H
                have H := H1
                clear H1
                obtain rfl := Option.some.inj H
                try go_wp2
                have n0_ := Aside0.mk (below_drew1 HB.out)
                clear HB
                have HB := n0_
                clear n0_
                have q73 : ((ji29) : Int) ≤ ((l2.length : Int) : Int) := of_decide_eq_true (by first | (with_reducible assumption) | assumption)
                obtain ⟨i073, hi073, _, hsz73, _⟩ := info_parts info28
                have hroom73 : l2.length ≤ c2 := HC2.out
                have hC73 : Kd.C k28 _ A2 l2.length l2 := HR2.out
                have q073 : (0 : Int) ≤ ((ji29) : Int) := of_decide_eq_true (by first | (with_reducible assumption) | assumption)
                have hcut73 := cut_from (P := Tryz.prog) 22 28 .i64 Tryz.underlying22 hi073 3 hsz73 A2 l2.length c2 (ji29) q073 q73
                have hr73 := Kd.C_drop (m := ((ji29) : Int).toNat) (c := c2) hC73 (by omega) hroom73
                obtain ⟨A73, hA73⟩ : ∃ A1, A1 = (if c2 = ((ji29) : Int).toNat then A2 else (A2 : Option Addr).map (·.add (((ji29) : Int).toNat * 3))) := ⟨_, rfl⟩
                obtain ⟨c73, hc73⟩ : ∃ c1, c1 = c2 - ((ji29) : Int).toNat := ⟨_, rfl⟩
                have hy73 : y188.length = l2.length - ((ji29) : Int).toNat := (by rw [Ny188.out, List.length_drop] <;> omega)
                rw [show (l2).drop ((ji29) : Int).toNat = y188 from Ny188.out.symm] at hr73
                replace hr73 : Kd.C k28 _ A73 y188.length y188 := (by rw [hA73]; exact hr73)
                rw [← hy73, ← hA73, ← hc73] at hcut73
                have HR191 := Aside0.mk hr73
                have HC191 := Aside0.mk (show y188.length ≤ c73 from by rw [hy73, hc73]; exact Nat.sub_le_sub_right hroom73 _)
                clear hr73 hC73 hroom73 hi073 hsz73 hc73
                have KY73 := Aside0.mk hy73
                have KA73 := Aside0.mk hA73
                clear hy73 hA73
                replace q73 := eq_true q73
                have q74 : ((ji29) : Int) ≤ ((l2.length : Int) : Int) := of_decide_eq_true (by first | (with_reducible assumption) | assumption)
                obtain ⟨i074, hi074, _, hsz74, _⟩ := info_parts info28
                have hroom74 : l2.length ≤ c2 := HC2.out
                have hC74 : Kd.C k28 _ A2 l2.length l2 := HR2.out
                have hcut74 := cut_to (P := Tryz.prog) 22 28 .i64 Tryz.underlying22 hi074 A2 l2.length c2 (ji29) (of_decide_eq_true (by first | (with_reducible assumption) | assumption)) q74 hroom74
                have hr74 := Kd.C_take (m := ((ji29) : Int).toNat) hC74 (by omega)
                have hy74 : y195.length = ((ji29) : Int).toNat := (by rw [Ny195.out, List.length_take]; omega)
                rw [← Ny195.out] at hr74
                rw [← hy74] at hcut74
                have HR198 := Aside0.mk hr74
                have HC198 := Aside0.mk (show y195.length ≤ c2 from by omega)
                clear hr74 hC74 hroom74 hi074 hsz74
                have KY74 := Aside0.mk hy74
                clear hy74
                replace q74 := eq_true q74
                refine start_ (n := 10) (S := fun w' => True) (ds := []) #[false, false, false, false, false, false, false, false, false, false] (by kernel_rfl) rfl rfl trivial (fun hHeld => ?_); refine with_tabW laws_FnRolesOrder.tab6 laws_FnRolesOrder.bits6 (fun HT_ HW_ => ?_)
                generalize wc.drew = w72 at HB HR191 HR198 hHeld ⊢
                refine pure_ (i := 1) (N := some 73) (v := ?_) (a' := ?_) #[false, true, false, false, false, false, false, false, false, false] rfl rfl (any_of HT_.out (by kernel_rfl)) (fun _ _ _ h => h) (Or.inl ⟨by rfl, ?_⟩) ?_ ?_
                rotate_left
                ·intro w'
                 go_simp
                 with_reducible rfl
                rotate_left
                ·simp only [Act.put, List.setIfInBounds_toArray, List.set_cons_zero, List.set_cons_succ, i64_w, i32_w]
                 rfl
                refine pure_ (i := 2) (N := some 74) (v := ?_) (a' := ?_) #[false, true, true, false, false, false, false, false, false, false] rfl rfl (any_of HT_.out (by kernel_rfl)) (fun _ _ _ h => h) (Or.inl ⟨by rfl, ?_⟩) ?_ ?_
                rotate_left
                ·intro w'
                 go_simp
                 with_reducible rfl
                rotate_left
                ·simp only [Act.put, List.setIfInBounds_toArray, List.set_cons_zero, List.set_cons_succ, i64_w, i32_w]
                 rfl
                refine pure_ (i := 3) (N := some 75) (v := ?_) (a' := ?_) #[false, true, true, true, false, false, false, false, false, false] rfl rfl (any_of HT_.out (by kernel_rfl)) (fun _ _ _ h => h) (Or.inl ⟨by rfl, ?_⟩) ?_ ?_
                rotate_left
                ·intro w'
                 go_simp
                 with_reducible rfl
                rotate_left
                ·simp only [Act.put, List.setIfInBounds_toArray, List.set_cons_zero, List.set_cons_succ, i64_w, i32_w]
                 rfl
                refine pure_ (i := 5) (N := some 77) (v := ?_) (a' := ?_) #[false, true, true, true, false, true, false, false, false, false] rfl rfl (any_of HT_.out (by kernel_rfl)) (fun _ _ _ h => h) (Or.inl ⟨by rfl, ?_⟩) ?_ ?_
                rotate_left
                ·intro w'
                 go_simp
                 with_reducible rfl
                rotate_left
                ·simp only [Act.put, List.setIfInBounds_toArray, List.set_cons_zero, List.set_cons_succ, i64_w, i32_w]
                 rfl
                refine pure_ (i := 6) (N := some 78) (v := ?_) (a' := ?_) #[false, true, true, true, false, true, true, false, false, false] rfl rfl (any_of HT_.out (by kernel_rfl)) (fun _ _ _ h => h) (Or.inl ⟨by rfl, ?_⟩) ?_ ?_
                rotate_left
                ·intro w'
                 go_simp
                 with_reducible rfl
                rotate_left
                ·simp only [Act.put, List.setIfInBounds_toArray, List.set_cons_zero, List.set_cons_succ, i64_w, i32_w]
                 rfl
                refine pure_ (i := 7) (N := some 79) (v := ?_) (a' := ?_) #[false, true, true, true, false, true, true, true, false, false] rfl rfl (any_of HT_.out (by kernel_rfl)) (fun _ _ _ h => h) (Or.inl ⟨by rfl, ?_⟩) ?_ ?_
                rotate_left
                ·intro w'
                 go_simp
                 with_reducible rfl
                rotate_left
                ·simp only [Act.put, List.setIfInBounds_toArray, List.set_cons_zero, List.set_cons_succ, i64_w, i32_w]
                 rfl
                refine one_ (i := 0) (N := some 72) #[true, true, true, true, false, true, true, true, false, false] rfl rfl (one_of HT_.out (by kernel_rfl)) (by decide) (fun K hK => ?_)
                refine Kd.R_lit_step k28 _ 28 ?hg (N := 72) ?hd (xs := ([] : List (S28))) (inner := []) (ok := fun _ => True) (okp := fun _ => True) ?hr ?hp (fun _ hk => hk) trivial (Below.refl _ _) (Nat.le_refl _) (by simp) ?_; (case hd => rfl); (case hg => rfl); (case hr => first | (go_simp; done) | (go_simp; rfl)); (case hp => exact (Reps.none _ _))
                intro v186 w75 ho76 hb hg_ hnew_
                clear hg_ hnew_
                (first | rw [← Ny185.out] at ho76 | (simp only [Int.reduceToNat] at ho76; rw [← Ny185.out] at ho76))
                have n0_ := Aside0.mk (Kd.R_lower ho76 (below_size (by repeat (first | (with_reducible first | exact HB.out | apply below_alloc | apply pw_below_drewN | apply below_drew1) | exact HB.out))))
                have n1_ := Aside0.mk (below_step (by repeat (first | (with_reducible first | exact HB.out | apply below_alloc | apply pw_below_drewN | apply below_drew1) | exact HB.out)) hb)
                clear HB
                have HO187 := n0_
                have HB := n1_
                clear n0_ n1_
                clear hb ho76
                refine hK.out _ _ trivial (fun hHeld => ?_)
                clear hK K
                refine norm_ (a' := ?_) ?_ ?_
                rotate_left
                ·show Act.put _ (some 72) _ = _
                 simp only [Act.put, List.setIfInBounds_toArray, List.set_cons_zero, List.set_cons_succ, i64_w, i32_w]
                 rfl
                refine one_ (i := 4) (N := some 76) #[true, true, true, true, true, true, true, true, false, false] rfl rfl (one_of HT_.out (by kernel_rfl)) (by decide) (fun K hK => ?_)
                refine Kd.R_append_rows_step k28 (w0 := w) w.heap.size (by rfl) (.tmp 72) (.tmp 75) 22 28 (.agg #[(.string ⟨#[]⟩), (.string ⟨#[]⟩), (.string ⟨#[]⟩)]) 48 rfl Tryz.underlying22 info28 rfl (by decide) (by omega) v186 y185 y188 _ _ _ (fun _ => True) (fun _ => False) rfl rfl ?aO ?aR (fun _ _ h => h) (fun _ h => h.elim) ?aF ?aB ?aS ?aL ?_
                (case aR => repeat (first | exact (Kd.C_below HR191.out HB.out) | (with_reducible refine Kd.C_alloc ?_ _) | (with_reducible refine Kd.C_drewN ?_ _) | (with_reducible refine Kd.C_drew ?_)))
                (case aB => exact (by repeat (first | (with_reducible first | exact HB.out | apply below_alloc | apply pw_below_drewN | apply below_drew1) | exact HB.out)))
                (case aF => exact (fun _ _ => trivial))
                (case aO => exact (by (with_reducible repeat (first | apply Kd.R_alloc | apply Kd.R_drewN | apply Kd.R_drew)); exact HO187.out))
                (case aS => exact (below_size (by repeat (first | (with_reducible first | exact HB.out | apply below_alloc | apply pw_below_drewN | apply below_drew1) | exact HB.out))))
                (case aL => have := LMc32.out; omega)
                intro v193 w77 ho hb hg hat
                rw [← Ny192.out] at ho
                have n0_ := Aside0.mk (hb)
                have n1_ := Aside0.mk (ho)
                clear HB
                clear HO187
                have HB := n0_
                have HO194 := n1_
                clear n0_ n1_
                clear ho hb hg hat
                refine hK.out _ _ trivial (fun hHeld => ?_)
                clear hK K
                refine norm_ (a' := ?_) ?_ ?_
                rotate_left
                ·show Act.put _ (some 76) _ = _
                 simp only [Act.put, List.setIfInBounds_toArray, List.set_cons_zero, List.set_cons_succ, i64_w, i32_w]
                 rfl
                refine one_ (i := 8) (N := some 80) #[true, true, true, true, true, true, true, true, true, false] rfl rfl (one_of HT_.out (by kernel_rfl)) (by decide) (fun K hK => ?_)
                refine Kd.R_append_rows_step k28 (w0 := w) w.heap.size (by rfl) (.tmp 76) (.tmp 79) 22 28 (.agg #[(.string ⟨#[]⟩), (.string ⟨#[]⟩), (.string ⟨#[]⟩)]) 48 rfl Tryz.underlying22 info28 rfl (by decide) (by omega) v193 y192 y195 _ _ _ (fun _ => True) (fun _ => False) rfl rfl ?aO ?aR (fun _ _ h => h) (fun _ h => h.elim) ?aF ?aB ?aS ?aL ?_
                (case aR => repeat (first | exact (Kd.C_below HR198.out HB.out) | (with_reducible refine Kd.C_alloc ?_ _) | (with_reducible refine Kd.C_drewN ?_ _) | (with_reducible refine Kd.C_drew ?_)))
                (case aB => exact (by repeat (first | (with_reducible first | exact HB.out | apply below_alloc | apply pw_below_drewN | apply below_drew1) | exact HB.out)))
                (case aF => exact (fun _ _ => trivial))
                (case aO => exact (by (with_reducible repeat (first | apply Kd.R_alloc | apply Kd.R_drewN | apply Kd.R_drew)); exact HO194.out))
                (case aS => exact (below_size (by repeat (first | (with_reducible first | exact HB.out | apply below_alloc | apply pw_below_drewN | apply below_drew1) | exact HB.out))))
                (case aL => have := LMc35.out; omega)
                intro v200 w78 ho hb hg hat
                rw [← Ny199.out] at ho
                have n0_ := Aside0.mk (hb)
                have n1_ := Aside0.mk (ho)
                clear HB
                clear HO194
                have HB := n0_
                have HO201 := n1_
                clear n0_ n1_
                clear ho hb hg hat
                refine hK.out _ _ trivial (fun hHeld => ?_)
                clear hK K
                refine norm_ (a' := ?_) ?_ ?_
                rotate_left
                ·show Act.put _ (some 80) _ = _
                 simp only [Act.put, List.setIfInBounds_toArray, List.set_cons_zero, List.set_cons_succ, i64_w, i32_w]
                 rfl
                refine pure_ (i := 9) (N := some 16) (v := ?_) (a' := ?_) #[true, true, true, true, true, true, true, true, true, true] rfl rfl (any_of HT_.out (by kernel_rfl)) (fun _ _ _ h => h) (Or.inl ⟨by rfl, ?_⟩) ?_ ?_
                rotate_left
                ·intro w'
                 go_simp
                 with_reducible rfl
                rotate_left
                ·simp only [Act.put, List.setIfInBounds_toArray, List.set_cons_zero, List.set_cons_succ, i64_w, i32_w]
                 rfl
                refine done_ (done_of HT_.out (by kernel_rfl)) ?_
                try go_wp2_with (first | ((with_reducible refine gate_callee (f := 14) rfl ?_); refine goesL_ (some 85) rfl rfl Tryz.func14 (by kernel_rfl) rfl #[.slice A2 l2.length c2] rfl (by (try simp only [List.map_toArray, List.map_cons, List.map_nil]); first | done | rfl | (simp only [List.length_drop, List.length_take]; rfl)) ?_; (with_reducible refine (laws_added.calls kj17 _ _ l2 t202 _ ?side1 ?side2 A36.out).mono ?_); (case side1 => repeat (first | exact (Kd.C_below HR2.out HB.out) | (with_reducible refine Kd.C_alloc ?_ _) | (with_reducible refine Kd.C_drewN ?_ _) | (with_reducible refine Kd.C_drew ?_))); (case side2 => exact HC2.out); rintro e w79 ⟨v203, rfl, ho0, hb⟩; refine ⟨_, rfl, ?_⟩; have n0_ := Aside0.mk (Kd.R_below (by (with_reducible repeat (first | apply Kd.R_alloc | apply Kd.R_drewN | apply Kd.R_drew)); exact HO201.out) hb); have n1_ := Aside0.mk (Kd.R_lower ho0 (below_size (by repeat (first | (with_reducible first | exact HB.out | apply below_alloc | apply pw_below_drewN | apply below_drew1) | exact HB.out)))); have n2_ := Aside0.mk (below_step (by repeat (first | (with_reducible first | exact HB.out | apply below_alloc | apply pw_below_drewN | apply below_drew1) | exact HB.out)) hb); clear HO201; clear HB; have HO201 := n0_; have HO204 := n1_; have HB := n2_; clear n0_ n1_ n2_; (try clear hb); (try clear hb2); (try clear hk); (try clear hi); (try clear ho0)) | ((with_reducible refine gate_callee (f := 15) rfl ?_); refine goesL_ (some 89) rfl rfl Tryz.func15 (by kernel_rfl) rfl #[.string a4, .string a5, .string a6] rfl (by (try simp only [List.map_toArray, List.map_cons, List.map_nil]); first | done | rfl | (simp only [List.length_drop, List.length_take]; rfl)) ?_; (with_reducible refine (laws_all.calls a4 a5 a6 t205 _ A37.out).mono ?_); rintro e w80 ⟨v206, rfl, ho0, hb⟩; refine ⟨_, rfl, ?_⟩; have n0_ := Aside0.mk (Kd.R_below (by (with_reducible repeat (first | apply Kd.R_alloc | apply Kd.R_drewN | apply Kd.R_drew)); exact HO201.out) hb); have n1_ := Aside0.mk (Kd.R_below (by (with_reducible repeat (first | apply Kd.R_alloc | apply Kd.R_drewN | apply Kd.R_drew)); exact HO204.out) hb); have n2_ := Aside0.mk (Kd.R_lower ho0 (below_size (by repeat (first | (with_reducible first | exact HB.out | apply below_alloc | apply pw_below_drewN | apply below_drew1) | exact HB.out)))); have n3_ := Aside0.mk (below_step (by repeat (first | (with_reducible first | exact HB.out | apply below_alloc | apply pw_below_drewN | apply below_drew1) | exact HB.out)) hb); clear HO201; clear HO204; clear HB; have HO201 := n0_; have HO204 := n1_; have HO207 := n2_; have HB := n3_; clear n0_ n1_ n2_ n3_; (try clear hb); (try clear hb2); (try clear hk); (try clear hi); (try clear ho0); obtain ⟨Ao81, co81, eo81⟩ := Kd.R_slice HO204.out; subst eo81; obtain ⟨Ao82, co82, eo82⟩ := Kd.R_slice HO207.out; subst eo82) | ((with_reducible refine gate_callee (f := 13) rfl ?_); refine goesL_ (some 90) rfl rfl Tryz.func13 (by kernel_rfl) rfl #[.int .i64 a0, .bool a1, .int .i64 0, .int .i64 0, .slice Ao81 t202.length co81, .slice Ao82 t205.length co82] rfl (by (try simp only [List.map_toArray, List.map_cons, List.map_nil]); first | done | rfl | (simp only [List.length_drop, List.length_take]; rfl)) ?_; (with_reducible refine (impl_Roles.calls kj17 a0 a1 0 0 _ _ t202 _ _ t205 t208 t209 _ ?side1 ?side2 ?side3 ?side4 A38.out).mono ?_); (case side1 => repeat (first | exact (Kd.R_reads' HO204.out).2.2 | (with_reducible refine Kd.C_alloc ?_ _) | (with_reducible refine Kd.C_drewN ?_ _) | (with_reducible refine Kd.C_drew ?_))); (case side2 => exact (Kd.R_reads' HO204.out).2.1); (case side3 => repeat (first | exact (Kd.R_reads' HO207.out).2.2 | (with_reducible refine Kd.C_alloc ?_ _) | (with_reducible refine Kd.C_drewN ?_ _) | (with_reducible refine Kd.C_drew ?_))); (case side4 => exact (Kd.R_reads' HO207.out).2.1); rintro e w83 ⟨v210, v212, rfl, ho0, ⟨lp_t209, hp_, ho1⟩, hb⟩; have HTt209 := Aside0.mk hp_; have HLt209 := Aside0.mk hp_.len; (try rw [← hp_.len] at c44b0); (try rw [← hp_.len] at c44b1); clear hp_; refine ⟨_, rfl, ?_⟩; have n0_ := Aside0.mk (Kd.R_below (by (with_reducible repeat (first | apply Kd.R_alloc | apply Kd.R_drewN | apply Kd.R_drew)); exact HO201.out) hb); have n1_ := Aside0.mk (Kd.R_below (by (with_reducible repeat (first | apply Kd.R_alloc | apply Kd.R_drewN | apply Kd.R_drew)); exact HO204.out) hb); have n2_ := Aside0.mk (Kd.R_below (by (with_reducible repeat (first | apply Kd.R_alloc | apply Kd.R_drewN | apply Kd.R_drew)); exact HO207.out) hb); have n3_ := Aside0.mk (Kd.R_lower ho0 (below_size (by repeat (first | (with_reducible first | exact HB.out | apply below_alloc | apply pw_below_drewN | apply below_drew1) | exact HB.out)))); have n4_ := Aside0.mk (Kd.S_lower ho1 (below_size (by repeat (first | (with_reducible first | exact HB.out | apply below_alloc | apply pw_below_drewN | apply below_drew1) | exact HB.out)))); have n5_ := Aside0.mk (below_step (by repeat (first | (with_reducible first | exact HB.out | apply below_alloc | apply pw_below_drewN | apply below_drew1) | exact HB.out)) hb); clear HO201; clear HO204; clear HO207; clear HB; have HO201 := n0_; have HO204 := n1_; have HO207 := n2_; have HO211 := n3_; have HO213 := n4_; have HB := n5_; clear n0_ n1_ n2_ n3_ n4_ n5_; (try clear hb); (try clear hb2); (try clear hk); (try clear hi); (try clear ho0); (try clear ho1); obtain ⟨Ao84, co84, eo84⟩ := Kd.R_slice HO201.out; subst eo84) | ((with_reducible refine gate_callee (f := 14) rfl ?_); refine goesL_ (some 97) rfl rfl Tryz.func14 (by kernel_rfl) rfl #[.slice Ao84 y199.length co84] rfl (by (try simp only [List.map_toArray, List.map_cons, List.map_nil]); first | done | rfl | (simp only [List.length_drop, List.length_take]; rfl)) ?_; (with_reducible refine (laws_added.calls kj17 _ _ y199 t214 _ ?side1 ?side2 A39.out).mono ?_); (case side1 => repeat (first | exact (Kd.R_reads' HO201.out).2.2 | (with_reducible refine Kd.C_alloc ?_ _) | (with_reducible refine Kd.C_drewN ?_ _) | (with_reducible refine Kd.C_drew ?_))); (case side2 => exact (Kd.R_reads' HO201.out).2.1); rintro e w85 ⟨v215, rfl, ho0, hb⟩; refine ⟨_, rfl, ?_⟩; have n0_ := Aside0.mk (Kd.R_below (by (with_reducible repeat (first | apply Kd.R_alloc | apply Kd.R_drewN | apply Kd.R_drew)); exact HO201.out) hb); have n1_ := Aside0.mk (Kd.R_elder' (by (with_reducible repeat (first | apply Kd.R_alloc | apply Kd.R_drewN | apply Kd.R_drew)); exact HO204.out) (Kd.R_base ho0) hb); have n2_ := Aside0.mk (Kd.R_below (by (with_reducible repeat (first | apply Kd.R_alloc | apply Kd.R_drewN | apply Kd.R_drew)); exact HO207.out) hb); have n3_ := Aside0.mk (Kd.R_below (by (with_reducible repeat (first | apply Kd.R_alloc | apply Kd.R_drewN | apply Kd.R_drew)); exact HO211.out) hb); have n4_ := Aside0.mk (Kd.S_below (by (with_reducible repeat (first | apply Kd.S_alloc | apply Kd.S_drewN | apply Kd.S_drew)); exact HO213.out) hb); have n5_ := Aside0.mk (Kd.R_lower (Kd.R_new' ho0 (Kd.R_lt (by (with_reducible repeat (first | apply Kd.R_alloc | apply Kd.R_drewN | apply Kd.R_drew)); exact HO204.out))) (below_size (by repeat (first | (with_reducible first | exact HB.out | apply below_alloc | apply pw_below_drewN | apply below_drew1) | exact HB.out)))); have n6_ := Aside0.mk (below_step (by repeat (first | (with_reducible first | exact HB.out | apply below_alloc | apply pw_below_drewN | apply below_drew1) | exact HB.out)) hb); clear HO201; clear HO204; clear HO207; clear HO211; clear HO213; clear HB; have HO201 := n0_; have HO204 := n1_; have HO207 := n2_; have HO211 := n3_; have HO213 := n4_; have HO216 := n5_; have HB := n6_; clear n0_ n1_ n2_ n3_ n4_ n5_ n6_; (try clear hb); (try clear hb2); (try clear hk); (try clear hi); (try clear ho0)) | ((with_reducible refine gate_callee (f := 15) rfl ?_); refine goesL_ (some 101) rfl rfl Tryz.func15 (by kernel_rfl) rfl #[.string a4, .string a5, .string a6] rfl (by (try simp only [List.map_toArray, List.map_cons, List.map_nil]); first | done | rfl | (simp only [List.length_drop, List.length_take]; rfl)) ?_; (with_reducible refine (laws_all.calls a4 a5 a6 t217 _ A40.out).mono ?_); rintro e w86 ⟨v218, rfl, ho0, hb⟩; refine ⟨_, rfl, ?_⟩; have n0_ := Aside0.mk (Kd.R_below (by (with_reducible repeat (first | apply Kd.R_alloc | apply Kd.R_drewN | apply Kd.R_drew)); exact HO201.out) hb); have n1_ := Aside0.mk (Kd.R_below (by (with_reducible repeat (first | apply Kd.R_alloc | apply Kd.R_drewN | apply Kd.R_drew)); exact HO204.out) hb); have n2_ := Aside0.mk (Kd.R_elder' (by (with_reducible repeat (first | apply Kd.R_alloc | apply Kd.R_drewN | apply Kd.R_drew)); exact HO207.out) (Kd.R_base ho0) hb); have n3_ := Aside0.mk (Kd.R_below (by (with_reducible repeat (first | apply Kd.R_alloc | apply Kd.R_drewN | apply Kd.R_drew)); exact HO211.out) hb); have n4_ := Aside0.mk (Kd.S_below (by (with_reducible repeat (first | apply Kd.S_alloc | apply Kd.S_drewN | apply Kd.S_drew)); exact HO213.out) hb); have n5_ := Aside0.mk (Kd.R_below (by (with_reducible repeat (first | apply Kd.R_alloc | apply Kd.R_drewN | apply Kd.R_drew)); exact HO216.out) hb); have n6_ := Aside0.mk (Kd.R_lower (Kd.R_new' ho0 (Kd.R_lt (by (with_reducible repeat (first | apply Kd.R_alloc | apply Kd.R_drewN | apply Kd.R_drew)); exact HO207.out))) (below_size (by repeat (first | (with_reducible first | exact HB.out | apply below_alloc | apply pw_below_drewN | apply below_drew1) | exact HB.out)))); have n7_ := Aside0.mk (below_step (by repeat (first | (with_reducible first | exact HB.out | apply below_alloc | apply pw_below_drewN | apply below_drew1) | exact HB.out)) hb); clear HO201; clear HO204; clear HO207; clear HO211; clear HO213; clear HO216; clear HB; have HO201 := n0_; have HO204 := n1_; have HO207 := n2_; have HO211 := n3_; have HO213 := n4_; have HO216 := n5_; have HO219 := n6_; have HB := n7_; clear n0_ n1_ n2_ n3_ n4_ n5_ n6_ n7_; (try clear hb); (try clear hb2); (try clear hk); (try clear hi); (try clear ho0); obtain ⟨Ao87, co87, eo87⟩ := Kd.R_slice HO216.out; subst eo87; obtain ⟨Ao88, co88, eo88⟩ := Kd.R_slice HO219.out; subst eo88) | ((with_reducible refine gate_callee (f := 13) rfl ?_); refine goesL_ (some 102) rfl rfl Tryz.func13 (by kernel_rfl) rfl #[.int .i64 a0, .bool a1, .int .i64 0, .int .i64 0, .slice Ao87 t214.length co87, .slice Ao88 t217.length co88] rfl (by (try simp only [List.map_toArray, List.map_cons, List.map_nil]); first | done | rfl | (simp only [List.length_drop, List.length_take]; rfl)) ?_; (with_reducible refine (impl_Roles.calls kj17 a0 a1 0 0 _ _ t214 _ _ t217 t220 t221 _ ?side1 ?side2 ?side3 ?side4 A41.out).mono ?_); (case side1 => repeat (first | exact (Kd.R_reads' HO216.out).2.2 | (with_reducible refine Kd.C_alloc ?_ _) | (with_reducible refine Kd.C_drewN ?_ _) | (with_reducible refine Kd.C_drew ?_))); (case side2 => exact (Kd.R_reads' HO216.out).2.1); (case side3 => repeat (first | exact (Kd.R_reads' HO219.out).2.2 | (with_reducible refine Kd.C_alloc ?_ _) | (with_reducible refine Kd.C_drewN ?_ _) | (with_reducible refine Kd.C_drew ?_))); (case side4 => exact (Kd.R_reads' HO219.out).2.1); rintro e w89 ⟨v222, v224, rfl, ho0, ⟨lp_t221, hp_, ho1⟩, hb⟩; have HTt221 := Aside0.mk hp_; have HLt221 := Aside0.mk hp_.len; clear hp_; refine ⟨_, rfl, ?_⟩; have n0_ := Aside0.mk (Kd.R_below (by (with_reducible repeat (first | apply Kd.R_alloc | apply Kd.R_drewN | apply Kd.R_drew)); exact HO201.out) hb); have n1_ := Aside0.mk (Kd.R_below (by (with_reducible repeat (first | apply Kd.R_alloc | apply Kd.R_drewN | apply Kd.R_drew)); exact HO204.out) hb); have n2_ := Aside0.mk (Kd.R_below (by (with_reducible repeat (first | apply Kd.R_alloc | apply Kd.R_drewN | apply Kd.R_drew)); exact HO207.out) hb); have n3_ := Aside0.mk (Kd.R_elder' (by (with_reducible repeat (first | apply Kd.R_alloc | apply Kd.R_drewN | apply Kd.R_drew)); exact HO211.out) (Kd.R_base ho0) hb); have n4_ := Aside0.mk (Kd.S_elder' (by (with_reducible repeat (first | apply Kd.S_alloc | apply Kd.S_drewN | apply Kd.S_drew)); exact HO213.out) (Kd.S_base ho1) hb); have n5_ := Aside0.mk (Kd.R_below (by (with_reducible repeat (first | apply Kd.R_alloc | apply Kd.R_drewN | apply Kd.R_drew)); exact HO216.out) hb); have n6_ := Aside0.mk (Kd.R_below (by (with_reducible repeat (first | apply Kd.R_alloc | apply Kd.R_drewN | apply Kd.R_drew)); exact HO219.out) hb); have n7_ := Aside0.mk (Kd.R_lower (Kd.R_new' ho0 (Kd.R_lt (by (with_reducible repeat (first | apply Kd.R_alloc | apply Kd.R_drewN | apply Kd.R_drew)); exact HO211.out))) (below_size (by repeat (first | (with_reducible first | exact HB.out | apply below_alloc | apply pw_below_drewN | apply below_drew1) | exact HB.out)))); have n8_ := Aside0.mk (Kd.S_lower (Kd.S_new' ho1 (Kd.S_lt (by (with_reducible repeat (first | apply Kd.S_alloc | apply Kd.S_drewN | apply Kd.S_drew)); exact HO213.out))) (below_size (by repeat (first | (with_reducible first | exact HB.out | apply below_alloc | apply pw_below_drewN | apply below_drew1) | exact HB.out)))); have n9_ := Aside0.mk (below_step (by repeat (first | (with_reducible first | exact HB.out | apply below_alloc | apply pw_below_drewN | apply below_drew1) | exact HB.out)) hb); clear HO201; clear HO204; clear HO207; clear HO211; clear HO213; clear HO216; clear HO219; clear HB; have HO201 := n0_; have HO204 := n1_; have HO207 := n2_; have HO211 := n3_; have HO213 := n4_; have HO216 := n5_; have HO219 := n6_; have HO223 := n7_; have HO225 := n8_; have HB := n9_; clear n0_ n1_ n2_ n3_ n4_ n5_ n6_ n7_ n8_ n9_; (try clear hb); (try clear hb2); (try clear hk); (try clear hi); (try clear ho0); (try clear ho1); obtain ⟨Ao90, co90, eo90⟩ := Kd.R_slice HO211.out; subst eo90; obtain ⟨Ao91, co91, eo91⟩ := Kd.R_slice HO223.out; subst eo91; obtain ⟨Ao92, co92, eo92⟩ := Kd.S_slice HO213.out; subst eo92; obtain ⟨Ao93, co93, eo93⟩ := Kd.S_slice HO225.out; subst eo93) | (go_at_call 16; (with_reducible refine (laws_sameTold.calls _ _ _ lp_t209 _ _ lp_t221 false _ ?side1 ?side2 ?side3 ?side4 (sameTold_told HTt209.out HTt221.out A45.out).choose_spec).mono ?_); (case side1 => repeat (first | exact (Kd.S_reads' HO213.out).2.2 | (with_reducible refine Kd.C_alloc ?_ _) | (with_reducible refine Kd.C_drewN ?_ _) | (with_reducible refine Kd.C_drew ?_))); (case side2 => exact (Kd.S_reads' HO213.out).2.1); (case side3 => repeat (first | exact (Kd.S_reads' HO225.out).2.2 | (with_reducible refine Kd.C_alloc ?_ _) | (with_reducible refine Kd.C_drewN ?_ _) | (with_reducible refine Kd.C_drew ?_))); (case side4 => exact (Kd.S_reads' HO225.out).2.1); rintro e w94 ⟨rfl, hb⟩; have n0_ := Aside0.mk (Kd.R_below (by (with_reducible repeat (first | apply Kd.R_alloc | apply Kd.R_drewN | apply Kd.R_drew)); exact HO201.out) hb); have n1_ := Aside0.mk (Kd.R_below (by (with_reducible repeat (first | apply Kd.R_alloc | apply Kd.R_drewN | apply Kd.R_drew)); exact HO204.out) hb); have n2_ := Aside0.mk (Kd.R_below (by (with_reducible repeat (first | apply Kd.R_alloc | apply Kd.R_drewN | apply Kd.R_drew)); exact HO207.out) hb); have n3_ := Aside0.mk (Kd.R_below (by (with_reducible repeat (first | apply Kd.R_alloc | apply Kd.R_drewN | apply Kd.R_drew)); exact HO211.out) hb); have n4_ := Aside0.mk (Kd.S_below (by (with_reducible repeat (first | apply Kd.S_alloc | apply Kd.S_drewN | apply Kd.S_drew)); exact HO213.out) hb); have n5_ := Aside0.mk (Kd.R_below (by (with_reducible repeat (first | apply Kd.R_alloc | apply Kd.R_drewN | apply Kd.R_drew)); exact HO216.out) hb); have n6_ := Aside0.mk (Kd.R_below (by (with_reducible repeat (first | apply Kd.R_alloc | apply Kd.R_drewN | apply Kd.R_drew)); exact HO219.out) hb); have n7_ := Aside0.mk (Kd.R_below (by (with_reducible repeat (first | apply Kd.R_alloc | apply Kd.R_drewN | apply Kd.R_drew)); exact HO223.out) hb); have n8_ := Aside0.mk (Kd.S_below (by (with_reducible repeat (first | apply Kd.S_alloc | apply Kd.S_drewN | apply Kd.S_drew)); exact HO225.out) hb); have n9_ := Aside0.mk (below_step (by repeat (first | (with_reducible first | exact HB.out | apply below_alloc | apply pw_below_drewN | apply below_drew1) | exact HB.out)) hb); clear HO201; clear HO204; clear HO207; clear HO211; clear HO213; clear HO216; clear HO219; clear HO223; clear HO225; clear HB; have HO201 := n0_; have HO204 := n1_; have HO207 := n2_; have HO211 := n3_; have HO213 := n4_; have HO216 := n5_; have HO219 := n6_; have HO223 := n7_; have HO225 := n8_; have HB := n9_; clear n0_ n1_ n2_ n3_ n4_ n5_ n6_ n7_ n8_ n9_; (try clear hb); (try clear hb2); (try clear hk); (try clear hi)))
                go_ret
                exact ⟨by first | rfl | (simp [errW_none, errW_some] <;> rfl) | (simp only [← hji29]; first | rfl | (simp [errW_none, errW_some] <;> rfl)) | (simp [*, errW_none, errW_some] <;> rfl), by repeat (first | (with_reducible first | exact HB.out | apply below_alloc | apply pw_below_drewN | apply below_drew1) | exact HB.out)⟩
              ·rw [if_neg c44] at H
               have c44b0 : ((t209.length : Int) == 8) = false := beq_eq_false_iff_ne.mpr c44
               try rw [← HLt209.out] at c44b0
               have c44b1 : ((t209.length : Int) != 8) = true := bne_iff_ne.mpr c44
               try rw [← HLt209.out] at c44b1
               obtain rfl := Option.some.inj H
               try go_wp2
               have n0_ := Aside0.mk (below_drew1 HB.out)
               clear HB
               have HB := n0_
               clear n0_
               have q96 : ((ji29) : Int) ≤ ((l2.length : Int) : Int) := of_decide_eq_true (by first | (with_reducible assumption) | assumption)
               obtain ⟨i096, hi096, _, hsz96, _⟩ := info_parts info28
               have hroom96 : l2.length ≤ c2 := HC2.out
               have hC96 : Kd.C k28 _ A2 l2.length l2 := HR2.out
               have q096 : (0 : Int) ≤ ((ji29) : Int) := of_decide_eq_true (by first | (with_reducible assumption) | assumption)
               have hcut96 := cut_from (P := Tryz.prog) 22 28 .i64 Tryz.underlying22 hi096 3 hsz96 A2 l2.length c2 (ji29) q096 q96
               have hr96 := Kd.C_drop (m := ((ji29) : Int).toNat) (c := c2) hC96 (by omega) hroom96
               obtain ⟨A96, hA96⟩ : ∃ A1, A1 = (if c2 = ((ji29) : Int).toNat then A2 else (A2 : Option Addr).map (·.add (((ji29) : Int).toNat * 3))) := ⟨_, rfl⟩
               obtain ⟨c96, hc96⟩ : ∃ c1, c1 = c2 - ((ji29) : Int).toNat := ⟨_, rfl⟩
               have hy96 : y188.length = l2.length - ((ji29) : Int).toNat := (by rw [Ny188.out, List.length_drop] <;> omega)
               rw [show (l2).drop ((ji29) : Int).toNat = y188 from Ny188.out.symm] at hr96
               replace hr96 : Kd.C k28 _ A96 y188.length y188 := (by rw [hA96]; exact hr96)
               rw [← hy96, ← hA96, ← hc96] at hcut96
               have HR191 := Aside0.mk hr96
               have HC191 := Aside0.mk (show y188.length ≤ c96 from by rw [hy96, hc96]; exact Nat.sub_le_sub_right hroom96 _)
               clear hr96 hC96 hroom96 hi096 hsz96 hc96
               have KY96 := Aside0.mk hy96
               have KA96 := Aside0.mk hA96
               clear hy96 hA96
               replace q96 := eq_true q96
               have q97 : ((ji29) : Int) ≤ ((l2.length : Int) : Int) := of_decide_eq_true (by first | (with_reducible assumption) | assumption)
               obtain ⟨i097, hi097, _, hsz97, _⟩ := info_parts info28
               have hroom97 : l2.length ≤ c2 := HC2.out
               have hC97 : Kd.C k28 _ A2 l2.length l2 := HR2.out
               have hcut97 := cut_to (P := Tryz.prog) 22 28 .i64 Tryz.underlying22 hi097 A2 l2.length c2 (ji29) (of_decide_eq_true (by first | (with_reducible assumption) | assumption)) q97 hroom97
               have hr97 := Kd.C_take (m := ((ji29) : Int).toNat) hC97 (by omega)
               have hy97 : y195.length = ((ji29) : Int).toNat := (by rw [Ny195.out, List.length_take]; omega)
               rw [← Ny195.out] at hr97
               rw [← hy97] at hcut97
               have HR198 := Aside0.mk hr97
               have HC198 := Aside0.mk (show y195.length ≤ c2 from by omega)
               clear hr97 hC97 hroom97 hi097 hsz97
               have KY97 := Aside0.mk hy97
               clear hy97
               replace q97 := eq_true q97
               refine start_ (n := 10) (S := fun w' => True) (ds := []) #[false, false, false, false, false, false, false, false, false, false] (by kernel_rfl) rfl rfl trivial (fun hHeld => ?_); refine with_tabW laws_FnRolesOrder.tab6 laws_FnRolesOrder.bits6 (fun HT_ HW_ => ?_)
               generalize wc.drew = w95 at HB HR191 HR198 hHeld ⊢
               refine pure_ (i := 1) (N := some 73) (v := ?_) (a' := ?_) #[false, true, false, false, false, false, false, false, false, false] rfl rfl (any_of HT_.out (by kernel_rfl)) (fun _ _ _ h => h) (Or.inl ⟨by rfl, ?_⟩) ?_ ?_
               rotate_left
               ·intro w'
                go_simp
                with_reducible rfl
               rotate_left
               ·simp only [Act.put, List.setIfInBounds_toArray, List.set_cons_zero, List.set_cons_succ, i64_w, i32_w]
                rfl
               refine pure_ (i := 2) (N := some 74) (v := ?_) (a' := ?_) #[false, true, true, false, false, false, false, false, false, false] rfl rfl (any_of HT_.out (by kernel_rfl)) (fun _ _ _ h => h) (Or.inl ⟨by rfl, ?_⟩) ?_ ?_
               rotate_left
               ·intro w'
                go_simp
                with_reducible rfl
               rotate_left
               ·simp only [Act.put, List.setIfInBounds_toArray, List.set_cons_zero, List.set_cons_succ, i64_w, i32_w]
                rfl
               refine pure_ (i := 3) (N := some 75) (v := ?_) (a' := ?_) #[false, true, true, true, false, false, false, false, false, false] rfl rfl (any_of HT_.out (by kernel_rfl)) (fun _ _ _ h => h) (Or.inl ⟨by rfl, ?_⟩) ?_ ?_
               rotate_left
               ·intro w'
                go_simp
                with_reducible rfl
               rotate_left
               ·simp only [Act.put, List.setIfInBounds_toArray, List.set_cons_zero, List.set_cons_succ, i64_w, i32_w]
                rfl
               refine pure_ (i := 5) (N := some 77) (v := ?_) (a' := ?_) #[false, true, true, true, false, true, false, false, false, false] rfl rfl (any_of HT_.out (by kernel_rfl)) (fun _ _ _ h => h) (Or.inl ⟨by rfl, ?_⟩) ?_ ?_
               rotate_left
               ·intro w'
                go_simp
                with_reducible rfl
               rotate_left
               ·simp only [Act.put, List.setIfInBounds_toArray, List.set_cons_zero, List.set_cons_succ, i64_w, i32_w]
                rfl
               refine pure_ (i := 6) (N := some 78) (v := ?_) (a' := ?_) #[false, true, true, true, false, true, true, false, false, false] rfl rfl (any_of HT_.out (by kernel_rfl)) (fun _ _ _ h => h) (Or.inl ⟨by rfl, ?_⟩) ?_ ?_
               rotate_left
               ·intro w'
                go_simp
                with_reducible rfl
               rotate_left
               ·simp only [Act.put, List.setIfInBounds_toArray, List.set_cons_zero, List.set_cons_succ, i64_w, i32_w]
                rfl
               refine pure_ (i := 7) (N := some 79) (v := ?_) (a' := ?_) #[false, true, true, true, false, true, true, true, false, false] rfl rfl (any_of HT_.out (by kernel_rfl)) (fun _ _ _ h => h) (Or.inl ⟨by rfl, ?_⟩) ?_ ?_
               rotate_left
               ·intro w'
                go_simp
                with_reducible rfl
               rotate_left
               ·simp only [Act.put, List.setIfInBounds_toArray, List.set_cons_zero, List.set_cons_succ, i64_w, i32_w]
                rfl
               refine one_ (i := 0) (N := some 72) #[true, true, true, true, false, true, true, true, false, false] rfl rfl (one_of HT_.out (by kernel_rfl)) (by decide) (fun K hK => ?_)
               refine Kd.R_lit_step k28 _ 28 ?hg (N := 72) ?hd (xs := ([] : List (S28))) (inner := []) (ok := fun _ => True) (okp := fun _ => True) ?hr ?hp (fun _ hk => hk) trivial (Below.refl _ _) (Nat.le_refl _) (by simp) ?_; (case hd => rfl); (case hg => rfl); (case hr => first | (go_simp; done) | (go_simp; rfl)); (case hp => exact (Reps.none _ _))
               intro v186 w98 ho99 hb hg_ hnew_
               clear hg_ hnew_
               (first | rw [← Ny185.out] at ho99 | (simp only [Int.reduceToNat] at ho99; rw [← Ny185.out] at ho99))
               have n0_ := Aside0.mk (Kd.R_lower ho99 (below_size (by repeat (first | (with_reducible first | exact HB.out | apply below_alloc | apply pw_below_drewN | apply below_drew1) | exact HB.out))))
               have n1_ := Aside0.mk (below_step (by repeat (first | (with_reducible first | exact HB.out | apply below_alloc | apply pw_below_drewN | apply below_drew1) | exact HB.out)) hb)
               clear HB
               have HO187 := n0_
               have HB := n1_
               clear n0_ n1_
               clear hb ho99
               refine hK.out _ _ trivial (fun hHeld => ?_)
               clear hK K
               refine norm_ (a' := ?_) ?_ ?_
               rotate_left
               ·show Act.put _ (some 72) _ = _
                simp only [Act.put, List.setIfInBounds_toArray, List.set_cons_zero, List.set_cons_succ, i64_w, i32_w]
                rfl
               refine one_ (i := 4) (N := some 76) #[true, true, true, true, true, true, true, true, false, false] rfl rfl (one_of HT_.out (by kernel_rfl)) (by decide) (fun K hK => ?_)
               refine Kd.R_append_rows_step k28 (w0 := w) w.heap.size (by rfl) (.tmp 72) (.tmp 75) 22 28 (.agg #[(.string ⟨#[]⟩), (.string ⟨#[]⟩), (.string ⟨#[]⟩)]) 48 rfl Tryz.underlying22 info28 rfl (by decide) (by omega) v186 y185 y188 _ _ _ (fun _ => True) (fun _ => False) rfl rfl ?aO ?aR (fun _ _ h => h) (fun _ h => h.elim) ?aF ?aB ?aS ?aL ?_
               (case aR => repeat (first | exact (Kd.C_below HR191.out HB.out) | (with_reducible refine Kd.C_alloc ?_ _) | (with_reducible refine Kd.C_drewN ?_ _) | (with_reducible refine Kd.C_drew ?_)))
               (case aB => exact (by repeat (first | (with_reducible first | exact HB.out | apply below_alloc | apply pw_below_drewN | apply below_drew1) | exact HB.out)))
               (case aF => exact (fun _ _ => trivial))
               (case aO => exact (by (with_reducible repeat (first | apply Kd.R_alloc | apply Kd.R_drewN | apply Kd.R_drew)); exact HO187.out))
               (case aS => exact (below_size (by repeat (first | (with_reducible first | exact HB.out | apply below_alloc | apply pw_below_drewN | apply below_drew1) | exact HB.out))))
               (case aL => have := LMc32.out; omega)
               intro v193 w100 ho hb hg hat
               rw [← Ny192.out] at ho
               have n0_ := Aside0.mk (hb)
               have n1_ := Aside0.mk (ho)
               clear HB
               clear HO187
               have HB := n0_
               have HO194 := n1_
               clear n0_ n1_
               clear ho hb hg hat
               refine hK.out _ _ trivial (fun hHeld => ?_)
               clear hK K
               refine norm_ (a' := ?_) ?_ ?_
               rotate_left
               ·show Act.put _ (some 76) _ = _
                simp only [Act.put, List.setIfInBounds_toArray, List.set_cons_zero, List.set_cons_succ, i64_w, i32_w]
                rfl
               refine one_ (i := 8) (N := some 80) #[true, true, true, true, true, true, true, true, true, false] rfl rfl (one_of HT_.out (by kernel_rfl)) (by decide) (fun K hK => ?_)
               refine Kd.R_append_rows_step k28 (w0 := w) w.heap.size (by rfl) (.tmp 76) (.tmp 79) 22 28 (.agg #[(.string ⟨#[]⟩), (.string ⟨#[]⟩), (.string ⟨#[]⟩)]) 48 rfl Tryz.underlying22 info28 rfl (by decide) (by omega) v193 y192 y195 _ _ _ (fun _ => True) (fun _ => False) rfl rfl ?aO ?aR (fun _ _ h => h) (fun _ h => h.elim) ?aF ?aB ?aS ?aL ?_
               (case aR => repeat (first | exact (Kd.C_below HR198.out HB.out) | (with_reducible refine Kd.C_alloc ?_ _) | (with_reducible refine Kd.C_drewN ?_ _) | (with_reducible refine Kd.C_drew ?_)))
               (case aB => exact (by repeat (first | (with_reducible first | exact HB.out | apply below_alloc | apply pw_below_drewN | apply below_drew1) | exact HB.out)))
               (case aF => exact (fun _ _ => trivial))
               (case aO => exact (by (with_reducible repeat (first | apply Kd.R_alloc | apply Kd.R_drewN | apply Kd.R_drew)); exact HO194.out))
               (case aS => exact (below_size (by repeat (first | (with_reducible first | exact HB.out | apply below_alloc | apply pw_below_drewN | apply below_drew1) | exact HB.out))))
               (case aL => have := LMc35.out; omega)
               intro v200 w101 ho hb hg hat
               rw [← Ny199.out] at ho
               have n0_ := Aside0.mk (hb)
               have n1_ := Aside0.mk (ho)
               clear HB
               clear HO194
               have HB := n0_
               have HO201 := n1_
               clear n0_ n1_
               clear ho hb hg hat
               refine hK.out _ _ trivial (fun hHeld => ?_)
               clear hK K
               refine norm_ (a' := ?_) ?_ ?_
               rotate_left
               ·show Act.put _ (some 80) _ = _
                simp only [Act.put, List.setIfInBounds_toArray, List.set_cons_zero, List.set_cons_succ, i64_w, i32_w]
                rfl
               refine pure_ (i := 9) (N := some 16) (v := ?_) (a' := ?_) #[true, true, true, true, true, true, true, true, true, true] rfl rfl (any_of HT_.out (by kernel_rfl)) (fun _ _ _ h => h) (Or.inl ⟨by rfl, ?_⟩) ?_ ?_
               rotate_left
               ·intro w'
                go_simp
                with_reducible rfl
               rotate_left
               ·simp only [Act.put, List.setIfInBounds_toArray, List.set_cons_zero, List.set_cons_succ, i64_w, i32_w]
                rfl
               refine done_ (done_of HT_.out (by kernel_rfl)) ?_
               try go_wp2_with (first | ((with_reducible refine gate_callee (f := 14) rfl ?_); refine goesL_ (some 85) rfl rfl Tryz.func14 (by kernel_rfl) rfl #[.slice A2 l2.length c2] rfl (by (try simp only [List.map_toArray, List.map_cons, List.map_nil]); first | done | rfl | (simp only [List.length_drop, List.length_take]; rfl)) ?_; (with_reducible refine (laws_added.calls kj17 _ _ l2 t202 _ ?side1 ?side2 A36.out).mono ?_); (case side1 => repeat (first | exact (Kd.C_below HR2.out HB.out) | (with_reducible refine Kd.C_alloc ?_ _) | (with_reducible refine Kd.C_drewN ?_ _) | (with_reducible refine Kd.C_drew ?_))); (case side2 => exact HC2.out); rintro e w102 ⟨v203, rfl, ho0, hb⟩; refine ⟨_, rfl, ?_⟩; have n0_ := Aside0.mk (Kd.R_below (by (with_reducible repeat (first | apply Kd.R_alloc | apply Kd.R_drewN | apply Kd.R_drew)); exact HO201.out) hb); have n1_ := Aside0.mk (Kd.R_lower ho0 (below_size (by repeat (first | (with_reducible first | exact HB.out | apply below_alloc | apply pw_below_drewN | apply below_drew1) | exact HB.out)))); have n2_ := Aside0.mk (below_step (by repeat (first | (with_reducible first | exact HB.out | apply below_alloc | apply pw_below_drewN | apply below_drew1) | exact HB.out)) hb); clear HO201; clear HB; have HO201 := n0_; have HO204 := n1_; have HB := n2_; clear n0_ n1_ n2_; (try clear hb); (try clear hb2); (try clear hk); (try clear hi); (try clear ho0)) | ((with_reducible refine gate_callee (f := 15) rfl ?_); refine goesL_ (some 89) rfl rfl Tryz.func15 (by kernel_rfl) rfl #[.string a4, .string a5, .string a6] rfl (by (try simp only [List.map_toArray, List.map_cons, List.map_nil]); first | done | rfl | (simp only [List.length_drop, List.length_take]; rfl)) ?_; (with_reducible refine (laws_all.calls a4 a5 a6 t205 _ A37.out).mono ?_); rintro e w103 ⟨v206, rfl, ho0, hb⟩; refine ⟨_, rfl, ?_⟩; have n0_ := Aside0.mk (Kd.R_below (by (with_reducible repeat (first | apply Kd.R_alloc | apply Kd.R_drewN | apply Kd.R_drew)); exact HO201.out) hb); have n1_ := Aside0.mk (Kd.R_below (by (with_reducible repeat (first | apply Kd.R_alloc | apply Kd.R_drewN | apply Kd.R_drew)); exact HO204.out) hb); have n2_ := Aside0.mk (Kd.R_lower ho0 (below_size (by repeat (first | (with_reducible first | exact HB.out | apply below_alloc | apply pw_below_drewN | apply below_drew1) | exact HB.out)))); have n3_ := Aside0.mk (below_step (by repeat (first | (with_reducible first | exact HB.out | apply below_alloc | apply pw_below_drewN | apply below_drew1) | exact HB.out)) hb); clear HO201; clear HO204; clear HB; have HO201 := n0_; have HO204 := n1_; have HO207 := n2_; have HB := n3_; clear n0_ n1_ n2_ n3_; (try clear hb); (try clear hb2); (try clear hk); (try clear hi); (try clear ho0); obtain ⟨Ao104, co104, eo104⟩ := Kd.R_slice HO204.out; subst eo104; obtain ⟨Ao105, co105, eo105⟩ := Kd.R_slice HO207.out; subst eo105) | ((with_reducible refine gate_callee (f := 13) rfl ?_); refine goesL_ (some 90) rfl rfl Tryz.func13 (by kernel_rfl) rfl #[.int .i64 a0, .bool a1, .int .i64 0, .int .i64 0, .slice Ao104 t202.length co104, .slice Ao105 t205.length co105] rfl (by (try simp only [List.map_toArray, List.map_cons, List.map_nil]); first | done | rfl | (simp only [List.length_drop, List.length_take]; rfl)) ?_; (with_reducible refine (impl_Roles.calls kj17 a0 a1 0 0 _ _ t202 _ _ t205 t208 t209 _ ?side1 ?side2 ?side3 ?side4 A38.out).mono ?_); (case side1 => repeat (first | exact (Kd.R_reads' HO204.out).2.2 | (with_reducible refine Kd.C_alloc ?_ _) | (with_reducible refine Kd.C_drewN ?_ _) | (with_reducible refine Kd.C_drew ?_))); (case side2 => exact (Kd.R_reads' HO204.out).2.1); (case side3 => repeat (first | exact (Kd.R_reads' HO207.out).2.2 | (with_reducible refine Kd.C_alloc ?_ _) | (with_reducible refine Kd.C_drewN ?_ _) | (with_reducible refine Kd.C_drew ?_))); (case side4 => exact (Kd.R_reads' HO207.out).2.1); rintro e w106 ⟨v210, v212, rfl, ho0, ⟨lp_t209, hp_, ho1⟩, hb⟩; have HTt209 := Aside0.mk hp_; have HLt209 := Aside0.mk hp_.len; (try rw [← hp_.len] at c44b0); (try rw [← hp_.len] at c44b1); clear hp_; refine ⟨_, rfl, ?_⟩; have n0_ := Aside0.mk (Kd.R_below (by (with_reducible repeat (first | apply Kd.R_alloc | apply Kd.R_drewN | apply Kd.R_drew)); exact HO201.out) hb); have n1_ := Aside0.mk (Kd.R_below (by (with_reducible repeat (first | apply Kd.R_alloc | apply Kd.R_drewN | apply Kd.R_drew)); exact HO204.out) hb); have n2_ := Aside0.mk (Kd.R_below (by (with_reducible repeat (first | apply Kd.R_alloc | apply Kd.R_drewN | apply Kd.R_drew)); exact HO207.out) hb); have n3_ := Aside0.mk (Kd.R_lower ho0 (below_size (by repeat (first | (with_reducible first | exact HB.out | apply below_alloc | apply pw_below_drewN | apply below_drew1) | exact HB.out)))); have n4_ := Aside0.mk (Kd.S_lower ho1 (below_size (by repeat (first | (with_reducible first | exact HB.out | apply below_alloc | apply pw_below_drewN | apply below_drew1) | exact HB.out)))); have n5_ := Aside0.mk (below_step (by repeat (first | (with_reducible first | exact HB.out | apply below_alloc | apply pw_below_drewN | apply below_drew1) | exact HB.out)) hb); clear HO201; clear HO204; clear HO207; clear HB; have HO201 := n0_; have HO204 := n1_; have HO207 := n2_; have HO211 := n3_; have HO213 := n4_; have HB := n5_; clear n0_ n1_ n2_ n3_ n4_ n5_; (try clear hb); (try clear hb2); (try clear hk); (try clear hi); (try clear ho0); (try clear ho1); obtain ⟨Ao107, co107, eo107⟩ := Kd.R_slice HO201.out; subst eo107) | ((with_reducible refine gate_callee (f := 14) rfl ?_); refine goesL_ (some 97) rfl rfl Tryz.func14 (by kernel_rfl) rfl #[.slice Ao107 y199.length co107] rfl (by (try simp only [List.map_toArray, List.map_cons, List.map_nil]); first | done | rfl | (simp only [List.length_drop, List.length_take]; rfl)) ?_; (with_reducible refine (laws_added.calls kj17 _ _ y199 t214 _ ?side1 ?side2 A39.out).mono ?_); (case side1 => repeat (first | exact (Kd.R_reads' HO201.out).2.2 | (with_reducible refine Kd.C_alloc ?_ _) | (with_reducible refine Kd.C_drewN ?_ _) | (with_reducible refine Kd.C_drew ?_))); (case side2 => exact (Kd.R_reads' HO201.out).2.1); rintro e w108 ⟨v215, rfl, ho0, hb⟩; refine ⟨_, rfl, ?_⟩; have n0_ := Aside0.mk (Kd.R_below (by (with_reducible repeat (first | apply Kd.R_alloc | apply Kd.R_drewN | apply Kd.R_drew)); exact HO201.out) hb); have n1_ := Aside0.mk (Kd.R_elder' (by (with_reducible repeat (first | apply Kd.R_alloc | apply Kd.R_drewN | apply Kd.R_drew)); exact HO204.out) (Kd.R_base ho0) hb); have n2_ := Aside0.mk (Kd.R_below (by (with_reducible repeat (first | apply Kd.R_alloc | apply Kd.R_drewN | apply Kd.R_drew)); exact HO207.out) hb); have n3_ := Aside0.mk (Kd.R_below (by (with_reducible repeat (first | apply Kd.R_alloc | apply Kd.R_drewN | apply Kd.R_drew)); exact HO211.out) hb); have n4_ := Aside0.mk (Kd.S_below (by (with_reducible repeat (first | apply Kd.S_alloc | apply Kd.S_drewN | apply Kd.S_drew)); exact HO213.out) hb); have n5_ := Aside0.mk (Kd.R_lower (Kd.R_new' ho0 (Kd.R_lt (by (with_reducible repeat (first | apply Kd.R_alloc | apply Kd.R_drewN | apply Kd.R_drew)); exact HO204.out))) (below_size (by repeat (first | (with_reducible first | exact HB.out | apply below_alloc | apply pw_below_drewN | apply below_drew1) | exact HB.out)))); have n6_ := Aside0.mk (below_step (by repeat (first | (with_reducible first | exact HB.out | apply below_alloc | apply pw_below_drewN | apply below_drew1) | exact HB.out)) hb); clear HO201; clear HO204; clear HO207; clear HO211; clear HO213; clear HB; have HO201 := n0_; have HO204 := n1_; have HO207 := n2_; have HO211 := n3_; have HO213 := n4_; have HO216 := n5_; have HB := n6_; clear n0_ n1_ n2_ n3_ n4_ n5_ n6_; (try clear hb); (try clear hb2); (try clear hk); (try clear hi); (try clear ho0)) | ((with_reducible refine gate_callee (f := 15) rfl ?_); refine goesL_ (some 101) rfl rfl Tryz.func15 (by kernel_rfl) rfl #[.string a4, .string a5, .string a6] rfl (by (try simp only [List.map_toArray, List.map_cons, List.map_nil]); first | done | rfl | (simp only [List.length_drop, List.length_take]; rfl)) ?_; (with_reducible refine (laws_all.calls a4 a5 a6 t217 _ A40.out).mono ?_); rintro e w109 ⟨v218, rfl, ho0, hb⟩; refine ⟨_, rfl, ?_⟩; have n0_ := Aside0.mk (Kd.R_below (by (with_reducible repeat (first | apply Kd.R_alloc | apply Kd.R_drewN | apply Kd.R_drew)); exact HO201.out) hb); have n1_ := Aside0.mk (Kd.R_below (by (with_reducible repeat (first | apply Kd.R_alloc | apply Kd.R_drewN | apply Kd.R_drew)); exact HO204.out) hb); have n2_ := Aside0.mk (Kd.R_elder' (by (with_reducible repeat (first | apply Kd.R_alloc | apply Kd.R_drewN | apply Kd.R_drew)); exact HO207.out) (Kd.R_base ho0) hb); have n3_ := Aside0.mk (Kd.R_below (by (with_reducible repeat (first | apply Kd.R_alloc | apply Kd.R_drewN | apply Kd.R_drew)); exact HO211.out) hb); have n4_ := Aside0.mk (Kd.S_below (by (with_reducible repeat (first | apply Kd.S_alloc | apply Kd.S_drewN | apply Kd.S_drew)); exact HO213.out) hb); have n5_ := Aside0.mk (Kd.R_below (by (with_reducible repeat (first | apply Kd.R_alloc | apply Kd.R_drewN | apply Kd.R_drew)); exact HO216.out) hb); have n6_ := Aside0.mk (Kd.R_lower (Kd.R_new' ho0 (Kd.R_lt (by (with_reducible repeat (first | apply Kd.R_alloc | apply Kd.R_drewN | apply Kd.R_drew)); exact HO207.out))) (below_size (by repeat (first | (with_reducible first | exact HB.out | apply below_alloc | apply pw_below_drewN | apply below_drew1) | exact HB.out)))); have n7_ := Aside0.mk (below_step (by repeat (first | (with_reducible first | exact HB.out | apply below_alloc | apply pw_below_drewN | apply below_drew1) | exact HB.out)) hb); clear HO201; clear HO204; clear HO207; clear HO211; clear HO213; clear HO216; clear HB; have HO201 := n0_; have HO204 := n1_; have HO207 := n2_; have HO211 := n3_; have HO213 := n4_; have HO216 := n5_; have HO219 := n6_; have HB := n7_; clear n0_ n1_ n2_ n3_ n4_ n5_ n6_ n7_; (try clear hb); (try clear hb2); (try clear hk); (try clear hi); (try clear ho0); obtain ⟨Ao110, co110, eo110⟩ := Kd.R_slice HO216.out; subst eo110; obtain ⟨Ao111, co111, eo111⟩ := Kd.R_slice HO219.out; subst eo111) | ((with_reducible refine gate_callee (f := 13) rfl ?_); refine goesL_ (some 102) rfl rfl Tryz.func13 (by kernel_rfl) rfl #[.int .i64 a0, .bool a1, .int .i64 0, .int .i64 0, .slice Ao110 t214.length co110, .slice Ao111 t217.length co111] rfl (by (try simp only [List.map_toArray, List.map_cons, List.map_nil]); first | done | rfl | (simp only [List.length_drop, List.length_take]; rfl)) ?_; (with_reducible refine (impl_Roles.calls kj17 a0 a1 0 0 _ _ t214 _ _ t217 t220 t221 _ ?side1 ?side2 ?side3 ?side4 A41.out).mono ?_); (case side1 => repeat (first | exact (Kd.R_reads' HO216.out).2.2 | (with_reducible refine Kd.C_alloc ?_ _) | (with_reducible refine Kd.C_drewN ?_ _) | (with_reducible refine Kd.C_drew ?_))); (case side2 => exact (Kd.R_reads' HO216.out).2.1); (case side3 => repeat (first | exact (Kd.R_reads' HO219.out).2.2 | (with_reducible refine Kd.C_alloc ?_ _) | (with_reducible refine Kd.C_drewN ?_ _) | (with_reducible refine Kd.C_drew ?_))); (case side4 => exact (Kd.R_reads' HO219.out).2.1); rintro e w112 ⟨v222, v224, rfl, ho0, ⟨lp_t221, hp_, ho1⟩, hb⟩; have HTt221 := Aside0.mk hp_; have HLt221 := Aside0.mk hp_.len; clear hp_; refine ⟨_, rfl, ?_⟩; have n0_ := Aside0.mk (Kd.R_below (by (with_reducible repeat (first | apply Kd.R_alloc | apply Kd.R_drewN | apply Kd.R_drew)); exact HO201.out) hb); have n1_ := Aside0.mk (Kd.R_below (by (with_reducible repeat (first | apply Kd.R_alloc | apply Kd.R_drewN | apply Kd.R_drew)); exact HO204.out) hb); have n2_ := Aside0.mk (Kd.R_below (by (with_reducible repeat (first | apply Kd.R_alloc | apply Kd.R_drewN | apply Kd.R_drew)); exact HO207.out) hb); have n3_ := Aside0.mk (Kd.R_elder' (by (with_reducible repeat (first | apply Kd.R_alloc | apply Kd.R_drewN | apply Kd.R_drew)); exact HO211.out) (Kd.R_base ho0) hb); have n4_ := Aside0.mk (Kd.S_elder' (by (with_reducible repeat (first | apply Kd.S_alloc | apply Kd.S_drewN | apply Kd.S_drew)); exact HO213.out) (Kd.S_base ho1) hb); have n5_ := Aside0.mk (Kd.R_below (by (with_reducible repeat (first | apply Kd.R_alloc | apply Kd.R_drewN | apply Kd.R_drew)); exact HO216.out) hb); have n6_ := Aside0.mk (Kd.R_below (by (with_reducible repeat (first | apply Kd.R_alloc | apply Kd.R_drewN | apply Kd.R_drew)); exact HO219.out) hb); have n7_ := Aside0.mk (Kd.R_lower (Kd.R_new' ho0 (Kd.R_lt (by (with_reducible repeat (first | apply Kd.R_alloc | apply Kd.R_drewN | apply Kd.R_drew)); exact HO211.out))) (below_size (by repeat (first | (with_reducible first | exact HB.out | apply below_alloc | apply pw_below_drewN | apply below_drew1) | exact HB.out)))); have n8_ := Aside0.mk (Kd.S_lower (Kd.S_new' ho1 (Kd.S_lt (by (with_reducible repeat (first | apply Kd.S_alloc | apply Kd.S_drewN | apply Kd.S_drew)); exact HO213.out))) (below_size (by repeat (first | (with_reducible first | exact HB.out | apply below_alloc | apply pw_below_drewN | apply below_drew1) | exact HB.out)))); have n9_ := Aside0.mk (below_step (by repeat (first | (with_reducible first | exact HB.out | apply below_alloc | apply pw_below_drewN | apply below_drew1) | exact HB.out)) hb); clear HO201; clear HO204; clear HO207; clear HO211; clear HO213; clear HO216; clear HO219; clear HB; have HO201 := n0_; have HO204 := n1_; have HO207 := n2_; have HO211 := n3_; have HO213 := n4_; have HO216 := n5_; have HO219 := n6_; have HO223 := n7_; have HO225 := n8_; have HB := n9_; clear n0_ n1_ n2_ n3_ n4_ n5_ n6_ n7_ n8_ n9_; (try clear hb); (try clear hb2); (try clear hk); (try clear hi); (try clear ho0); (try clear ho1); obtain ⟨Ao113, co113, eo113⟩ := Kd.R_slice HO211.out; subst eo113; obtain ⟨Ao114, co114, eo114⟩ := Kd.R_slice HO223.out; subst eo114; obtain ⟨Ao115, co115, eo115⟩ := Kd.S_slice HO213.out; subst eo115))
               go_ret
               exact ⟨by first | rfl | (simp [errW_none, errW_some] <;> rfl) | (simp only [← hji29]; first | rfl | (simp [errW_none, errW_some] <;> rfl)) | (simp [*, errW_none, errW_some] <;> rfl), by repeat (first | (with_reducible first | exact HB.out | apply below_alloc | apply pw_below_drewN | apply below_drew1) | exact HB.out)⟩
             ·rw [if_neg c43] at H
              have c43b0 : ((t220.length : Int) == (l2.length : Int)) = false := beq_eq_false_iff_ne.mpr c43
              have c43b1 : ((t220.length : Int) != (l2.length : Int)) = true := bne_iff_ne.mpr c43
              have c43b2 : (t220.length == l2.length) = false := by first | simpa using c43 | (simp at c43 ⊢; omega)
              obtain rfl := Option.some.inj H
              try go_wp2
              have n0_ := Aside0.mk (below_drew1 HB.out)
              clear HB
              have HB := n0_
              clear n0_
              have q117 : ((ji29) : Int) ≤ ((l2.length : Int) : Int) := of_decide_eq_true (by first | (with_reducible assumption) | assumption)
              obtain ⟨i0117, hi0117, _, hsz117, _⟩ := info_parts info28
              have hroom117 : l2.length ≤ c2 := HC2.out
              have hC117 : Kd.C k28 _ A2 l2.length l2 := HR2.out
              have q0117 : (0 : Int) ≤ ((ji29) : Int) := of_decide_eq_true (by first | (with_reducible assumption) | assumption)
              have hcut117 := cut_from (P := Tryz.prog) 22 28 .i64 Tryz.underlying22 hi0117 3 hsz117 A2 l2.length c2 (ji29) q0117 q117
              have hr117 := Kd.C_drop (m := ((ji29) : Int).toNat) (c := c2) hC117 (by omega) hroom117
              obtain ⟨A117, hA117⟩ : ∃ A1, A1 = (if c2 = ((ji29) : Int).toNat then A2 else (A2 : Option Addr).map (·.add (((ji29) : Int).toNat * 3))) := ⟨_, rfl⟩
              obtain ⟨c117, hc117⟩ : ∃ c1, c1 = c2 - ((ji29) : Int).toNat := ⟨_, rfl⟩
              have hy117 : y188.length = l2.length - ((ji29) : Int).toNat := (by rw [Ny188.out, List.length_drop] <;> omega)
              rw [show (l2).drop ((ji29) : Int).toNat = y188 from Ny188.out.symm] at hr117
              replace hr117 : Kd.C k28 _ A117 y188.length y188 := (by rw [hA117]; exact hr117)
              rw [← hy117, ← hA117, ← hc117] at hcut117
              have HR191 := Aside0.mk hr117
              have HC191 := Aside0.mk (show y188.length ≤ c117 from by rw [hy117, hc117]; exact Nat.sub_le_sub_right hroom117 _)
              clear hr117 hC117 hroom117 hi0117 hsz117 hc117
              have KY117 := Aside0.mk hy117
              have KA117 := Aside0.mk hA117
              clear hy117 hA117
              replace q117 := eq_true q117
              have q118 : ((ji29) : Int) ≤ ((l2.length : Int) : Int) := of_decide_eq_true (by first | (with_reducible assumption) | assumption)
              obtain ⟨i0118, hi0118, _, hsz118, _⟩ := info_parts info28
              have hroom118 : l2.length ≤ c2 := HC2.out
              have hC118 : Kd.C k28 _ A2 l2.length l2 := HR2.out
              have hcut118 := cut_to (P := Tryz.prog) 22 28 .i64 Tryz.underlying22 hi0118 A2 l2.length c2 (ji29) (of_decide_eq_true (by first | (with_reducible assumption) | assumption)) q118 hroom118
              have hr118 := Kd.C_take (m := ((ji29) : Int).toNat) hC118 (by omega)
              have hy118 : y195.length = ((ji29) : Int).toNat := (by rw [Ny195.out, List.length_take]; omega)
              rw [← Ny195.out] at hr118
              rw [← hy118] at hcut118
              have HR198 := Aside0.mk hr118
              have HC198 := Aside0.mk (show y195.length ≤ c2 from by omega)
              clear hr118 hC118 hroom118 hi0118 hsz118
              have KY118 := Aside0.mk hy118
              clear hy118
              replace q118 := eq_true q118
              refine start_ (n := 10) (S := fun w' => True) (ds := []) #[false, false, false, false, false, false, false, false, false, false] (by kernel_rfl) rfl rfl trivial (fun hHeld => ?_); refine with_tabW laws_FnRolesOrder.tab6 laws_FnRolesOrder.bits6 (fun HT_ HW_ => ?_)
              generalize wc.drew = w116 at HB HR191 HR198 hHeld ⊢
              refine pure_ (i := 1) (N := some 73) (v := ?_) (a' := ?_) #[false, true, false, false, false, false, false, false, false, false] rfl rfl (any_of HT_.out (by kernel_rfl)) (fun _ _ _ h => h) (Or.inl ⟨by rfl, ?_⟩) ?_ ?_
              rotate_left
              ·intro w'
               go_simp
               with_reducible rfl
              rotate_left
              ·simp only [Act.put, List.setIfInBounds_toArray, List.set_cons_zero, List.set_cons_succ, i64_w, i32_w]
               rfl
              refine pure_ (i := 2) (N := some 74) (v := ?_) (a' := ?_) #[false, true, true, false, false, false, false, false, false, false] rfl rfl (any_of HT_.out (by kernel_rfl)) (fun _ _ _ h => h) (Or.inl ⟨by rfl, ?_⟩) ?_ ?_
              rotate_left
              ·intro w'
               go_simp
               with_reducible rfl
              rotate_left
              ·simp only [Act.put, List.setIfInBounds_toArray, List.set_cons_zero, List.set_cons_succ, i64_w, i32_w]
               rfl
              refine pure_ (i := 3) (N := some 75) (v := ?_) (a' := ?_) #[false, true, true, true, false, false, false, false, false, false] rfl rfl (any_of HT_.out (by kernel_rfl)) (fun _ _ _ h => h) (Or.inl ⟨by rfl, ?_⟩) ?_ ?_
              rotate_left
              ·intro w'
               go_simp
               with_reducible rfl
              rotate_left
              ·simp only [Act.put, List.setIfInBounds_toArray, List.set_cons_zero, List.set_cons_succ, i64_w, i32_w]
               rfl
              refine pure_ (i := 5) (N := some 77) (v := ?_) (a' := ?_) #[false, true, true, true, false, true, false, false, false, false] rfl rfl (any_of HT_.out (by kernel_rfl)) (fun _ _ _ h => h) (Or.inl ⟨by rfl, ?_⟩) ?_ ?_
              rotate_left
              ·intro w'
               go_simp
               with_reducible rfl
              rotate_left
              ·simp only [Act.put, List.setIfInBounds_toArray, List.set_cons_zero, List.set_cons_succ, i64_w, i32_w]
               rfl
              refine pure_ (i := 6) (N := some 78) (v := ?_) (a' := ?_) #[false, true, true, true, false, true, true, false, false, false] rfl rfl (any_of HT_.out (by kernel_rfl)) (fun _ _ _ h => h) (Or.inl ⟨by rfl, ?_⟩) ?_ ?_
              rotate_left
              ·intro w'
               go_simp
               with_reducible rfl
              rotate_left
              ·simp only [Act.put, List.setIfInBounds_toArray, List.set_cons_zero, List.set_cons_succ, i64_w, i32_w]
               rfl
              refine pure_ (i := 7) (N := some 79) (v := ?_) (a' := ?_) #[false, true, true, true, false, true, true, true, false, false] rfl rfl (any_of HT_.out (by kernel_rfl)) (fun _ _ _ h => h) (Or.inl ⟨by rfl, ?_⟩) ?_ ?_
              rotate_left
              ·intro w'
               go_simp
               with_reducible rfl
              rotate_left
              ·simp only [Act.put, List.setIfInBounds_toArray, List.set_cons_zero, List.set_cons_succ, i64_w, i32_w]
               rfl
              refine one_ (i := 0) (N := some 72) #[true, true, true, true, false, true, true, true, false, false] rfl rfl (one_of HT_.out (by kernel_rfl)) (by decide) (fun K hK => ?_)
              refine Kd.R_lit_step k28 _ 28 ?hg (N := 72) ?hd (xs := ([] : List (S28))) (inner := []) (ok := fun _ => True) (okp := fun _ => True) ?hr ?hp (fun _ hk => hk) trivial (Below.refl _ _) (Nat.le_refl _) (by simp) ?_; (case hd => rfl); (case hg => rfl); (case hr => first | (go_simp; done) | (go_simp; rfl)); (case hp => exact (Reps.none _ _))
              intro v186 w119 ho120 hb hg_ hnew_
              clear hg_ hnew_
              (first | rw [← Ny185.out] at ho120 | (simp only [Int.reduceToNat] at ho120; rw [← Ny185.out] at ho120))
              have n0_ := Aside0.mk (Kd.R_lower ho120 (below_size (by repeat (first | (with_reducible first | exact HB.out | apply below_alloc | apply pw_below_drewN | apply below_drew1) | exact HB.out))))
              have n1_ := Aside0.mk (below_step (by repeat (first | (with_reducible first | exact HB.out | apply below_alloc | apply pw_below_drewN | apply below_drew1) | exact HB.out)) hb)
              clear HB
              have HO187 := n0_
              have HB := n1_
              clear n0_ n1_
              clear hb ho120
              refine hK.out _ _ trivial (fun hHeld => ?_)
              clear hK K
              refine norm_ (a' := ?_) ?_ ?_
              rotate_left
              ·show Act.put _ (some 72) _ = _
               simp only [Act.put, List.setIfInBounds_toArray, List.set_cons_zero, List.set_cons_succ, i64_w, i32_w]
               rfl
              refine one_ (i := 4) (N := some 76) #[true, true, true, true, true, true, true, true, false, false] rfl rfl (one_of HT_.out (by kernel_rfl)) (by decide) (fun K hK => ?_)
              refine Kd.R_append_rows_step k28 (w0 := w) w.heap.size (by rfl) (.tmp 72) (.tmp 75) 22 28 (.agg #[(.string ⟨#[]⟩), (.string ⟨#[]⟩), (.string ⟨#[]⟩)]) 48 rfl Tryz.underlying22 info28 rfl (by decide) (by omega) v186 y185 y188 _ _ _ (fun _ => True) (fun _ => False) rfl rfl ?aO ?aR (fun _ _ h => h) (fun _ h => h.elim) ?aF ?aB ?aS ?aL ?_
              (case aR => repeat (first | exact (Kd.C_below HR191.out HB.out) | (with_reducible refine Kd.C_alloc ?_ _) | (with_reducible refine Kd.C_drewN ?_ _) | (with_reducible refine Kd.C_drew ?_)))
              (case aB => exact (by repeat (first | (with_reducible first | exact HB.out | apply below_alloc | apply pw_below_drewN | apply below_drew1) | exact HB.out)))
              (case aF => exact (fun _ _ => trivial))
              (case aO => exact (by (with_reducible repeat (first | apply Kd.R_alloc | apply Kd.R_drewN | apply Kd.R_drew)); exact HO187.out))
              (case aS => exact (below_size (by repeat (first | (with_reducible first | exact HB.out | apply below_alloc | apply pw_below_drewN | apply below_drew1) | exact HB.out))))
              (case aL => have := LMc32.out; omega)
              intro v193 w121 ho hb hg hat
              rw [← Ny192.out] at ho
              have n0_ := Aside0.mk (hb)
              have n1_ := Aside0.mk (ho)
              clear HB
              clear HO187
              have HB := n0_
              have HO194 := n1_
              clear n0_ n1_
              clear ho hb hg hat
              refine hK.out _ _ trivial (fun hHeld => ?_)
              clear hK K
              refine norm_ (a' := ?_) ?_ ?_
              rotate_left
              ·show Act.put _ (some 76) _ = _
               simp only [Act.put, List.setIfInBounds_toArray, List.set_cons_zero, List.set_cons_succ, i64_w, i32_w]
               rfl
              refine one_ (i := 8) (N := some 80) #[true, true, true, true, true, true, true, true, true, false] rfl rfl (one_of HT_.out (by kernel_rfl)) (by decide) (fun K hK => ?_)
              refine Kd.R_append_rows_step k28 (w0 := w) w.heap.size (by rfl) (.tmp 76) (.tmp 79) 22 28 (.agg #[(.string ⟨#[]⟩), (.string ⟨#[]⟩), (.string ⟨#[]⟩)]) 48 rfl Tryz.underlying22 info28 rfl (by decide) (by omega) v193 y192 y195 _ _ _ (fun _ => True) (fun _ => False) rfl rfl ?aO ?aR (fun _ _ h => h) (fun _ h => h.elim) ?aF ?aB ?aS ?aL ?_
              (case aR => repeat (first | exact (Kd.C_below HR198.out HB.out) | (with_reducible refine Kd.C_alloc ?_ _) | (with_reducible refine Kd.C_drewN ?_ _) | (with_reducible refine Kd.C_drew ?_)))
              (case aB => exact (by repeat (first | (with_reducible first | exact HB.out | apply below_alloc | apply pw_below_drewN | apply below_drew1) | exact HB.out)))
              (case aF => exact (fun _ _ => trivial))
              (case aO => exact (by (with_reducible repeat (first | apply Kd.R_alloc | apply Kd.R_drewN | apply Kd.R_drew)); exact HO194.out))
              (case aS => exact (below_size (by repeat (first | (with_reducible first | exact HB.out | apply below_alloc | apply pw_below_drewN | apply below_drew1) | exact HB.out))))
              (case aL => have := LMc35.out; omega)
              intro v200 w122 ho hb hg hat
              rw [← Ny199.out] at ho
              have n0_ := Aside0.mk (hb)
              have n1_ := Aside0.mk (ho)
              clear HB
              clear HO194
              have HB := n0_
              have HO201 := n1_
              clear n0_ n1_
              clear ho hb hg hat
              refine hK.out _ _ trivial (fun hHeld => ?_)
              clear hK K
              refine norm_ (a' := ?_) ?_ ?_
              rotate_left
              ·show Act.put _ (some 80) _ = _
               simp only [Act.put, List.setIfInBounds_toArray, List.set_cons_zero, List.set_cons_succ, i64_w, i32_w]
               rfl
              refine pure_ (i := 9) (N := some 16) (v := ?_) (a' := ?_) #[true, true, true, true, true, true, true, true, true, true] rfl rfl (any_of HT_.out (by kernel_rfl)) (fun _ _ _ h => h) (Or.inl ⟨by rfl, ?_⟩) ?_ ?_
              rotate_left
              ·intro w'
               go_simp
               with_reducible rfl
              rotate_left
              ·simp only [Act.put, List.setIfInBounds_toArray, List.set_cons_zero, List.set_cons_succ, i64_w, i32_w]
               rfl
              refine done_ (done_of HT_.out (by kernel_rfl)) ?_
              try go_wp2_with (first | ((with_reducible refine gate_callee (f := 14) rfl ?_); refine goesL_ (some 85) rfl rfl Tryz.func14 (by kernel_rfl) rfl #[.slice A2 l2.length c2] rfl (by (try simp only [List.map_toArray, List.map_cons, List.map_nil]); first | done | rfl | (simp only [List.length_drop, List.length_take]; rfl)) ?_; (with_reducible refine (laws_added.calls kj17 _ _ l2 t202 _ ?side1 ?side2 A36.out).mono ?_); (case side1 => repeat (first | exact (Kd.C_below HR2.out HB.out) | (with_reducible refine Kd.C_alloc ?_ _) | (with_reducible refine Kd.C_drewN ?_ _) | (with_reducible refine Kd.C_drew ?_))); (case side2 => exact HC2.out); rintro e w123 ⟨v203, rfl, ho0, hb⟩; refine ⟨_, rfl, ?_⟩; have n0_ := Aside0.mk (Kd.R_below (by (with_reducible repeat (first | apply Kd.R_alloc | apply Kd.R_drewN | apply Kd.R_drew)); exact HO201.out) hb); have n1_ := Aside0.mk (Kd.R_lower ho0 (below_size (by repeat (first | (with_reducible first | exact HB.out | apply below_alloc | apply pw_below_drewN | apply below_drew1) | exact HB.out)))); have n2_ := Aside0.mk (below_step (by repeat (first | (with_reducible first | exact HB.out | apply below_alloc | apply pw_below_drewN | apply below_drew1) | exact HB.out)) hb); clear HO201; clear HB; have HO201 := n0_; have HO204 := n1_; have HB := n2_; clear n0_ n1_ n2_; (try clear hb); (try clear hb2); (try clear hk); (try clear hi); (try clear ho0)) | ((with_reducible refine gate_callee (f := 15) rfl ?_); refine goesL_ (some 89) rfl rfl Tryz.func15 (by kernel_rfl) rfl #[.string a4, .string a5, .string a6] rfl (by (try simp only [List.map_toArray, List.map_cons, List.map_nil]); first | done | rfl | (simp only [List.length_drop, List.length_take]; rfl)) ?_; (with_reducible refine (laws_all.calls a4 a5 a6 t205 _ A37.out).mono ?_); rintro e w124 ⟨v206, rfl, ho0, hb⟩; refine ⟨_, rfl, ?_⟩; have n0_ := Aside0.mk (Kd.R_below (by (with_reducible repeat (first | apply Kd.R_alloc | apply Kd.R_drewN | apply Kd.R_drew)); exact HO201.out) hb); have n1_ := Aside0.mk (Kd.R_below (by (with_reducible repeat (first | apply Kd.R_alloc | apply Kd.R_drewN | apply Kd.R_drew)); exact HO204.out) hb); have n2_ := Aside0.mk (Kd.R_lower ho0 (below_size (by repeat (first | (with_reducible first | exact HB.out | apply below_alloc | apply pw_below_drewN | apply below_drew1) | exact HB.out)))); have n3_ := Aside0.mk (below_step (by repeat (first | (with_reducible first | exact HB.out | apply below_alloc | apply pw_below_drewN | apply below_drew1) | exact HB.out)) hb); clear HO201; clear HO204; clear HB; have HO201 := n0_; have HO204 := n1_; have HO207 := n2_; have HB := n3_; clear n0_ n1_ n2_ n3_; (try clear hb); (try clear hb2); (try clear hk); (try clear hi); (try clear ho0); obtain ⟨Ao125, co125, eo125⟩ := Kd.R_slice HO204.out; subst eo125; obtain ⟨Ao126, co126, eo126⟩ := Kd.R_slice HO207.out; subst eo126) | ((with_reducible refine gate_callee (f := 13) rfl ?_); refine goesL_ (some 90) rfl rfl Tryz.func13 (by kernel_rfl) rfl #[.int .i64 a0, .bool a1, .int .i64 0, .int .i64 0, .slice Ao125 t202.length co125, .slice Ao126 t205.length co126] rfl (by (try simp only [List.map_toArray, List.map_cons, List.map_nil]); first | done | rfl | (simp only [List.length_drop, List.length_take]; rfl)) ?_; (with_reducible refine (impl_Roles.calls kj17 a0 a1 0 0 _ _ t202 _ _ t205 t208 t209 _ ?side1 ?side2 ?side3 ?side4 A38.out).mono ?_); (case side1 => repeat (first | exact (Kd.R_reads' HO204.out).2.2 | (with_reducible refine Kd.C_alloc ?_ _) | (with_reducible refine Kd.C_drewN ?_ _) | (with_reducible refine Kd.C_drew ?_))); (case side2 => exact (Kd.R_reads' HO204.out).2.1); (case side3 => repeat (first | exact (Kd.R_reads' HO207.out).2.2 | (with_reducible refine Kd.C_alloc ?_ _) | (with_reducible refine Kd.C_drewN ?_ _) | (with_reducible refine Kd.C_drew ?_))); (case side4 => exact (Kd.R_reads' HO207.out).2.1); rintro e w127 ⟨v210, v212, rfl, ho0, ⟨lp_t209, hp_, ho1⟩, hb⟩; have HTt209 := Aside0.mk hp_; have HLt209 := Aside0.mk hp_.len; (try rw [← hp_.len] at c44b0); (try rw [← hp_.len] at c44b1); clear hp_; refine ⟨_, rfl, ?_⟩; have n0_ := Aside0.mk (Kd.R_below (by (with_reducible repeat (first | apply Kd.R_alloc | apply Kd.R_drewN | apply Kd.R_drew)); exact HO201.out) hb); have n1_ := Aside0.mk (Kd.R_below (by (with_reducible repeat (first | apply Kd.R_alloc | apply Kd.R_drewN | apply Kd.R_drew)); exact HO204.out) hb); have n2_ := Aside0.mk (Kd.R_below (by (with_reducible repeat (first | apply Kd.R_alloc | apply Kd.R_drewN | apply Kd.R_drew)); exact HO207.out) hb); have n3_ := Aside0.mk (Kd.R_lower ho0 (below_size (by repeat (first | (with_reducible first | exact HB.out | apply below_alloc | apply pw_below_drewN | apply below_drew1) | exact HB.out)))); have n4_ := Aside0.mk (Kd.S_lower ho1 (below_size (by repeat (first | (with_reducible first | exact HB.out | apply below_alloc | apply pw_below_drewN | apply below_drew1) | exact HB.out)))); have n5_ := Aside0.mk (below_step (by repeat (first | (with_reducible first | exact HB.out | apply below_alloc | apply pw_below_drewN | apply below_drew1) | exact HB.out)) hb); clear HO201; clear HO204; clear HO207; clear HB; have HO201 := n0_; have HO204 := n1_; have HO207 := n2_; have HO211 := n3_; have HO213 := n4_; have HB := n5_; clear n0_ n1_ n2_ n3_ n4_ n5_; (try clear hb); (try clear hb2); (try clear hk); (try clear hi); (try clear ho0); (try clear ho1); obtain ⟨Ao128, co128, eo128⟩ := Kd.R_slice HO201.out; subst eo128) | ((with_reducible refine gate_callee (f := 14) rfl ?_); refine goesL_ (some 97) rfl rfl Tryz.func14 (by kernel_rfl) rfl #[.slice Ao128 y199.length co128] rfl (by (try simp only [List.map_toArray, List.map_cons, List.map_nil]); first | done | rfl | (simp only [List.length_drop, List.length_take]; rfl)) ?_; (with_reducible refine (laws_added.calls kj17 _ _ y199 t214 _ ?side1 ?side2 A39.out).mono ?_); (case side1 => repeat (first | exact (Kd.R_reads' HO201.out).2.2 | (with_reducible refine Kd.C_alloc ?_ _) | (with_reducible refine Kd.C_drewN ?_ _) | (with_reducible refine Kd.C_drew ?_))); (case side2 => exact (Kd.R_reads' HO201.out).2.1); rintro e w129 ⟨v215, rfl, ho0, hb⟩; refine ⟨_, rfl, ?_⟩; have n0_ := Aside0.mk (Kd.R_below (by (with_reducible repeat (first | apply Kd.R_alloc | apply Kd.R_drewN | apply Kd.R_drew)); exact HO201.out) hb); have n1_ := Aside0.mk (Kd.R_elder' (by (with_reducible repeat (first | apply Kd.R_alloc | apply Kd.R_drewN | apply Kd.R_drew)); exact HO204.out) (Kd.R_base ho0) hb); have n2_ := Aside0.mk (Kd.R_below (by (with_reducible repeat (first | apply Kd.R_alloc | apply Kd.R_drewN | apply Kd.R_drew)); exact HO207.out) hb); have n3_ := Aside0.mk (Kd.R_below (by (with_reducible repeat (first | apply Kd.R_alloc | apply Kd.R_drewN | apply Kd.R_drew)); exact HO211.out) hb); have n4_ := Aside0.mk (Kd.S_below (by (with_reducible repeat (first | apply Kd.S_alloc | apply Kd.S_drewN | apply Kd.S_drew)); exact HO213.out) hb); have n5_ := Aside0.mk (Kd.R_lower (Kd.R_new' ho0 (Kd.R_lt (by (with_reducible repeat (first | apply Kd.R_alloc | apply Kd.R_drewN | apply Kd.R_drew)); exact HO204.out))) (below_size (by repeat (first | (with_reducible first | exact HB.out | apply below_alloc | apply pw_below_drewN | apply below_drew1) | exact HB.out)))); have n6_ := Aside0.mk (below_step (by repeat (first | (with_reducible first | exact HB.out | apply below_alloc | apply pw_below_drewN | apply below_drew1) | exact HB.out)) hb); clear HO201; clear HO204; clear HO207; clear HO211; clear HO213; clear HB; have HO201 := n0_; have HO204 := n1_; have HO207 := n2_; have HO211 := n3_; have HO213 := n4_; have HO216 := n5_; have HB := n6_; clear n0_ n1_ n2_ n3_ n4_ n5_ n6_; (try clear hb); (try clear hb2); (try clear hk); (try clear hi); (try clear ho0)) | ((with_reducible refine gate_callee (f := 15) rfl ?_); refine goesL_ (some 101) rfl rfl Tryz.func15 (by kernel_rfl) rfl #[.string a4, .string a5, .string a6] rfl (by (try simp only [List.map_toArray, List.map_cons, List.map_nil]); first | done | rfl | (simp only [List.length_drop, List.length_take]; rfl)) ?_; (with_reducible refine (laws_all.calls a4 a5 a6 t217 _ A40.out).mono ?_); rintro e w130 ⟨v218, rfl, ho0, hb⟩; refine ⟨_, rfl, ?_⟩; have n0_ := Aside0.mk (Kd.R_below (by (with_reducible repeat (first | apply Kd.R_alloc | apply Kd.R_drewN | apply Kd.R_drew)); exact HO201.out) hb); have n1_ := Aside0.mk (Kd.R_below (by (with_reducible repeat (first | apply Kd.R_alloc | apply Kd.R_drewN | apply Kd.R_drew)); exact HO204.out) hb); have n2_ := Aside0.mk (Kd.R_elder' (by (with_reducible repeat (first | apply Kd.R_alloc | apply Kd.R_drewN | apply Kd.R_drew)); exact HO207.out) (Kd.R_base ho0) hb); have n3_ := Aside0.mk (Kd.R_below (by (with_reducible repeat (first | apply Kd.R_alloc | apply Kd.R_drewN | apply Kd.R_drew)); exact HO211.out) hb); have n4_ := Aside0.mk (Kd.S_below (by (with_reducible repeat (first | apply Kd.S_alloc | apply Kd.S_drewN | apply Kd.S_drew)); exact HO213.out) hb); have n5_ := Aside0.mk (Kd.R_below (by (with_reducible repeat (first | apply Kd.R_alloc | apply Kd.R_drewN | apply Kd.R_drew)); exact HO216.out) hb); have n6_ := Aside0.mk (Kd.R_lower (Kd.R_new' ho0 (Kd.R_lt (by (with_reducible repeat (first | apply Kd.R_alloc | apply Kd.R_drewN | apply Kd.R_drew)); exact HO207.out))) (below_size (by repeat (first | (with_reducible first | exact HB.out | apply below_alloc | apply pw_below_drewN | apply below_drew1) | exact HB.out)))); have n7_ := Aside0.mk (below_step (by repeat (first | (with_reducible first | exact HB.out | apply below_alloc | apply pw_below_drewN | apply below_drew1) | exact HB.out)) hb); clear HO201; clear HO204; clear HO207; clear HO211; clear HO213; clear HO216; clear HB; have HO201 := n0_; have HO204 := n1_; have HO207 := n2_; have HO211 := n3_; have HO213 := n4_; have HO216 := n5_; have HO219 := n6_; have HB := n7_; clear n0_ n1_ n2_ n3_ n4_ n5_ n6_ n7_; (try clear hb); (try clear hb2); (try clear hk); (try clear hi); (try clear ho0); obtain ⟨Ao131, co131, eo131⟩ := Kd.R_slice HO216.out; subst eo131; obtain ⟨Ao132, co132, eo132⟩ := Kd.R_slice HO219.out; subst eo132) | ((with_reducible refine gate_callee (f := 13) rfl ?_); refine goesL_ (some 102) rfl rfl Tryz.func13 (by kernel_rfl) rfl #[.int .i64 a0, .bool a1, .int .i64 0, .int .i64 0, .slice Ao131 t214.length co131, .slice Ao132 t217.length co132] rfl (by (try simp only [List.map_toArray, List.map_cons, List.map_nil]); first | done | rfl | (simp only [List.length_drop, List.length_take]; rfl)) ?_; (with_reducible refine (impl_Roles.calls kj17 a0 a1 0 0 _ _ t214 _ _ t217 t220 t221 _ ?side1 ?side2 ?side3 ?side4 A41.out).mono ?_); (case side1 => repeat (first | exact (Kd.R_reads' HO216.out).2.2 | (with_reducible refine Kd.C_alloc ?_ _) | (with_reducible refine Kd.C_drewN ?_ _) | (with_reducible refine Kd.C_drew ?_))); (case side2 => exact (Kd.R_reads' HO216.out).2.1); (case side3 => repeat (first | exact (Kd.R_reads' HO219.out).2.2 | (with_reducible refine Kd.C_alloc ?_ _) | (with_reducible refine Kd.C_drewN ?_ _) | (with_reducible refine Kd.C_drew ?_))); (case side4 => exact (Kd.R_reads' HO219.out).2.1); rintro e w133 ⟨v222, v224, rfl, ho0, ⟨lp_t221, hp_, ho1⟩, hb⟩; have HTt221 := Aside0.mk hp_; have HLt221 := Aside0.mk hp_.len; clear hp_; refine ⟨_, rfl, ?_⟩; have n0_ := Aside0.mk (Kd.R_below (by (with_reducible repeat (first | apply Kd.R_alloc | apply Kd.R_drewN | apply Kd.R_drew)); exact HO201.out) hb); have n1_ := Aside0.mk (Kd.R_below (by (with_reducible repeat (first | apply Kd.R_alloc | apply Kd.R_drewN | apply Kd.R_drew)); exact HO204.out) hb); have n2_ := Aside0.mk (Kd.R_below (by (with_reducible repeat (first | apply Kd.R_alloc | apply Kd.R_drewN | apply Kd.R_drew)); exact HO207.out) hb); have n3_ := Aside0.mk (Kd.R_elder' (by (with_reducible repeat (first | apply Kd.R_alloc | apply Kd.R_drewN | apply Kd.R_drew)); exact HO211.out) (Kd.R_base ho0) hb); have n4_ := Aside0.mk (Kd.S_elder' (by (with_reducible repeat (first | apply Kd.S_alloc | apply Kd.S_drewN | apply Kd.S_drew)); exact HO213.out) (Kd.S_base ho1) hb); have n5_ := Aside0.mk (Kd.R_below (by (with_reducible repeat (first | apply Kd.R_alloc | apply Kd.R_drewN | apply Kd.R_drew)); exact HO216.out) hb); have n6_ := Aside0.mk (Kd.R_below (by (with_reducible repeat (first | apply Kd.R_alloc | apply Kd.R_drewN | apply Kd.R_drew)); exact HO219.out) hb); have n7_ := Aside0.mk (Kd.R_lower (Kd.R_new' ho0 (Kd.R_lt (by (with_reducible repeat (first | apply Kd.R_alloc | apply Kd.R_drewN | apply Kd.R_drew)); exact HO211.out))) (below_size (by repeat (first | (with_reducible first | exact HB.out | apply below_alloc | apply pw_below_drewN | apply below_drew1) | exact HB.out)))); have n8_ := Aside0.mk (Kd.S_lower (Kd.S_new' ho1 (Kd.S_lt (by (with_reducible repeat (first | apply Kd.S_alloc | apply Kd.S_drewN | apply Kd.S_drew)); exact HO213.out))) (below_size (by repeat (first | (with_reducible first | exact HB.out | apply below_alloc | apply pw_below_drewN | apply below_drew1) | exact HB.out)))); have n9_ := Aside0.mk (below_step (by repeat (first | (with_reducible first | exact HB.out | apply below_alloc | apply pw_below_drewN | apply below_drew1) | exact HB.out)) hb); clear HO201; clear HO204; clear HO207; clear HO211; clear HO213; clear HO216; clear HO219; clear HB; have HO201 := n0_; have HO204 := n1_; have HO207 := n2_; have HO211 := n3_; have HO213 := n4_; have HO216 := n5_; have HO219 := n6_; have HO223 := n7_; have HO225 := n8_; have HB := n9_; clear n0_ n1_ n2_ n3_ n4_ n5_ n6_ n7_ n8_ n9_; (try clear hb); (try clear hb2); (try clear hk); (try clear hi); (try clear ho0); (try clear ho1); obtain ⟨Ao134, co134, eo134⟩ := Kd.R_slice HO211.out; subst eo134; obtain ⟨Ao135, co135, eo135⟩ := Kd.R_slice HO223.out; subst eo135))
              go_ret
              exact ⟨by first | rfl | (simp [errW_none, errW_some] <;> rfl) | (simp only [← hji29]; first | rfl | (simp [errW_none, errW_some] <;> rfl)) | (simp [*, errW_none, errW_some] <;> rfl), by repeat (first | (with_reducible first | exact HB.out | apply below_alloc | apply pw_below_drewN | apply below_drew1) | exact HB.out)⟩
            ·rw [if_neg c42] at H
             have c42b0 : ((t208.length : Int) == (l2.length : Int)) = false := beq_eq_false_iff_ne.mpr c42
             have c42b1 : ((t208.length : Int) != (l2.length : Int)) = true := bne_iff_ne.mpr c42
             have c42b2 : (t208.length == l2.length) = false := by first | simpa using c42 | (simp at c42 ⊢; omega)
             obtain rfl := Option.some.inj H
             try go_wp2
             have n0_ := Aside0.mk (below_drew1 HB.out)
             clear HB
             have HB := n0_
             clear n0_
             have q137 : ((ji29) : Int) ≤ ((l2.length : Int) : Int) := of_decide_eq_true (by first | (with_reducible assumption) | assumption)
             obtain ⟨i0137, hi0137, _, hsz137, _⟩ := info_parts info28
             have hroom137 : l2.length ≤ c2 := HC2.out
             have hC137 : Kd.C k28 _ A2 l2.length l2 := HR2.out
             have q0137 : (0 : Int) ≤ ((ji29) : Int) := of_decide_eq_true (by first | (with_reducible assumption) | assumption)
             have hcut137 := cut_from (P := Tryz.prog) 22 28 .i64 Tryz.underlying22 hi0137 3 hsz137 A2 l2.length c2 (ji29) q0137 q137
             have hr137 := Kd.C_drop (m := ((ji29) : Int).toNat) (c := c2) hC137 (by omega) hroom137
             obtain ⟨A137, hA137⟩ : ∃ A1, A1 = (if c2 = ((ji29) : Int).toNat then A2 else (A2 : Option Addr).map (·.add (((ji29) : Int).toNat * 3))) := ⟨_, rfl⟩
             obtain ⟨c137, hc137⟩ : ∃ c1, c1 = c2 - ((ji29) : Int).toNat := ⟨_, rfl⟩
             have hy137 : y188.length = l2.length - ((ji29) : Int).toNat := (by rw [Ny188.out, List.length_drop] <;> omega)
             rw [show (l2).drop ((ji29) : Int).toNat = y188 from Ny188.out.symm] at hr137
             replace hr137 : Kd.C k28 _ A137 y188.length y188 := (by rw [hA137]; exact hr137)
             rw [← hy137, ← hA137, ← hc137] at hcut137
             have HR191 := Aside0.mk hr137
             have HC191 := Aside0.mk (show y188.length ≤ c137 from by rw [hy137, hc137]; exact Nat.sub_le_sub_right hroom137 _)
             clear hr137 hC137 hroom137 hi0137 hsz137 hc137
             have KY137 := Aside0.mk hy137
             have KA137 := Aside0.mk hA137
             clear hy137 hA137
             replace q137 := eq_true q137
             have q138 : ((ji29) : Int) ≤ ((l2.length : Int) : Int) := of_decide_eq_true (by first | (with_reducible assumption) | assumption)
             obtain ⟨i0138, hi0138, _, hsz138, _⟩ := info_parts info28
             have hroom138 : l2.length ≤ c2 := HC2.out
             have hC138 : Kd.C k28 _ A2 l2.length l2 := HR2.out
             have hcut138 := cut_to (P := Tryz.prog) 22 28 .i64 Tryz.underlying22 hi0138 A2 l2.length c2 (ji29) (of_decide_eq_true (by first | (with_reducible assumption) | assumption)) q138 hroom138
             have hr138 := Kd.C_take (m := ((ji29) : Int).toNat) hC138 (by omega)
             have hy138 : y195.length = ((ji29) : Int).toNat := (by rw [Ny195.out, List.length_take]; omega)
             rw [← Ny195.out] at hr138
             rw [← hy138] at hcut138
             have HR198 := Aside0.mk hr138
             have HC198 := Aside0.mk (show y195.length ≤ c2 from by omega)
             clear hr138 hC138 hroom138 hi0138 hsz138
             have KY138 := Aside0.mk hy138
             clear hy138
             replace q138 := eq_true q138
             refine start_ (n := 10) (S := fun w' => True) (ds := []) #[false, false, false, false, false, false, false, false, false, false] (by kernel_rfl) rfl rfl trivial (fun hHeld => ?_); refine with_tabW laws_FnRolesOrder.tab6 laws_FnRolesOrder.bits6 (fun HT_ HW_ => ?_)
             generalize wc.drew = w136 at HB HR191 HR198 hHeld ⊢
             refine pure_ (i := 1) (N := some 73) (v := ?_) (a' := ?_) #[false, true, false, false, false, false, false, false, false, false] rfl rfl (any_of HT_.out (by kernel_rfl)) (fun _ _ _ h => h) (Or.inl ⟨by rfl, ?_⟩) ?_ ?_
             rotate_left
             ·intro w'
              go_simp
              with_reducible rfl
             rotate_left
             ·simp only [Act.put, List.setIfInBounds_toArray, List.set_cons_zero, List.set_cons_succ, i64_w, i32_w]
              rfl
             refine pure_ (i := 2) (N := some 74) (v := ?_) (a' := ?_) #[false, true, true, false, false, false, false, false, false, false] rfl rfl (any_of HT_.out (by kernel_rfl)) (fun _ _ _ h => h) (Or.inl ⟨by rfl, ?_⟩) ?_ ?_
             rotate_left
             ·intro w'
              go_simp
              with_reducible rfl
             rotate_left
             ·simp only [Act.put, List.setIfInBounds_toArray, List.set_cons_zero, List.set_cons_succ, i64_w, i32_w]
              rfl
             refine pure_ (i := 3) (N := some 75) (v := ?_) (a' := ?_) #[false, true, true, true, false, false, false, false, false, false] rfl rfl (any_of HT_.out (by kernel_rfl)) (fun _ _ _ h => h) (Or.inl ⟨by rfl, ?_⟩) ?_ ?_
             rotate_left
             ·intro w'
              go_simp
              with_reducible rfl
             rotate_left
             ·simp only [Act.put, List.setIfInBounds_toArray, List.set_cons_zero, List.set_cons_succ, i64_w, i32_w]
              rfl
             refine pure_ (i := 5) (N := some 77) (v := ?_) (a' := ?_) #[false, true, true, true, false, true, false, false, false, false] rfl rfl (any_of HT_.out (by kernel_rfl)) (fun _ _ _ h => h) (Or.inl ⟨by rfl, ?_⟩) ?_ ?_
             rotate_left
             ·intro w'
              go_simp
              with_reducible rfl
             rotate_left
             ·simp only [Act.put, List.setIfInBounds_toArray, List.set_cons_zero, List.set_cons_succ, i64_w, i32_w]
              rfl
             refine pure_ (i := 6) (N := some 78) (v := ?_) (a' := ?_) #[false, true, true, true, false, true, true, false, false, false] rfl rfl (any_of HT_.out (by kernel_rfl)) (fun _ _ _ h => h) (Or.inl ⟨by rfl, ?_⟩) ?_ ?_
             rotate_left
             ·intro w'
              go_simp
              with_reducible rfl
             rotate_left
             ·simp only [Act.put, List.setIfInBounds_toArray, List.set_cons_zero, List.set_cons_succ, i64_w, i32_w]
              rfl
             refine pure_ (i := 7) (N := some 79) (v := ?_) (a' := ?_) #[false, true, true, true, false, true, true, true, false, false] rfl rfl (any_of HT_.out (by kernel_rfl)) (fun _ _ _ h => h) (Or.inl ⟨by rfl, ?_⟩) ?_ ?_
             rotate_left
             ·intro w'
              go_simp
              with_reducible rfl
             rotate_left
             ·simp only [Act.put, List.setIfInBounds_toArray, List.set_cons_zero, List.set_cons_succ, i64_w, i32_w]
              rfl
             refine one_ (i := 0) (N := some 72) #[true, true, true, true, false, true, true, true, false, false] rfl rfl (one_of HT_.out (by kernel_rfl)) (by decide) (fun K hK => ?_)
             refine Kd.R_lit_step k28 _ 28 ?hg (N := 72) ?hd (xs := ([] : List (S28))) (inner := []) (ok := fun _ => True) (okp := fun _ => True) ?hr ?hp (fun _ hk => hk) trivial (Below.refl _ _) (Nat.le_refl _) (by simp) ?_; (case hd => rfl); (case hg => rfl); (case hr => first | (go_simp; done) | (go_simp; rfl)); (case hp => exact (Reps.none _ _))
             intro v186 w139 ho140 hb hg_ hnew_
             clear hg_ hnew_
             (first | rw [← Ny185.out] at ho140 | (simp only [Int.reduceToNat] at ho140; rw [← Ny185.out] at ho140))
             have n0_ := Aside0.mk (Kd.R_lower ho140 (below_size (by repeat (first | (with_reducible first | exact HB.out | apply below_alloc | apply pw_below_drewN | apply below_drew1) | exact HB.out))))
             have n1_ := Aside0.mk (below_step (by repeat (first | (with_reducible first | exact HB.out | apply below_alloc | apply pw_below_drewN | apply below_drew1) | exact HB.out)) hb)
             clear HB
             have HO187 := n0_
             have HB := n1_
             clear n0_ n1_
             clear hb ho140
             refine hK.out _ _ trivial (fun hHeld => ?_)
             clear hK K
             refine norm_ (a' := ?_) ?_ ?_
             rotate_left
             ·show Act.put _ (some 72) _ = _
              simp only [Act.put, List.setIfInBounds_toArray, List.set_cons_zero, List.set_cons_succ, i64_w, i32_w]
              rfl
             refine one_ (i := 4) (N := some 76) #[true, true, true, true, true, true, true, true, false, false] rfl rfl (one_of HT_.out (by kernel_rfl)) (by decide) (fun K hK => ?_)
             refine Kd.R_append_rows_step k28 (w0 := w) w.heap.size (by rfl) (.tmp 72) (.tmp 75) 22 28 (.agg #[(.string ⟨#[]⟩), (.string ⟨#[]⟩), (.string ⟨#[]⟩)]) 48 rfl Tryz.underlying22 info28 rfl (by decide) (by omega) v186 y185 y188 _ _ _ (fun _ => True) (fun _ => False) rfl rfl ?aO ?aR (fun _ _ h => h) (fun _ h => h.elim) ?aF ?aB ?aS ?aL ?_
             (case aR => repeat (first | exact (Kd.C_below HR191.out HB.out) | (with_reducible refine Kd.C_alloc ?_ _) | (with_reducible refine Kd.C_drewN ?_ _) | (with_reducible refine Kd.C_drew ?_)))
             (case aB => exact (by repeat (first | (with_reducible first | exact HB.out | apply below_alloc | apply pw_below_drewN | apply below_drew1) | exact HB.out)))
             (case aF => exact (fun _ _ => trivial))
             (case aO => exact (by (with_reducible repeat (first | apply Kd.R_alloc | apply Kd.R_drewN | apply Kd.R_drew)); exact HO187.out))
             (case aS => exact (below_size (by repeat (first | (with_reducible first | exact HB.out | apply below_alloc | apply pw_below_drewN | apply below_drew1) | exact HB.out))))
             (case aL => have := LMc32.out; omega)
             intro v193 w141 ho hb hg hat
             rw [← Ny192.out] at ho
             have n0_ := Aside0.mk (hb)
             have n1_ := Aside0.mk (ho)
             clear HB
             clear HO187
             have HB := n0_
             have HO194 := n1_
             clear n0_ n1_
             clear ho hb hg hat
             refine hK.out _ _ trivial (fun hHeld => ?_)
             clear hK K
             refine norm_ (a' := ?_) ?_ ?_
             rotate_left
             ·show Act.put _ (some 76) _ = _
              simp only [Act.put, List.setIfInBounds_toArray, List.set_cons_zero, List.set_cons_succ, i64_w, i32_w]
              rfl
             refine one_ (i := 8) (N := some 80) #[true, true, true, true, true, true, true, true, true, false] rfl rfl (one_of HT_.out (by kernel_rfl)) (by decide) (fun K hK => ?_)
             refine Kd.R_append_rows_step k28 (w0 := w) w.heap.size (by rfl) (.tmp 76) (.tmp 79) 22 28 (.agg #[(.string ⟨#[]⟩), (.string ⟨#[]⟩), (.string ⟨#[]⟩)]) 48 rfl Tryz.underlying22 info28 rfl (by decide) (by omega) v193 y192 y195 _ _ _ (fun _ => True) (fun _ => False) rfl rfl ?aO ?aR (fun _ _ h => h) (fun _ h => h.elim) ?aF ?aB ?aS ?aL ?_
             (case aR => repeat (first | exact (Kd.C_below HR198.out HB.out) | (with_reducible refine Kd.C_alloc ?_ _) | (with_reducible refine Kd.C_drewN ?_ _) | (with_reducible refine Kd.C_drew ?_)))
             (case aB => exact (by repeat (first | (with_reducible first | exact HB.out | apply below_alloc | apply pw_below_drewN | apply below_drew1) | exact HB.out)))
             (case aF => exact (fun _ _ => trivial))
             (case aO => exact (by (with_reducible repeat (first | apply Kd.R_alloc | apply Kd.R_drewN | apply Kd.R_drew)); exact HO194.out))
             (case aS => exact (below_size (by repeat (first | (with_reducible first | exact HB.out | apply below_alloc | apply pw_below_drewN | apply below_drew1) | exact HB.out))))
             (case aL => have := LMc35.out; omega)
             intro v200 w142 ho hb hg hat
             rw [← Ny199.out] at ho
             have n0_ := Aside0.mk (hb)
             have n1_ := Aside0.mk (ho)
             clear HB
             clear HO194
             have HB := n0_
             have HO201 := n1_
             clear n0_ n1_
             clear ho hb hg hat
             refine hK.out _ _ trivial (fun hHeld => ?_)
             clear hK K
             refine norm_ (a' := ?_) ?_ ?_
             rotate_left
             ·show Act.put _ (some 80) _ = _
              simp only [Act.put, List.setIfInBounds_toArray, List.set_cons_zero, List.set_cons_succ, i64_w, i32_w]
              rfl
             refine pure_ (i := 9) (N := some 16) (v := ?_) (a' := ?_) #[true, true, true, true, true, true, true, true, true, true] rfl rfl (any_of HT_.out (by kernel_rfl)) (fun _ _ _ h => h) (Or.inl ⟨by rfl, ?_⟩) ?_ ?_
             rotate_left
             ·intro w'
              go_simp
              with_reducible rfl
             rotate_left
             ·simp only [Act.put, List.setIfInBounds_toArray, List.set_cons_zero, List.set_cons_succ, i64_w, i32_w]
              rfl
             refine done_ (done_of HT_.out (by kernel_rfl)) ?_
             try go_wp2_with (first | ((with_reducible refine gate_callee (f := 14) rfl ?_); refine goesL_ (some 85) rfl rfl Tryz.func14 (by kernel_rfl) rfl #[.slice A2 l2.length c2] rfl (by (try simp only [List.map_toArray, List.map_cons, List.map_nil]); first | done | rfl | (simp only [List.length_drop, List.length_take]; rfl)) ?_; (with_reducible refine (laws_added.calls kj17 _ _ l2 t202 _ ?side1 ?side2 A36.out).mono ?_); (case side1 => repeat (first | exact (Kd.C_below HR2.out HB.out) | (with_reducible refine Kd.C_alloc ?_ _) | (with_reducible refine Kd.C_drewN ?_ _) | (with_reducible refine Kd.C_drew ?_))); (case side2 => exact HC2.out); rintro e w143 ⟨v203, rfl, ho0, hb⟩; refine ⟨_, rfl, ?_⟩; have n0_ := Aside0.mk (Kd.R_below (by (with_reducible repeat (first | apply Kd.R_alloc | apply Kd.R_drewN | apply Kd.R_drew)); exact HO201.out) hb); have n1_ := Aside0.mk (Kd.R_lower ho0 (below_size (by repeat (first | (with_reducible first | exact HB.out | apply below_alloc | apply pw_below_drewN | apply below_drew1) | exact HB.out)))); have n2_ := Aside0.mk (below_step (by repeat (first | (with_reducible first | exact HB.out | apply below_alloc | apply pw_below_drewN | apply below_drew1) | exact HB.out)) hb); clear HO201; clear HB; have HO201 := n0_; have HO204 := n1_; have HB := n2_; clear n0_ n1_ n2_; (try clear hb); (try clear hb2); (try clear hk); (try clear hi); (try clear ho0)) | ((with_reducible refine gate_callee (f := 15) rfl ?_); refine goesL_ (some 89) rfl rfl Tryz.func15 (by kernel_rfl) rfl #[.string a4, .string a5, .string a6] rfl (by (try simp only [List.map_toArray, List.map_cons, List.map_nil]); first | done | rfl | (simp only [List.length_drop, List.length_take]; rfl)) ?_; (with_reducible refine (laws_all.calls a4 a5 a6 t205 _ A37.out).mono ?_); rintro e w144 ⟨v206, rfl, ho0, hb⟩; refine ⟨_, rfl, ?_⟩; have n0_ := Aside0.mk (Kd.R_below (by (with_reducible repeat (first | apply Kd.R_alloc | apply Kd.R_drewN | apply Kd.R_drew)); exact HO201.out) hb); have n1_ := Aside0.mk (Kd.R_below (by (with_reducible repeat (first | apply Kd.R_alloc | apply Kd.R_drewN | apply Kd.R_drew)); exact HO204.out) hb); have n2_ := Aside0.mk (Kd.R_lower ho0 (below_size (by repeat (first | (with_reducible first | exact HB.out | apply below_alloc | apply pw_below_drewN | apply below_drew1) | exact HB.out)))); have n3_ := Aside0.mk (below_step (by repeat (first | (with_reducible first | exact HB.out | apply below_alloc | apply pw_below_drewN | apply below_drew1) | exact HB.out)) hb); clear HO201; clear HO204; clear HB; have HO201 := n0_; have HO204 := n1_; have HO207 := n2_; have HB := n3_; clear n0_ n1_ n2_ n3_; (try clear hb); (try clear hb2); (try clear hk); (try clear hi); (try clear ho0); obtain ⟨Ao145, co145, eo145⟩ := Kd.R_slice HO204.out; subst eo145; obtain ⟨Ao146, co146, eo146⟩ := Kd.R_slice HO207.out; subst eo146) | ((with_reducible refine gate_callee (f := 13) rfl ?_); refine goesL_ (some 90) rfl rfl Tryz.func13 (by kernel_rfl) rfl #[.int .i64 a0, .bool a1, .int .i64 0, .int .i64 0, .slice Ao145 t202.length co145, .slice Ao146 t205.length co146] rfl (by (try simp only [List.map_toArray, List.map_cons, List.map_nil]); first | done | rfl | (simp only [List.length_drop, List.length_take]; rfl)) ?_; (with_reducible refine (impl_Roles.calls kj17 a0 a1 0 0 _ _ t202 _ _ t205 t208 t209 _ ?side1 ?side2 ?side3 ?side4 A38.out).mono ?_); (case side1 => repeat (first | exact (Kd.R_reads' HO204.out).2.2 | (with_reducible refine Kd.C_alloc ?_ _) | (with_reducible refine Kd.C_drewN ?_ _) | (with_reducible refine Kd.C_drew ?_))); (case side2 => exact (Kd.R_reads' HO204.out).2.1); (case side3 => repeat (first | exact (Kd.R_reads' HO207.out).2.2 | (with_reducible refine Kd.C_alloc ?_ _) | (with_reducible refine Kd.C_drewN ?_ _) | (with_reducible refine Kd.C_drew ?_))); (case side4 => exact (Kd.R_reads' HO207.out).2.1); rintro e w147 ⟨v210, v212, rfl, ho0, ⟨lp_t209, hp_, ho1⟩, hb⟩; have HTt209 := Aside0.mk hp_; have HLt209 := Aside0.mk hp_.len; (try rw [← hp_.len] at c44b0); (try rw [← hp_.len] at c44b1); clear hp_; refine ⟨_, rfl, ?_⟩; have n0_ := Aside0.mk (Kd.R_below (by (with_reducible repeat (first | apply Kd.R_alloc | apply Kd.R_drewN | apply Kd.R_drew)); exact HO201.out) hb); have n1_ := Aside0.mk (Kd.R_below (by (with_reducible repeat (first | apply Kd.R_alloc | apply Kd.R_drewN | apply Kd.R_drew)); exact HO204.out) hb); have n2_ := Aside0.mk (Kd.R_below (by (with_reducible repeat (first | apply Kd.R_alloc | apply Kd.R_drewN | apply Kd.R_drew)); exact HO207.out) hb); have n3_ := Aside0.mk (Kd.R_lower ho0 (below_size (by repeat (first | (with_reducible first | exact HB.out | apply below_alloc | apply pw_below_drewN | apply below_drew1) | exact HB.out)))); have n4_ := Aside0.mk (Kd.S_lower ho1 (below_size (by repeat (first | (with_reducible first | exact HB.out | apply below_alloc | apply pw_below_drewN | apply below_drew1) | exact HB.out)))); have n5_ := Aside0.mk (below_step (by repeat (first | (with_reducible first | exact HB.out | apply below_alloc | apply pw_below_drewN | apply below_drew1) | exact HB.out)) hb); clear HO201; clear HO204; clear HO207; clear HB; have HO201 := n0_; have HO204 := n1_; have HO207 := n2_; have HO211 := n3_; have HO213 := n4_; have HB := n5_; clear n0_ n1_ n2_ n3_ n4_ n5_; (try clear hb); (try clear hb2); (try clear hk); (try clear hi); (try clear ho0); (try clear ho1); obtain ⟨Ao148, co148, eo148⟩ := Kd.R_slice HO201.out; subst eo148) | ((with_reducible refine gate_callee (f := 14) rfl ?_); refine goesL_ (some 97) rfl rfl Tryz.func14 (by kernel_rfl) rfl #[.slice Ao148 y199.length co148] rfl (by (try simp only [List.map_toArray, List.map_cons, List.map_nil]); first | done | rfl | (simp only [List.length_drop, List.length_take]; rfl)) ?_; (with_reducible refine (laws_added.calls kj17 _ _ y199 t214 _ ?side1 ?side2 A39.out).mono ?_); (case side1 => repeat (first | exact (Kd.R_reads' HO201.out).2.2 | (with_reducible refine Kd.C_alloc ?_ _) | (with_reducible refine Kd.C_drewN ?_ _) | (with_reducible refine Kd.C_drew ?_))); (case side2 => exact (Kd.R_reads' HO201.out).2.1); rintro e w149 ⟨v215, rfl, ho0, hb⟩; refine ⟨_, rfl, ?_⟩; have n0_ := Aside0.mk (Kd.R_below (by (with_reducible repeat (first | apply Kd.R_alloc | apply Kd.R_drewN | apply Kd.R_drew)); exact HO201.out) hb); have n1_ := Aside0.mk (Kd.R_elder' (by (with_reducible repeat (first | apply Kd.R_alloc | apply Kd.R_drewN | apply Kd.R_drew)); exact HO204.out) (Kd.R_base ho0) hb); have n2_ := Aside0.mk (Kd.R_below (by (with_reducible repeat (first | apply Kd.R_alloc | apply Kd.R_drewN | apply Kd.R_drew)); exact HO207.out) hb); have n3_ := Aside0.mk (Kd.R_below (by (with_reducible repeat (first | apply Kd.R_alloc | apply Kd.R_drewN | apply Kd.R_drew)); exact HO211.out) hb); have n4_ := Aside0.mk (Kd.S_below (by (with_reducible repeat (first | apply Kd.S_alloc | apply Kd.S_drewN | apply Kd.S_drew)); exact HO213.out) hb); have n5_ := Aside0.mk (Kd.R_lower (Kd.R_new' ho0 (Kd.R_lt (by (with_reducible repeat (first | apply Kd.R_alloc | apply Kd.R_drewN | apply Kd.R_drew)); exact HO204.out))) (below_size (by repeat (first | (with_reducible first | exact HB.out | apply below_alloc | apply pw_below_drewN | apply below_drew1) | exact HB.out)))); have n6_ := Aside0.mk (below_step (by repeat (first | (with_reducible first | exact HB.out | apply below_alloc | apply pw_below_drewN | apply below_drew1) | exact HB.out)) hb); clear HO201; clear HO204; clear HO207; clear HO211; clear HO213; clear HB; have HO201 := n0_; have HO204 := n1_; have HO207 := n2_; have HO211 := n3_; have HO213 := n4_; have HO216 := n5_; have HB := n6_; clear n0_ n1_ n2_ n3_ n4_ n5_ n6_; (try clear hb); (try clear hb2); (try clear hk); (try clear hi); (try clear ho0)) | ((with_reducible refine gate_callee (f := 15) rfl ?_); refine goesL_ (some 101) rfl rfl Tryz.func15 (by kernel_rfl) rfl #[.string a4, .string a5, .string a6] rfl (by (try simp only [List.map_toArray, List.map_cons, List.map_nil]); first | done | rfl | (simp only [List.length_drop, List.length_take]; rfl)) ?_; (with_reducible refine (laws_all.calls a4 a5 a6 t217 _ A40.out).mono ?_); rintro e w150 ⟨v218, rfl, ho0, hb⟩; refine ⟨_, rfl, ?_⟩; have n0_ := Aside0.mk (Kd.R_below (by (with_reducible repeat (first | apply Kd.R_alloc | apply Kd.R_drewN | apply Kd.R_drew)); exact HO201.out) hb); have n1_ := Aside0.mk (Kd.R_below (by (with_reducible repeat (first | apply Kd.R_alloc | apply Kd.R_drewN | apply Kd.R_drew)); exact HO204.out) hb); have n2_ := Aside0.mk (Kd.R_elder' (by (with_reducible repeat (first | apply Kd.R_alloc | apply Kd.R_drewN | apply Kd.R_drew)); exact HO207.out) (Kd.R_base ho0) hb); have n3_ := Aside0.mk (Kd.R_below (by (with_reducible repeat (first | apply Kd.R_alloc | apply Kd.R_drewN | apply Kd.R_drew)); exact HO211.out) hb); have n4_ := Aside0.mk (Kd.S_below (by (with_reducible repeat (first | apply Kd.S_alloc | apply Kd.S_drewN | apply Kd.S_drew)); exact HO213.out) hb); have n5_ := Aside0.mk (Kd.R_below (by (with_reducible repeat (first | apply Kd.R_alloc | apply Kd.R_drewN | apply Kd.R_drew)); exact HO216.out) hb); have n6_ := Aside0.mk (Kd.R_lower (Kd.R_new' ho0 (Kd.R_lt (by (with_reducible repeat (first | apply Kd.R_alloc | apply Kd.R_drewN | apply Kd.R_drew)); exact HO207.out))) (below_size (by repeat (first | (with_reducible first | exact HB.out | apply below_alloc | apply pw_below_drewN | apply below_drew1) | exact HB.out)))); have n7_ := Aside0.mk (below_step (by repeat (first | (with_reducible first | exact HB.out | apply below_alloc | apply pw_below_drewN | apply below_drew1) | exact HB.out)) hb); clear HO201; clear HO204; clear HO207; clear HO211; clear HO213; clear HO216; clear HB; have HO201 := n0_; have HO204 := n1_; have HO207 := n2_; have HO211 := n3_; have HO213 := n4_; have HO216 := n5_; have HO219 := n6_; have HB := n7_; clear n0_ n1_ n2_ n3_ n4_ n5_ n6_ n7_; (try clear hb); (try clear hb2); (try clear hk); (try clear hi); (try clear ho0); obtain ⟨Ao151, co151, eo151⟩ := Kd.R_slice HO216.out; subst eo151; obtain ⟨Ao152, co152, eo152⟩ := Kd.R_slice HO219.out; subst eo152) | ((with_reducible refine gate_callee (f := 13) rfl ?_); refine goesL_ (some 102) rfl rfl Tryz.func13 (by kernel_rfl) rfl #[.int .i64 a0, .bool a1, .int .i64 0, .int .i64 0, .slice Ao151 t214.length co151, .slice Ao152 t217.length co152] rfl (by (try simp only [List.map_toArray, List.map_cons, List.map_nil]); first | done | rfl | (simp only [List.length_drop, List.length_take]; rfl)) ?_; (with_reducible refine (impl_Roles.calls kj17 a0 a1 0 0 _ _ t214 _ _ t217 t220 t221 _ ?side1 ?side2 ?side3 ?side4 A41.out).mono ?_); (case side1 => repeat (first | exact (Kd.R_reads' HO216.out).2.2 | (with_reducible refine Kd.C_alloc ?_ _) | (with_reducible refine Kd.C_drewN ?_ _) | (with_reducible refine Kd.C_drew ?_))); (case side2 => exact (Kd.R_reads' HO216.out).2.1); (case side3 => repeat (first | exact (Kd.R_reads' HO219.out).2.2 | (with_reducible refine Kd.C_alloc ?_ _) | (with_reducible refine Kd.C_drewN ?_ _) | (with_reducible refine Kd.C_drew ?_))); (case side4 => exact (Kd.R_reads' HO219.out).2.1); rintro e w153 ⟨v222, v224, rfl, ho0, ⟨lp_t221, hp_, ho1⟩, hb⟩; have HTt221 := Aside0.mk hp_; have HLt221 := Aside0.mk hp_.len; clear hp_; refine ⟨_, rfl, ?_⟩; have n0_ := Aside0.mk (Kd.R_below (by (with_reducible repeat (first | apply Kd.R_alloc | apply Kd.R_drewN | apply Kd.R_drew)); exact HO201.out) hb); have n1_ := Aside0.mk (Kd.R_below (by (with_reducible repeat (first | apply Kd.R_alloc | apply Kd.R_drewN | apply Kd.R_drew)); exact HO204.out) hb); have n2_ := Aside0.mk (Kd.R_below (by (with_reducible repeat (first | apply Kd.R_alloc | apply Kd.R_drewN | apply Kd.R_drew)); exact HO207.out) hb); have n3_ := Aside0.mk (Kd.R_elder' (by (with_reducible repeat (first | apply Kd.R_alloc | apply Kd.R_drewN | apply Kd.R_drew)); exact HO211.out) (Kd.R_base ho0) hb); have n4_ := Aside0.mk (Kd.S_elder' (by (with_reducible repeat (first | apply Kd.S_alloc | apply Kd.S_drewN | apply Kd.S_drew)); exact HO213.out) (Kd.S_base ho1) hb); have n5_ := Aside0.mk (Kd.R_below (by (with_reducible repeat (first | apply Kd.R_alloc | apply Kd.R_drewN | apply Kd.R_drew)); exact HO216.out) hb); have n6_ := Aside0.mk (Kd.R_below (by (with_reducible repeat (first | apply Kd.R_alloc | apply Kd.R_drewN | apply Kd.R_drew)); exact HO219.out) hb); have n7_ := Aside0.mk (Kd.R_lower (Kd.R_new' ho0 (Kd.R_lt (by (with_reducible repeat (first | apply Kd.R_alloc | apply Kd.R_drewN | apply Kd.R_drew)); exact HO211.out))) (below_size (by repeat (first | (with_reducible first | exact HB.out | apply below_alloc | apply pw_below_drewN | apply below_drew1) | exact HB.out)))); have n8_ := Aside0.mk (Kd.S_lower (Kd.S_new' ho1 (Kd.S_lt (by (with_reducible repeat (first | apply Kd.S_alloc | apply Kd.S_drewN | apply Kd.S_drew)); exact HO213.out))) (below_size (by repeat (first | (with_reducible first | exact HB.out | apply below_alloc | apply pw_below_drewN | apply below_drew1) | exact HB.out)))); have n9_ := Aside0.mk (below_step (by repeat (first | (with_reducible first | exact HB.out | apply below_alloc | apply pw_below_drewN | apply below_drew1) | exact HB.out)) hb); clear HO201; clear HO204; clear HO207; clear HO211; clear HO213; clear HO216; clear HO219; clear HB; have HO201 := n0_; have HO204 := n1_; have HO207 := n2_; have HO211 := n3_; have HO213 := n4_; have HO216 := n5_; have HO219 := n6_; have HO223 := n7_; have HO225 := n8_; have HB := n9_; clear n0_ n1_ n2_ n3_ n4_ n5_ n6_ n7_ n8_ n9_; (try clear hb); (try clear hb2); (try clear hk); (try clear hi); (try clear ho0); (try clear ho1); obtain ⟨Ao154, co154, eo154⟩ := Kd.R_slice HO211.out; subst eo154))
             go_ret
             exact ⟨by first | rfl | (simp [errW_none, errW_some] <;> rfl) | (simp only [← hji29]; first | rfl | (simp [errW_none, errW_some] <;> rfl)) | (simp [*, errW_none, errW_some] <;> rfl), by repeat (first | (with_reducible first | exact HB.out | apply below_alloc | apply pw_below_drewN | apply below_drew1) | exact HB.out)⟩
           ·rw [if_neg c35] at H
            exact absurd H (by simp)
          ·rw [if_neg c32] at H
           exact absurd H (by simp)
         ·rw [if_neg c31] at H
          exact absurd H (by simp)
        ·rw [if_neg c30] at H
         exact absurd H (by simp)

end Go.Proofs.YtjijaciaioieaaaGreat.PFnRolesOrder
