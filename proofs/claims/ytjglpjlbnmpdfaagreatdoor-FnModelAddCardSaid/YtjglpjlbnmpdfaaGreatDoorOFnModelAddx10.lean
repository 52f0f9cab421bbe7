/- The machine side of laws.FnModelAdd: each function of this text answers what its Lean function answers (written for this claim by a program of this session over the kit's print; no condition beyond what each theorem says). -/
import Derived.Test.YtjglpjlbnmpdfaaGreatDoorOFnModelAddx0
import Derived.Test.YtjglpjlbnmpdfaaGreatDoorOFnModelAddx1
import Derived.Test.YtjglpjlbnmpdfaaGreatDoorOFnModelAddx2
import Derived.Test.YtjglpjlbnmpdfaaGreatDoorOFnModelAddx9
namespace Go.Proofs.YtjglpjlbnmpdfaaGreatDoor.PFnModelAdd
open Go.RowKit Go.Proofs.YtjglpjlbnmpdfaaGreatDoorW.PrintWords Go.Proofs.YtjglpjlbnmpdfaaGreatDoorW.PrintLast Go.Proofs.YtjglpjlbnmpdfaaGreatDoorW.PrintMore
attribute [local go_sem] max2_int min2_int max_two min_two max_three min_three max_four min_four   -- for this text's walks alone
set_option linter.unusedVariables false
set_option linter.unusedSimpArgs false

attribute [local go_sem high] eqA28
/-! ### laws_awakeModel: function 10 -/
def laws_awakeModel.f (k : Nat)  : Option (Bool) := (impl_ModelDefs.f k (⟨#[91, 114, 101, 113, 117, 101, 115, 116, 95, 100, 101, 102, 105, 110, 105, 116, 105, 111, 110, 93, 10, 114, 32, 61, 32, 115, 117, 98, 10, 91, 112, 111, 108, 105, 99, 121, 95, 100, 101, 102, 105, 110, 105, 116, 105, 111, 110, 93, 10, 112, 32, 61, 32, 115, 117, 98, 10, 91, 112, 111, 108, 105, 99, 121, 95, 101, 102, 102, 101, 99, 116, 93, 10, 101, 32, 61, 32, 115, 111, 109, 101, 40, 119, 104, 101, 114, 101, 32, 40, 112, 46, 101, 102, 116, 32, 61, 61, 32, 97, 108, 108, 111, 119, 41, 41, 10, 91, 109, 97, 116, 99, 104, 101, 114, 115, 93, 10, 109, 32, 61, 32, 114, 46, 115, 117, 98, 32, 61, 61, 32, 112, 46, 115, 117, 98, 10]⟩ : ByteArray)).bind fun bt153 => (if bt153.2 = 0 then (some ((bt153.1.length : Int) == 4)) else (some false))
theorem laws_awakeModel.mono : ∀ k, LeO (laws_awakeModel.f k ) (laws_awakeModel.f (k + 1) ) := by
 intro  k
 unfold laws_awakeModel.f
 repeat' first
   | (with_reducible exact impl_ModelDefs.mono _ _)
   | (with_reducible exact LeO.refl _)
   | (with_reducible exact LeO.none _)
   | (with_reducible refine LeO.ite ?_ ?_)
   | (with_reducible refine LeO.bind ?_ (fun _ => ?_))
   | exact impl_ModelDefs.mono _ _
   | exact LeO.none _
   | refine LeO.ite ?_ ?_
   | refine LeO.bind ?_ (fun _ => ?_)
set_option maxHeartbeats 8000000 in
set_option maxRecDepth 100000 in
theorem laws_awakeModel.calls (k : Nat)  (r : Bool) (w : World) (hprem : Prem w) (h : laws_awakeModel.f k  = some r) :
  Calls Tryz.prog 10 #[] w fun e w' => e = .returned (.bool r) ∧ Below w.heap.size w w' := by
 have HPM := Aside0.mk hprem
 clear hprem
 have HB := Aside0.mk (Below.refl w.heap.size w)
 have H : ((impl_ModelDefs.f k (⟨#[91, 114, 101, 113, 117, 101, 115, 116, 95, 100, 101, 102, 105, 110, 105, 116, 105, 111, 110, 93, 10, 114, 32, 61, 32, 115, 117, 98, 10, 91, 112, 111, 108, 105, 99, 121, 95, 100, 101, 102, 105, 110, 105, 116, 105, 111, 110, 93, 10, 112, 32, 61, 32, 115, 117, 98, 10, 91, 112, 111, 108, 105, 99, 121, 95, 101, 102, 102, 101, 99, 116, 93, 10, 101, 32, 61, 32, 115, 111, 109, 101, 40, 119, 104, 101, 114, 101, 32, 40, 112, 46, 101, 102, 116, 32, 61, 61, 32, 97, 108, 108, 111, 119, 41, 41, 10, 91, 109, 97, 116, 99, 104, 101, 114, 115, 93, 10, 109, 32, 61, 32, 114, 46, 115, 117, 98, 32, 61, 61, 32, 112, 46, 115, 117, 98, 10]⟩ : ByteArray)).bind fun bt153 => (if bt153.2 = 0 then (some ((bt153.1.length : Int) == 4)) else (some false))) = some r := h
 clear h
 replace H := Option.bind_eq_some_iff.mp H
 obtain ⟨⟨t153, t154⟩, A10, H⟩ := H
 replace H : (if t154 = 0 then (some ((t153.length : Int) == 4)) else (some false)) = some r := H
 have A1 := Aside0.mk A10
 clear A10
 by_cases c2 : t154 = 0
 ·rw [if_pos c2] at H
  have c2b0 : (t154 == 0) = true := beq_iff_eq.mpr c2
  have c2b1 : (t154 != 0) = false := bne_eq_false_iff_eq.mpr c2
  clear c2
  obtain rfl := Option.some.inj H
  go_enter Tryz.func10, Tryz.ntmps10
  go_wp2_with (first | ((with_reducible refine gate_callee (f := 11) rfl ?_); refine goesL_ (some 4) rfl rfl Tryz.func11 (by kernel_rfl) rfl #[.string (⟨#[91, 114, 101, 113, 117, 101, 115, 116, 95, 100, 101, 102, 105, 110, 105, 116, 105, 111, 110, 93, 10, 114, 32, 61, 32, 115, 117, 98, 10, 91, 112, 111, 108, 105, 99, 121, 95, 100, 101, 102, 105, 110, 105, 116, 105, 111, 110, 93, 10, 112, 32, 61, 32, 115, 117, 98, 10, 91, 112, 111, 108, 105, 99, 121, 95, 101, 102, 102, 101, 99, 116, 93, 10, 101, 32, 61, 32, 115, 111, 109, 101, 40, 119, 104, 101, 114, 101, 32, 40, 112, 46, 101, 102, 116, 32, 61, 61, 32, 97, 108, 108, 111, 119, 41, 41, 10, 91, 109, 97, 116, 99, 104, 101, 114, 115, 93, 10, 109, 32, 61, 32, 114, 46, 115, 117, 98, 32, 61, 61, 32, 112, 46, 115, 117, 98, 10]⟩ : ByteArray)] rfl (by (try simp only [List.map_toArray, List.map_cons, List.map_nil]); first | done | rfl | (simp only [List.length_drop, List.length_take]; rfl)) ?_; (with_reducible refine (impl_ModelDefs.calls k (⟨#[91, 114, 101, 113, 117, 101, 115, 116, 95, 100, 101, 102, 105, 110, 105, 116, 105, 111, 110, 93, 10, 114, 32, 61, 32, 115, 117, 98, 10, 91, 112, 111, 108, 105, 99, 121, 95, 100, 101, 102, 105, 110, 105, 116, 105, 111, 110, 93, 10, 112, 32, 61, 32, 115, 117, 98, 10, 91, 112, 111, 108, 105, 99, 121, 95, 101, 102, 102, 101, 99, 116, 93, 10, 101, 32, 61, 32, 115, 111, 109, 101, 40, 119, 104, 101, 114, 101, 32, 40, 112, 46, 101, 102, 116, 32, 61, 61, 32, 97, 108, 108, 111, 119, 41, 41, 10, 91, 109, 97, 116, 99, 104, 101, 114, 115, 93, 10, 109, 32, 61, 32, 114, 46, 115, 117, 98, 32, 61, 61, 32, 112, 46, 115, 117, 98, 10]⟩ : ByteArray) t153 t154 _ (by repeat (first | exact HPM.out | exact prem_below HPM.out HB.out | (with_reducible refine prem_below ?_ (Drawn0.below ⟨_, rfl⟩)))) A1.out).mono ?_); rintro e w3 ⟨v155, rfl, ⟨lp_, hp_, ho0⟩, hb⟩; have HPERM := Aside0.mk hp_; clear hp_; refine ⟨_, rfl, ?_⟩; have n0_ := Aside0.mk (Kd.R_lower ho0 (below_size (by repeat (first | (with_reducible first | exact HB.out | apply below_alloc | apply pw_below_drewN | apply below_drew1) | exact HB.out)))); have n1_ := Aside0.mk (below_step (by repeat (first | (with_reducible first | exact HB.out | apply below_alloc | apply pw_below_drewN | apply below_drew1) | exact HB.out)) hb); clear HB; have HO156 := n0_; have HB := n1_; clear n0_ n1_; (try clear hb); (try clear hb2); (try clear hk); (try clear hi); (try clear ho0); obtain ⟨Ao4, co4, eo4⟩ := Kd.R_slice HO156.out; subst eo4))
  go_ret
  exact ⟨by first | rfl | (rw [← HPERM.out.length_eq]; rfl) | (simp [← HPERM.out.length_eq]; done) | (simp [errW_none, errW_some] <;> rfl) | (simp [*, errW_none, errW_some] <;> rfl), by repeat (first | (with_reducible first | exact HB.out | apply below_alloc | apply pw_below_drewN | apply below_drew1) | exact HB.out)⟩
 ·rw [if_neg c2] at H
  have c2b0 : (t154 == 0) = false := beq_eq_false_iff_ne.mpr c2
  have c2b1 : (t154 != 0) = true := bne_iff_ne.mpr c2
  obtain rfl := Option.some.inj H
  go_enter Tryz.func10, Tryz.ntmps10
  go_wp2_with (first | ((with_reducible refine gate_callee (f := 11) rfl ?_); refine goesL_ (some 4) rfl rfl Tryz.func11 (by kernel_rfl) rfl #[.string (⟨#[91, 114, 101, 113, 117, 101, 115, 116, 95, 100, 101, 102, 105, 110, 105, 116, 105, 111, 110, 93, 10, 114, 32, 61, 32, 115, 117, 98, 10, 91, 112, 111, 108, 105, 99, 121, 95, 100, 101, 102, 105, 110, 105, 116, 105, 111, 110, 93, 10, 112, 32, 61, 32, 115, 117, 98, 10, 91, 112, 111, 108, 105, 99, 121, 95, 101, 102, 102, 101, 99, 116, 93, 10, 101, 32, 61, 32, 115, 111, 109, 101, 40, 119, 104, 101, 114, 101, 32, 40, 112, 46, 101, 102, 116, 32, 61, 61, 32, 97, 108, 108, 111, 119, 41, 41, 10, 91, 109, 97, 116, 99, 104, 101, 114, 115, 93, 10, 109, 32, 61, 32, 114, 46, 115, 117, 98, 32, 61, 61, 32, 112, 46, 115, 117, 98, 10]⟩ : ByteArray)] rfl (by (try simp only [List.map_toArray, List.map_cons, List.map_nil]); first | done | rfl | (simp only [List.length_drop, List.length_take]; rfl)) ?_; (with_reducible refine (impl_ModelDefs.calls k (⟨#[91, 114, 101, 113, 117, 101, 115, 116, 95, 100, 101, 102, 105, 110, 105, 116, 105, 111, 110, 93, 10, 114, 32, 61, 32, 115, 117, 98, 10, 91, 112, 111, 108, 105, 99, 121, 95, 100, 101, 102, 105, 110, 105, 116, 105, 111, 110, 93, 10, 112, 32, 61, 32, 115, 117, 98, 10, 91, 112, 111, 108, 105, 99, 121, 95, 101, 102, 102, 101, 99, 116, 93, 10, 101, 32, 61, 32, 115, 111, 109, 101, 40, 119, 104, 101, 114, 101, 32, 40, 112, 46, 101, 102, 116, 32, 61, 61, 32, 97, 108, 108, 111, 119, 41, 41, 10, 91, 109, 97, 116, 99, 104, 101, 114, 115, 93, 10, 109, 32, 61, 32, 114, 46, 115, 117, 98, 32, 61, 61, 32, 112, 46, 115, 117, 98, 10]⟩ : ByteArray) t153 t154 _ (by repeat (first | exact HPM.out | exact prem_below HPM.out HB.out | (with_reducible refine prem_below ?_ (Drawn0.below ⟨_, rfl⟩)))) A1.out).mono ?_); rintro e w5 ⟨v155, rfl, ⟨lp_, hp_, ho0⟩, hb⟩; have HPERM := Aside0.mk hp_; clear hp_; refine ⟨_, rfl, ?_⟩; have n0_ := Aside0.mk (Kd.R_lower ho0 (below_size (by repeat (first | (with_reducible first | exact HB.out | apply below_alloc | apply pw_below_drewN | apply below_drew1) | exact HB.out)))); have n1_ := Aside0.mk (below_step (by repeat (first | (with_reducible first | exact HB.out | apply below_alloc | apply pw_below_drewN | apply below_drew1) | exact HB.out)) hb); clear HB; have HO156 := n0_; have HB := n1_; clear n0_ n1_; (try clear hb); (try clear hb2); (try clear hk); (try clear hi); (try clear ho0)))
  go_ret
  exact ⟨by first | rfl | (rw [← HPERM.out.length_eq]; rfl) | (simp [← HPERM.out.length_eq]; done) | (simp [errW_none, errW_some] <;> rfl) | (simp [*, errW_none, errW_some] <;> rfl), by repeat (first | (with_reducible first | exact HB.out | apply below_alloc | apply pw_below_drewN | apply below_drew1) | exact HB.out)⟩

/-! ### spec_SameDefs: function 14 -/
mutual
def spec_SameDefs.l0 : Nat → List (S28) → List (S28) → Int → Option (Bool)
 | 0, _, _, _ => none
 | k + 1, x0, x1, x5 => if x5 < (x0.length : Int) then (spec_SameDefs.l1 k x0 x1 x5 0 0 0) else (some true)
def spec_SameDefs.l1 : Nat → List (S28) → List (S28) → Int → Int → Int → Int → Option (Bool)
 | 0, _, _, _, _, _, _ => none
 | k + 1, x0, x1, x5, x6, x7, x8 => if x8 < (x0.length : Int) then (if 0 ≤ x8 then (if 0 ≤ x5 then (if x5 < (x0.length : Int) then (if ((((rd_T28 x0 x8).f0).toList) == (((rd_T28 x0 x5).f0).toList) && ((((rd_T28 x0 x8).f1).toList) == (((rd_T28 x0 x5).f1).toList) && ((((rd_T28 x0 x8).f2).toList) == (((rd_T28 x0 x5).f2).toList)))) = true then (if x8 < (x1.length : Int) then (if ((((rd_T28 x1 x8).f0).toList) == (((rd_T28 x0 x5).f0).toList) && ((((rd_T28 x1 x8).f1).toList) == (((rd_T28 x0 x5).f1).toList) && ((((rd_T28 x1 x8).f2).toList) == (((rd_T28 x0 x5).f2).toList)))) = true then (spec_SameDefs.l1 k x0 x1 x5 (wrap64 (x6 + 1)) (wrap64 (x7 + 1)) (wrap64 (x8 + 1))) else (spec_SameDefs.l1 k x0 x1 x5 (wrap64 (x6 + 1)) x7 (wrap64 (x8 + 1)))) else (none)) else (if x8 < (x1.length : Int) then (if ((((rd_T28 x1 x8).f0).toList) == (((rd_T28 x0 x5).f0).toList) && ((((rd_T28 x1 x8).f1).toList) == (((rd_T28 x0 x5).f1).toList) && ((((rd_T28 x1 x8).f2).toList) == (((rd_T28 x0 x5).f2).toList)))) = true then (spec_SameDefs.l1 k x0 x1 x5 x6 (wrap64 (x7 + 1)) (wrap64 (x8 + 1))) else (spec_SameDefs.l1 k x0 x1 x5 x6 x7 (wrap64 (x8 + 1)))) else (none))) else (none)) else (none)) else (none)) else (if x6 = x7 then (spec_SameDefs.l0 k x0 x1 (wrap64 (x5 + 1))) else (some false))
end
def spec_SameDefs.f (k : Nat) (l0 : List (S28)) (l1 : List (S28)) : Option (Bool) := if (l0.length : Int) = (l1.length : Int) then (spec_SameDefs.l0 k l0 l1 0) else (some false)
theorem spec_SameDefs.mono_l : ∀ k, (∀ y0 y1 y2, LeO (spec_SameDefs.l0 k y0 y1 y2) (spec_SameDefs.l0 (k + 1) y0 y1 y2)) ∧ (∀ y0 y1 y2 y3 y4 y5, LeO (spec_SameDefs.l1 k y0 y1 y2 y3 y4 y5) (spec_SameDefs.l1 (k + 1) y0 y1 y2 y3 y4 y5))
 | 0 => ⟨fun _ _ _ r h => by simp [spec_SameDefs.l0] at h, fun _ _ _ _ _ _ r h => by simp [spec_SameDefs.l1] at h⟩
 | k + 1 => by
  obtain ⟨ih0, ih1⟩ := spec_SameDefs.mono_l k
  refine ⟨?_, ?_⟩
  ·intro y0 y1 y2
   unfold spec_SameDefs.l0
   repeat' first
   | (with_reducible exact ih0 _ _ _)
   | (with_reducible exact ih1 _ _ _ _ _ _)
   | (with_reducible exact LeO.refl _)
   | (with_reducible exact LeO.none _)
   | (with_reducible refine LeO.ite ?_ ?_)
   | (with_reducible refine LeO.bind ?_ (fun _ => ?_))
   | exact ih0 _ _ _
   | exact ih1 _ _ _ _ _ _
   | exact LeO.none _
   | refine LeO.ite ?_ ?_
   | refine LeO.bind ?_ (fun _ => ?_)
  ·intro y0 y1 y2 y3 y4 y5
   unfold spec_SameDefs.l1
   repeat' first
   | (with_reducible exact ih0 _ _ _)
   | (with_reducible exact ih1 _ _ _ _ _ _)
   | (with_reducible exact LeO.refl _)
   | (with_reducible exact LeO.none _)
   | (with_reducible refine LeO.ite ?_ ?_)
   | (with_reducible refine LeO.bind ?_ (fun _ => ?_))
   | exact ih0 _ _ _
   | exact ih1 _ _ _ _ _ _
   | exact LeO.none _
   | refine LeO.ite ?_ ?_
   | refine LeO.bind ?_ (fun _ => ?_)
theorem spec_SameDefs.mono : ∀ a0 a1 k, LeO (spec_SameDefs.f k a0 a1) (spec_SameDefs.f (k + 1) a0 a1) := by
 intro a0 a1 k
 obtain ⟨ih0, ih1⟩ := spec_SameDefs.mono_l k
 unfold spec_SameDefs.f
 repeat' first
   | (with_reducible exact ih0 _ _ _)
   | (with_reducible exact ih1 _ _ _ _ _ _)
   | (with_reducible exact LeO.refl _)
   | (with_reducible exact LeO.none _)
   | (with_reducible refine LeO.ite ?_ ?_)
   | (with_reducible refine LeO.bind ?_ (fun _ => ?_))
   | exact ih0 _ _ _
   | exact ih1 _ _ _ _ _ _
   | exact LeO.none _
   | refine LeO.ite ?_ ?_
   | refine LeO.bind ?_ (fun _ => ?_)
set_option maxHeartbeats 8000000 in
set_option maxRecDepth 100000 in
theorem spec_SameDefs.calls (k : Nat) (A0 : Option Addr) (c0 : Nat) (l0 : List (S28)) (A1 : Option Addr) (c1 : Nat) (l1 : List (S28)) (r : Bool) (w : World) (hr0 : Kd.C k28 w A0 l0.length l0) (hc0 : l0.length ≤ c0) (hr1 : Kd.C k28 w A1 l1.length l1) (hc1 : l1.length ≤ c1) (h : spec_SameDefs.f k l0 l1 = some r) :
  Calls Tryz.prog 14 #[.slice A0 l0.length c0, .slice A1 l1.length c1] w fun e w' => e = .returned (.bool r) ∧ Drawn0 w w' := by
 have hu28 := Tryz.underlying28
 have HR0 := Aside0.mk hr0
 have HC0 := Aside0.mk hc0
 clear hr0 hc0
 have HR1 := Aside0.mk hr1
 have HC1 := Aside0.mk hc1
 clear hr1 hc1
 have H : (if (l0.length : Int) = (l1.length : Int) then (spec_SameDefs.l0 k l0 l1 0) else (some false)) = some r := h
 clear h
 by_cases c3 : (l0.length : Int) = (l1.length : Int)
 ·rw [if_pos c3] at H
  have c3b0 : ((l0.length : Int) == (l1.length : Int)) = true := beq_iff_eq.mpr c3
  have c3b1 : ((l0.length : Int) != (l1.length : Int)) = false := bne_eq_false_iff_eq.mpr c3
  have c3b2 : (l0.length == l1.length) = true := by first | simpa using c3 | (simp at c3 ⊢; omega)
  clear c3
  have H' := Aside0.mk H
  clear H
  go_enter Tryz.func14, Tryz.ntmps14
  go_wp2
  repeat (go_quiet (fail); try go_wp2)
  go_loopg [5] k (fun kq v5 w' => ∃ (x5_1 : Int), v5 = .int .i64 x5_1 ∧ Aside0 (spec_SameDefs.l0 kq l0 l1 x5_1 = some r) ∧ Aside0 (kq ≤ k) ∧ Drawn0 w w')
  case atStart => exact ⟨(0), orf, H', ⟨Nat.le_refl _⟩, by repeat (first | exact Drawn0.refl _ | apply Drawn0.step)⟩
  case round =>
   clear H'
   try clear c1
   try clear p2
   try clear c3
   try clear c3b0
   try clear c3b1
   try clear c3b2
   obtain ⟨x5_1, rfl, HA, HK1, ⟨m1, rfl⟩⟩ := hrel
   cases gk with
   | zero => exact absurd HA.out (by simp [spec_SameDefs.l0])
   | succ k1 =>
    have H := HA.out
    clear HA
    simp only [spec_SameDefs.l0] at H
    by_cases c4 : x5_1 < (l0.length : Int)
    ·rw [if_pos c4] at H
     have c4b0 : decide (x5_1 < (l0.length : Int)) = true := decide_eq_true c4
     clear c4
     have H' := Aside0.mk H
     clear H
     go_wp2
     repeat (go_quiet (fail); try go_wp2)
     go_loopg [6, 7, 8] k1 (fun kq v6 v7 v8 w' => ∃ (x6_2 : Int) (x7_2 : Int) (x8_2 : Int), v6 = .int .i64 x6_2 ∧ v7 = .int .i64 x7_2 ∧ v8 = .int .i64 x8_2 ∧ Aside0 (spec_SameDefs.l1 kq l0 l1 x5_1 x6_2 x7_2 x8_2 = some r) ∧ Aside0 (kq ≤ k1) ∧ Drawn0 w w')
     case atStart => exact ⟨(0), (0), (0), orf, orf, orf, H', ⟨Nat.le_refl _⟩, by repeat (first | exact Drawn0.refl _ | apply Drawn0.step)⟩
     case round =>
      clear H'
      try clear c1
      try clear p2
      try clear c3
      try clear c3b0
      try clear c3b1
      try clear c3b2
      try clear c4
      try clear c4b0
      try clear p2
      obtain ⟨x6_2, x7_2, x8_2, rfl, rfl, rfl, HA, HK2, ⟨m2, rfl⟩⟩ := hrel
      cases gk with
      | zero => exact absurd HA.out (by simp [spec_SameDefs.l1])
      | succ k2 =>
       have H := HA.out
       clear HA
       simp only [spec_SameDefs.l1] at H
       by_cases c5 : x8_2 < (l0.length : Int)
       ·rw [if_pos c5] at H
        have c5b0 : decide (x8_2 < (l0.length : Int)) = true := decide_eq_true c5
        clear c5
        by_cases c6 : 0 ≤ x8_2
        ·rw [if_pos c6] at H
         have c6b0 : decide (0 ≤ x8_2) = true := decide_eq_true c6
         clear c6
         by_cases c7 : 0 ≤ x5_1
         ·rw [if_pos c7] at H
          have c7b0 : decide (0 ≤ x5_1) = true := decide_eq_true c7
          clear c7
          by_cases c8 : x5_1 < (l0.length : Int)
          ·rw [if_pos c8] at H
           have c8b0 : decide (x5_1 < (l0.length : Int)) = true := decide_eq_true c8
           clear c8
           by_cases c9 : ((((rd_T28 l0 x8_2).f0).toList) == (((rd_T28 l0 x5_1).f0).toList) && ((((rd_T28 l0 x8_2).f1).toList) == (((rd_T28 l0 x5_1).f1).toList) && ((((rd_T28 l0 x8_2).f2).toList) == (((rd_T28 l0 x5_1).f2).toList)))) = true
           ·rw [if_pos c9] at H
            have c9b0 : ((((rd_T28 l0 x8_2).f0).toList) == (((rd_T28 l0 x5_1).f0).toList) && ((((rd_T28 l0 x8_2).f1).toList) == (((rd_T28 l0 x5_1).f1).toList) && ((((rd_T28 l0 x8_2).f2).toList) == (((rd_T28 l0 x5_1).f2).toList)))) = true := c9
            (try (have c9b1 : decide ((((rd_T28 l0 x8_2).f0).toList) = (((rd_T28 l0 x5_1).f0).toList) && ((((rd_T28 l0 x8_2).f1).toList) == (((rd_T28 l0 x5_1).f1).toList) && ((((rd_T28 l0 x8_2).f2).toList) == (((rd_T28 l0 x5_1).f2).toList)))) = true := by simpa using c9))
            (try (have c9b2 : ((((rd_T28 l0 x8_2).f0).toList) == (((rd_T28 l0 x5_1).f0).toList) && ((((rd_T28 l0 x8_2).f1).toList) == (((rd_T28 l0 x5_1).f1).toList) && ((((rd_T28 l0 x8_2).f2).toList) == (((rd_T28 l0 x5_1).f2).toList)))) = true := by simpa using c9))
            clear c9
            by_cases c10 : x8_2 < (l1.length : Int)
            ·rw [if_pos c10] at H
             have c10b0 : decide (x8_2 < (l1.length : Int)) = true := decide_eq_true c10
             clear c10
             by_cases c11 : ((((rd_T28 l1 x8_2).f0).toList) == (((rd_T28 l0 x5_1).f0).toList) && ((((rd_T28 l1 x8_2).f1).toList) == (((rd_T28 l0 x5_1).f1).toList) && ((((rd_T28 l1 x8_2).f2).toList) == (((rd_T28 l0 x5_1).f2).toList)))) = true
             ·rw [if_pos c11] at H
              have c11b0 : ((((rd_T28 l1 x8_2).f0).toList) == (((rd_T28 l0 x5_1).f0).toList) && ((((rd_T28 l1 x8_2).f1).toList) == (((rd_T28 l0 x5_1).f1).toList) && ((((rd_T28 l1 x8_2).f2).toList) == (((rd_T28 l0 x5_1).f2).toList)))) = true := c11
              (try (have c11b1 : decide ((((rd_T28 l1 x8_2).f0).toList) = (((rd_T28 l0 x5_1).f0).toList) && ((((rd_T28 l1 x8_2).f1).toList) == (((rd_T28 l0 x5_1).f1).toList) && ((((rd_T28 l1 x8_2).f2).toList) == (((rd_T28 l0 x5_1).f2).toList)))) = true := by simpa using c11))
              (try (have c11b2 : ((((rd_T28 l1 x8_2).f0).toList) == (((rd_T28 l0 x5_1).f0).toList) && ((((rd_T28 l1 x8_2).f1).toList) == (((rd_T28 l0 x5_1).f1).toList) && ((((rd_T28 l1 x8_2).f2).toList) == (((rd_T28 l0 x5_1).f2).toList)))) = true := by simpa using c11))
              clear c11
              have H' := Aside0.mk H
              clear H
              have p157 : 0 ≤ (x8_2 : Int) := odt
              have q157 : x8_2 < (l0.length : Int) := odt
              obtain ⟨ad157, e157, hx157_0, hx157_1, hx157_2⟩ := at_T28 HR0.out x8_2 p157 q157
              cases e157
              replace p157 := eq_true p157
              replace q157 := eq_true q157
              have p158 : 0 ≤ (x5_1 : Int) := odt
              have q158 : x5_1 < (l0.length : Int) := odt
              obtain ⟨ad158, e158, hx158_0, hx158_1, hx158_2⟩ := at_T28 HR0.out x5_1 p158 q158
              obtain rfl : ad157 = ad158 := (by injection e158)
              replace p158 := eq_true p158
              replace q158 := eq_true q158
              have p159 : 0 ≤ (x8_2 : Int) := odt
              have q159 : x8_2 < (l1.length : Int) := odt
              obtain ⟨ad159, e159, hx159_0, hx159_1, hx159_2⟩ := at_T28 HR1.out x8_2 p159 q159
              cases e159
              replace p159 := eq_true p159
              replace q159 := eq_true q159
              have p160 : 0 ≤ (x5_1 : Int) := odt
              have q160 : x5_1 < (l0.length : Int) := odt
              obtain ⟨ad160, e160, hx160_0, hx160_1, hx160_2⟩ := at_T28 HR0.out x5_1 p160 q160
              obtain rfl : ad157 = ad160 := (by injection e160)
              replace p160 := eq_true p160
              replace q160 := eq_true q160
              go_wp2
              repeat (go_quiet (fail); try go_wp2)
              go_roundg k2
              case measure => have := HK1.out; have := HK2.out; omega
              case rel => exact ⟨(wrap64 (x6_2 + 1)), (wrap64 (x7_2 + 1)), (wrap64 (x8_2 + 1)), orf, orf, orf, H', ⟨by have := HK1.out; have := HK2.out; omega⟩, by repeat (first | exact Drawn0.refl _ | apply Drawn0.step)⟩
             ·rw [if_neg c11] at H
              have c11b0 : ((((rd_T28 l1 x8_2).f0).toList) == (((rd_T28 l0 x5_1).f0).toList) && ((((rd_T28 l1 x8_2).f1).toList) == (((rd_T28 l0 x5_1).f1).toList) && ((((rd_T28 l1 x8_2).f2).toList) == (((rd_T28 l0 x5_1).f2).toList)))) = false := by simpa using c11
              (try (have c11b1 : decide ((((rd_T28 l1 x8_2).f0).toList) = (((rd_T28 l0 x5_1).f0).toList) && ((((rd_T28 l1 x8_2).f1).toList) == (((rd_T28 l0 x5_1).f1).toList) && ((((rd_T28 l1 x8_2).f2).toList) == (((rd_T28 l0 x5_1).f2).toList)))) = false := by simpa using c11))
              (try (have c11b2 : ((((rd_T28 l1 x8_2).f0).toList) == (((rd_T28 l0 x5_1).f0).toList) && ((((rd_T28 l1 x8_2).f1).toList) == (((rd_T28 l0 x5_1).f1).toList) && ((((rd_T28 l1 x8_2).f2).toList) == (((rd_T28 l0 x5_1).f2).toList)))) = false := by simpa using c11))
              (try (have c11b3 : ¬ ((((rd_T28 l1 x8_2).f0).toList) = (((rd_T28 l0 x5_1).f0).toList) && ((((rd_T28 l1 x8_2).f1).toList) == (((rd_T28 l0 x5_1).f1).toList) && ((((rd_T28 l1 x8_2).f2).toList) == (((rd_T28 l0 x5_1).f2).toList)))) := by simpa using c11))
              clear c11
              have H' := Aside0.mk H
              clear H
              have p157 : 0 ≤ (x8_2 : Int) := odt
              have q157 : x8_2 < (l0.length : Int) := odt
              obtain ⟨ad157, e157, hx157_0, hx157_1, hx157_2⟩ := at_T28 HR0.out x8_2 p157 q157
              cases e157
              replace p157 := eq_true p157
              replace q157 := eq_true q157
              have p158 : 0 ≤ (x5_1 : Int) := odt
              have q158 : x5_1 < (l0.length : Int) := odt
              obtain ⟨ad158, e158, hx158_0, hx158_1, hx158_2⟩ := at_T28 HR0.out x5_1 p158 q158
              obtain rfl : ad157 = ad158 := (by injection e158)
              replace p158 := eq_true p158
              replace q158 := eq_true q158
              have p159 : 0 ≤ (x8_2 : Int) := odt
              have q159 : x8_2 < (l1.length : Int) := odt
              obtain ⟨ad159, e159, hx159_0, hx159_1, hx159_2⟩ := at_T28 HR1.out x8_2 p159 q159
              cases e159
              replace p159 := eq_true p159
              replace q159 := eq_true q159
              have p160 : 0 ≤ (x5_1 : Int) := odt
              have q160 : x5_1 < (l0.length : Int) := odt
              obtain ⟨ad160, e160, hx160_0, hx160_1, hx160_2⟩ := at_T28 HR0.out x5_1 p160 q160
              obtain rfl : ad157 = ad160 := (by injection e160)
              replace p160 := eq_true p160
              replace q160 := eq_true q160
              go_wp2
              repeat (go_quiet (fail); try go_wp2)
              go_roundg k2
              case measure => have := HK1.out; have := HK2.out; omega
              case rel => exact ⟨(wrap64 (x6_2 + 1)), (x7_2), (wrap64 (x8_2 + 1)), orf, orf, orf, H', ⟨by have := HK1.out; have := HK2.out; omega⟩, by repeat (first | exact Drawn0.refl _ | apply Drawn0.step)⟩
            ·rw [if_neg c10] at H
             exact absurd H (by simp)
           ·rw [if_neg c9] at H
            have c9b0 : ((((rd_T28 l0 x8_2).f0).toList) == (((rd_T28 l0 x5_1).f0).toList) && ((((rd_T28 l0 x8_2).f1).toList) == (((rd_T28 l0 x5_1).f1).toList) && ((((rd_T28 l0 x8_2).f2).toList) == (((rd_T28 l0 x5_1).f2).toList)))) = false := by simpa using c9
            (try (have c9b1 : decide ((((rd_T28 l0 x8_2).f0).toList) = (((rd_T28 l0 x5_1).f0).toList) && ((((rd_T28 l0 x8_2).f1).toList) == (((rd_T28 l0 x5_1).f1).toList) && ((((rd_T28 l0 x8_2).f2).toList) == (((rd_T28 l0 x5_1).f2).toList)))) = false := by simpa using c9))
            (try (have c9b2 : ((((rd_T28 l0 x8_2).f0).toList) == (((rd_T28 l0 x5_1).f0).toList) && ((((rd_T28 l0 x8_2).f1).toList) == (((rd_T28 l0 x5_1).f1).toList) && ((((rd_T28 l0 x8_2).f2).toList) == (((rd_T28 l0 x5_1).f2).toList)))) = false := by simpa using c9))
            (try (have c9b3 : ¬ ((((rd_T28 l0 x8_2).f0).toList) = (((rd_T28 l0 x5_1).f0).toList) && ((((rd_T28 l0 x8_2).f1).toList) == (((rd_T28 l0 x5_1).f1).toList) && ((((rd_T28 l0 x8_2).f2).toList) == (((rd_T28 l0 x5_1).f2).toList)))) := by simpa using c9))
            clear c9
            by_cases c12 : x8_2 < (l1.length : Int)
            ·rw [if_pos c12] at H
             have c12b0 : decide (x8_2 < (l1.length : Int)) = true := decide_eq_true c12
             clear c12
             by_cases c13 : ((((rd_T28 l1 x8_2).f0).toList) == (((rd_T28 l0 x5_1).f0).toList) && ((((rd_T28 l1 x8_2).f1).toList) == (((rd_T28 l0 x5_1).f1).toList) && ((((rd_T28 l1 x8_2).f2).toList) == (((rd_T28 l0 x5_1).f2).toList)))) = true
             ·rw [if_pos c13] at H
              have c13b0 : ((((rd_T28 l1 x8_2).f0).toList) == (((rd_T28 l0 x5_1).f0).toList) && ((((rd_T28 l1 x8_2).f1).toList) == (((rd_T28 l0 x5_1).f1).toList) && ((((rd_T28 l1 x8_2).f2).toList) == (((rd_T28 l0 x5_1).f2).toList)))) = true := c13
              (try (have c13b1 : decide ((((rd_T28 l1 x8_2).f0).toList) = (((rd_T28 l0 x5_1).f0).toList) && ((((rd_T28 l1 x8_2).f1).toList) == (((rd_T28 l0 x5_1).f1).toList) && ((((rd_T28 l1 x8_2).f2).toList) == (((rd_T28 l0 x5_1).f2).toList)))) = true := by simpa using c13))
              (try (have c13b2 : ((((rd_T28 l1 x8_2).f0).toList) == (((rd_T28 l0 x5_1).f0).toList) && ((((rd_T28 l1 x8_2).f1).toList) == (((rd_T28 l0 x5_1).f1).toList) && ((((rd_T28 l1 x8_2).f2).toList) == (((rd_T28 l0 x5_1).f2).toList)))) = true := by simpa using c13))
              clear c13
              have H' := Aside0.mk H
              clear H
              have p157 : 0 ≤ (x8_2 : Int) := odt
              have q157 : x8_2 < (l0.length : Int) := odt
              obtain ⟨ad157, e157, hx157_0, hx157_1, hx157_2⟩ := at_T28 HR0.out x8_2 p157 q157
              cases e157
              replace p157 := eq_true p157
              replace q157 := eq_true q157
              have p158 : 0 ≤ (x5_1 : Int) := odt
              have q158 : x5_1 < (l0.length : Int) := odt
              obtain ⟨ad158, e158, hx158_0, hx158_1, hx158_2⟩ := at_T28 HR0.out x5_1 p158 q158
              obtain rfl : ad157 = ad158 := (by injection e158)
              replace p158 := eq_true p158
              replace q158 := eq_true q158
              have p161 : 0 ≤ (x8_2 : Int) := odt
              have q161 : x8_2 < (l1.length : Int) := odt
              obtain ⟨ad161, e161, hx161_0, hx161_1, hx161_2⟩ := at_T28 HR1.out x8_2 p161 q161
              cases e161
              replace p161 := eq_true p161
              replace q161 := eq_true q161
              have p162 : 0 ≤ (x5_1 : Int) := odt
              have q162 : x5_1 < (l0.length : Int) := odt
              obtain ⟨ad162, e162, hx162_0, hx162_1, hx162_2⟩ := at_T28 HR0.out x5_1 p162 q162
              obtain rfl : ad157 = ad162 := (by injection e162)
              replace p162 := eq_true p162
              replace q162 := eq_true q162
              go_wp2
              repeat (go_quiet (fail); try go_wp2)
              go_roundg k2
              case measure => have := HK1.out; have := HK2.out; omega
              case rel => exact ⟨(x6_2), (wrap64 (x7_2 + 1)), (wrap64 (x8_2 + 1)), orf, orf, orf, H', ⟨by have := HK1.out; have := HK2.out; omega⟩, by repeat (first | exact Drawn0.refl _ | apply Drawn0.step)⟩
             ·rw [if_neg c13] at H
              have c13b0 : ((((rd_T28 l1 x8_2).f0).toList) == (((rd_T28 l0 x5_1).f0).toList) && ((((rd_T28 l1 x8_2).f1).toList) == (((rd_T28 l0 x5_1).f1).toList) && ((((rd_T28 l1 x8_2).f2).toList) == (((rd_T28 l0 x5_1).f2).toList)))) = false := by simpa using c13
              (try (have c13b1 : decide ((((rd_T28 l1 x8_2).f0).toList) = (((rd_T28 l0 x5_1).f0).toList) && ((((rd_T28 l1 x8_2).f1).toList) == (((rd_T28 l0 x5_1).f1).toList) && ((((rd_T28 l1 x8_2).f2).toList) == (((rd_T28 l0 x5_1).f2).toList)))) = false := by simpa using c13))
              (try (have c13b2 : ((((rd_T28 l1 x8_2).f0).toList) == (((rd_T28 l0 x5_1).f0).toList) && ((((rd_T28 l1 x8_2).f1).toList) == (((rd_T28 l0 x5_1).f1).toList) && ((((rd_T28 l1 x8_2).f2).toList) == (((rd_T28 l0 x5_1).f2).toList)))) = false := by simpa using c13))
              (try (have c13b3 : ¬ ((((rd_T28 l1 x8_2).f0).toList) = (((rd_T28 l0 x5_1).f0).toList) && ((((rd_T28 l1 x8_2).f1).toList) == (((rd_T28 l0 x5_1).f1).toList) && ((((rd_T28 l1 x8_2).f2).toList) == (((rd_T28 l0 x5_1).f2).toList)))) := by simpa using c13))
              clear c13
              have H' := Aside0.mk H
              clear H
              have p157 : 0 ≤ (x8_2 : Int) := odt
              have q157 : x8_2 < (l0.length : Int) := odt
              obtain ⟨ad157, e157, hx157_0, hx157_1, hx157_2⟩ := at_T28 HR0.out x8_2 p157 q157
              cases e157
              replace p157 := eq_true p157
              replace q157 := eq_true q157
              have p158 : 0 ≤ (x5_1 : Int) := odt
              have q158 : x5_1 < (l0.length : Int) := odt
              obtain ⟨ad158, e158, hx158_0, hx158_1, hx158_2⟩ := at_T28 HR0.out x5_1 p158 q158
              obtain rfl : ad157 = ad158 := (by injection e158)
              replace p158 := eq_true p158
              replace q158 := eq_true q158
              have p161 : 0 ≤ (x8_2 : Int) := odt
              have q161 : x8_2 < (l1.length : Int) := odt
              obtain ⟨ad161, e161, hx161_0, hx161_1, hx161_2⟩ := at_T28 HR1.out x8_2 p161 q161
              cases e161
              replace p161 := eq_true p161
              replace q161 := eq_true q161
              have p162 : 0 ≤ (x5_1 : Int) := odt
              have q162 : x5_1 < (l0.length : Int) := odt
              obtain ⟨ad162, e162, hx162_0, hx162_1, hx162_2⟩ := at_T28 HR0.out x5_1 p162 q162
              obtain rfl : ad157 = ad162 := (by injection e162)
              replace p162 := eq_true p162
              replace q162 := eq_true q162
              go_wp2
              repeat (go_quiet (fail); try go_wp2)
              go_roundg k2
              case measure => have := HK1.out; have := HK2.out; omega
              case rel => exact ⟨(x6_2), (x7_2), (wrap64 (x8_2 + 1)), orf, orf, orf, H', ⟨by have := HK1.out; have := HK2.out; omega⟩, by repeat (first | exact Drawn0.refl _ | apply Drawn0.step)⟩
            ·rw [if_neg c12] at H
             exact absurd H (by simp)
          ·rw [if_neg c8] at H
           exact absurd H (by simp)
         ·rw [if_neg c7] at H
          exact absurd H (by simp)
        ·rw [if_neg c6] at H
         exact absurd H (by simp)
       ·rw [if_neg c5] at H
        have c5b0 : decide (x8_2 < (l0.length : Int)) = false := decide_eq_false c5
        clear c5
        by_cases c14 : x6_2 = x7_2
        ·rw [if_pos c14] at H
         have c14b0 : (x6_2 == x7_2) = true := beq_iff_eq.mpr c14
         have c14b1 : (x6_2 != x7_2) = false := bne_eq_false_iff_eq.mpr c14
         clear c14
         have H' := Aside0.mk H
         clear H
         go_wp2
         repeat (go_quiet (fail); try go_wp2)
         go_roundg k2
         case measure => have := HK1.out; have := HK2.out; omega
         case rel => exact ⟨(wrap64 (x5_1 + 1)), orf, H', ⟨by have := HK1.out; have := HK2.out; omega⟩, by repeat (first | exact Drawn0.refl _ | apply Drawn0.step)⟩
        ·rw [if_neg c14] at H
         have c14b0 : (x6_2 == x7_2) = false := beq_eq_false_iff_ne.mpr c14
         have c14b1 : (x6_2 != x7_2) = true := bne_iff_ne.mpr c14
         obtain rfl := Option.some.inj H
         go_wp2
         repeat (go_quiet (fail); try go_wp2)
         go_ret
         exact ⟨by first | rfl | (rw [← HPERM.out.length_eq]; rfl) | (simp [← HPERM.out.length_eq]; done) | (simp; done) | (simp [*]; done), by repeat (first | exact Drawn0.refl _ | apply Drawn0.step)⟩
    ·rw [if_neg c4] at H
     have c4b0 : decide (x5_1 < (l0.length : Int)) = false := decide_eq_false c4
     clear c4
     obtain rfl := Option.some.inj H
     go_wp2
     repeat (go_quiet (fail); try go_wp2)
     go_ret
     exact ⟨by first | rfl | (rw [← HPERM.out.length_eq]; rfl) | (simp [← HPERM.out.length_eq]; done) | (simp; done) | (simp [*]; done), by repeat (first | exact Drawn0.refl _ | apply Drawn0.step)⟩
 ·rw [if_neg c3] at H
  have c3b0 : ((l0.length : Int) == (l1.length : Int)) = false := beq_eq_false_iff_ne.mpr c3
  have c3b1 : ((l0.length : Int) != (l1.length : Int)) = true := bne_iff_ne.mpr c3
  have c3b2 : (l0.length == l1.length) = false := by first | simpa using c3 | (simp at c3 ⊢; omega)
  obtain rfl := Option.some.inj H
  go_enter Tryz.func14, Tryz.ntmps14
  go_wp2
  repeat (go_quiet (fail); try go_wp2)
  go_ret
  exact ⟨by first | rfl | (rw [← HPERM.out.length_eq]; rfl) | (simp [← HPERM.out.length_eq]; done) | (simp; done) | (simp [*]; done), by repeat (first | exact Drawn0.refl _ | apply Drawn0.step)⟩

/-! ### spec_Escaped: function 30 -/
def spec_Escaped.l0 : Nat → ByteArray → ByteArray → ByteArray → Bool → Int → Option (ByteArray)
 | 0, _, _, _, _, _ => none
 | k + 1, x0, x3, x4, x5, x6 => if x6 < (x0.size : Int) then (if 0 ≤ x6 then ((spec_WordByte.f (bt x0 x6)).bind fun t163 => (if t163 = true then (if x6 ≤ (wrap64 (x6 + 1)) then (if (wrap64 (x6 + 1)) ≤ (x0.size : Int) then (if x4.size + (x0.extract (x6 : Int).toNat ((wrap64 (x6 + 1)) : Int).toNat).size ≤ 9223372036854775807 then (spec_Escaped.l0 k x0 x3 (x4 ++ (x0.extract (x6 : Int).toNat ((wrap64 (x6 + 1)) : Int).toNat)) x5 (wrap64 (x6 + 1))) else (none)) else (none)) else (none)) else (if (bt x0 x6) = 46 then (if x5 = true then ((spec_Definition.f k x4).bind fun t164 => (if t164 = true then (if x4.size + 1 ≤ 9223372036854775807 then (if x3.size + (x4 ++ (⟨#[95]⟩ : ByteArray)).size ≤ 9223372036854775807 then (spec_Escaped.l0 k x0 (x3 ++ (x4 ++ (⟨#[95]⟩ : ByteArray))) (⟨#[]⟩ : ByteArray) false (wrap64 (x6 + 1))) else (none)) else (none)) else (if x4.size + 1 ≤ 9223372036854775807 then (if x3.size + (x4 ++ (⟨#[46]⟩ : ByteArray)).size ≤ 9223372036854775807 then (spec_Escaped.l0 k x0 (x3 ++ (x4 ++ (⟨#[46]⟩ : ByteArray))) (⟨#[]⟩ : ByteArray) false (wrap64 (x6 + 1))) else (none)) else (none)))) else (if x4.size + 1 ≤ 9223372036854775807 then (if x3.size + (x4 ++ (⟨#[46]⟩ : ByteArray)).size ≤ 9223372036854775807 then (spec_Escaped.l0 k x0 (x3 ++ (x4 ++ (⟨#[46]⟩ : ByteArray))) (⟨#[]⟩ : ByteArray) false (wrap64 (x6 + 1))) else (none)) else (none))) else (if x6 ≤ (wrap64 (x6 + 1)) then (if (wrap64 (x6 + 1)) ≤ (x0.size : Int) then (if x4.size + (x0.extract (x6 : Int).toNat ((wrap64 (x6 + 1)) : Int).toNat).size ≤ 9223372036854775807 then (if x3.size + (x4 ++ (x0.extract (x6 : Int).toNat ((wrap64 (x6 + 1)) : Int).toNat)).size ≤ 9223372036854775807 then (spec_Escaped.l0 k x0 (x3 ++ (x4 ++ (x0.extract (x6 : Int).toNat ((wrap64 (x6 + 1)) : Int).toNat))) (⟨#[]⟩ : ByteArray) true (wrap64 (x6 + 1))) else (none)) else (none)) else (none)) else (none))))) else (none)) else (if x3.size + x4.size ≤ 9223372036854775807 then (some (x3 ++ x4)) else (none))
def spec_Escaped.f (k : Nat) (a0 : ByteArray) : Option (ByteArray) := spec_Escaped.l0 k a0 (⟨#[]⟩ : ByteArray) (⟨#[]⟩ : ByteArray) true 0
theorem spec_Escaped.mono_l : ∀ k, (∀ y0 y1 y2 y3 y4, LeO (spec_Escaped.l0 k y0 y1 y2 y3 y4) (spec_Escaped.l0 (k + 1) y0 y1 y2 y3 y4))
 | 0 => fun _ _ _ _ _ r h => by simp [spec_Escaped.l0] at h
 | k + 1 => by
  have ih0 := spec_Escaped.mono_l k
  ·intro y0 y1 y2 y3 y4
   unfold spec_Escaped.l0
   repeat' first
   | (with_reducible exact ih0 _ _ _ _ _)
   | (with_reducible exact spec_Definition.mono _ _)
   | (with_reducible exact LeO.refl _)
   | (with_reducible exact LeO.none _)
   | (with_reducible refine LeO.ite ?_ ?_)
   | (with_reducible refine LeO.bind ?_ (fun _ => ?_))
   | exact ih0 _ _ _ _ _
   | exact spec_Definition.mono _ _
   | exact LeO.none _
   | refine LeO.ite ?_ ?_
   | refine LeO.bind ?_ (fun _ => ?_)
theorem spec_Escaped.mono : ∀ a0 k, LeO (spec_Escaped.f k a0) (spec_Escaped.f (k + 1) a0) := by
 intro a0 k
 have ih0 := spec_Escaped.mono_l k
 unfold spec_Escaped.f
 repeat' first
   | (with_reducible exact ih0 _ _ _ _ _)
   | (with_reducible exact spec_Definition.mono _ _)
   | (with_reducible exact LeO.refl _)
   | (with_reducible exact LeO.none _)
   | (with_reducible refine LeO.ite ?_ ?_)
   | (with_reducible refine LeO.bind ?_ (fun _ => ?_))
   | exact ih0 _ _ _ _ _
   | exact spec_Definition.mono _ _
   | exact LeO.none _
   | refine LeO.ite ?_ ?_
   | refine LeO.bind ?_ (fun _ => ?_)
set_option maxHeartbeats 8000000 in
set_option maxRecDepth 100000 in
theorem spec_Escaped.calls (k : Nat) (a0 : ByteArray) (r : ByteArray) (w : World) (h : spec_Escaped.f k a0 = some r) :
  Calls Tryz.prog 30 #[.string a0] w fun e w' => e = .returned (.string r) ∧ Drawn0 w w' := by
 have H : (spec_Escaped.l0 k a0 (⟨#[]⟩ : ByteArray) (⟨#[]⟩ : ByteArray) true 0) = some r := h
 clear h
 have H' := Aside0.mk H
 clear H
 go_enter Tryz.func30, Tryz.ntmps30
 go_wp2
 go_loopg [3, 4, 5, 6] k (fun kq v3 v4 v5 v6 w' => ∃ (x3_1 : ByteArray) (x4_1 : ByteArray) (x5_1 : Bool) (x6_1 : Int), v3 = .string x3_1 ∧ v4 = .string x4_1 ∧ v5 = .bool x5_1 ∧ v6 = .int .i64 x6_1 ∧ Aside0 (spec_Escaped.l0 kq a0 x3_1 x4_1 x5_1 x6_1 = some r) ∧ Aside0 (kq ≤ k) ∧ Drawn0 w w')
 case atStart => exact ⟨((⟨#[]⟩ : ByteArray)), ((⟨#[]⟩ : ByteArray)), (true), (0), orf, orf, orf, orf, H', ⟨Nat.le_refl _⟩, by repeat (first | exact Drawn0.refl _ | apply Drawn0.step)⟩
 case round =>
  clear H'
  obtain ⟨x3_1, x4_1, x5_1, x6_1, rfl, rfl, rfl, rfl, HA, HK1, ⟨m1, rfl⟩⟩ := hrel
  cases gk with
  | zero => exact absurd HA.out (by simp [spec_Escaped.l0])
  | succ k1 =>
   have H := HA.out
   clear HA
   simp only [spec_Escaped.l0] at H
   by_cases c2 : x6_1 < (a0.size : Int)
   ·rw [if_pos c2] at H
    have c2b0 : decide (x6_1 < (a0.size : Int)) = true := decide_eq_true c2
    clear c2
    by_cases c3 : 0 ≤ x6_1
    ·rw [if_pos c3] at H
     have c3b0 : decide (0 ≤ x6_1) = true := decide_eq_true c3
     clear c3
     replace H := Option.bind_eq_some_iff.mp H
     obtain ⟨t163, A50, H⟩ := H
     replace H : (if t163 = true then (if x6_1 ≤ (wrap64 (x6_1 + 1)) then (if (wrap64 (x6_1 + 1)) ≤ (a0.size : Int) then (if x4_1.size + (a0.extract (x6_1 : Int).toNat ((wrap64 (x6_1 + 1)) : Int).toNat).size ≤ 9223372036854775807 then (spec_Escaped.l0 k1 a0 x3_1 (x4_1 ++ (a0.extract (x6_1 : Int).toNat ((wrap64 (x6_1 + 1)) : Int).toNat)) x5_1 (wrap64 (x6_1 + 1))) else (none)) else (none)) else (none)) else (if (bt a0 x6_1) = 46 then (if x5_1 = true then ((spec_Definition.f k1 x4_1).bind fun t164 => (if t164 = true then (if x4_1.size + 1 ≤ 9223372036854775807 then (if x3_1.size + (x4_1 ++ (⟨#[95]⟩ : ByteArray)).size ≤ 9223372036854775807 then (spec_Escaped.l0 k1 a0 (x3_1 ++ (x4_1 ++ (⟨#[95]⟩ : ByteArray))) (⟨#[]⟩ : ByteArray) false (wrap64 (x6_1 + 1))) else (none)) else (none)) else (if x4_1.size + 1 ≤ 9223372036854775807 then (if x3_1.size + (x4_1 ++ (⟨#[46]⟩ : ByteArray)).size ≤ 9223372036854775807 then (spec_Escaped.l0 k1 a0 (x3_1 ++ (x4_1 ++ (⟨#[46]⟩ : ByteArray))) (⟨#[]⟩ : ByteArray) false (wrap64 (x6_1 + 1))) else (none)) else (none)))) else (if x4_1.size + 1 ≤ 9223372036854775807 then (if x3_1.size + (x4_1 ++ (⟨#[46]⟩ : ByteArray)).size ≤ 9223372036854775807 then (spec_Escaped.l0 k1 a0 (x3_1 ++ (x4_1 ++ (⟨#[46]⟩ : ByteArray))) (⟨#[]⟩ : ByteArray) false (wrap64 (x6_1 + 1))) else (none)) else (none))) else (if x6_1 ≤ (wrap64 (x6_1 + 1)) then (if (wrap64 (x6_1 + 1)) ≤ (a0.size : Int) then (if x4_1.size + (a0.extract (x6_1 : Int).toNat ((wrap64 (x6_1 + 1)) : Int).toNat).size ≤ 9223372036854775807 then (if x3_1.size + (x4_1 ++ (a0.extract (x6_1 : Int).toNat ((wrap64 (x6_1 + 1)) : Int).toNat)).size ≤ 9223372036854775807 then (spec_Escaped.l0 k1 a0 (x3_1 ++ (x4_1 ++ (a0.extract (x6_1 : Int).toNat ((wrap64 (x6_1 + 1)) : Int).toNat))) (⟨#[]⟩ : ByteArray) true (wrap64 (x6_1 + 1))) else (none)) else (none)) else (none)) else (none)))) = some r := H
     have A5 := Aside0.mk A50
     clear A50
     by_cases c6 : t163 = true
     ·subst c6
      have H1 : (if x6_1 ≤ (wrap64 (x6_1 + 1)) then (if (wrap64 (x6_1 + 1)) ≤ (a0.size : Int) then (if x4_1.size + (a0.extract (x6_1 : Int).toNat ((wrap64 (x6_1 + 1)) : Int).toNat).size ≤ 9223372036854775807 then (spec_Escaped.l0 k1 a0 x3_1 (x4_1 ++ (a0.extract (x6_1 : Int).toNat ((wrap64 (x6_1 + 1)) : Int).toNat)) x5_1 (wrap64 (x6_1 + 1))) else (none)) else (none)) else (none)) = some r := by rw [if_pos rfl] at H; exact H
      clear H
      have H := H1
      clear H1
      have c7b0 := eq_true (odt : 0 ≤ x6_1)
      by_cases c8 : x6_1 ≤ (wrap64 (x6_1 + 1))
      ·rw [if_pos c8] at H
       have c8b0 := eq_true c8
       have c8b1 : decide (x6_1 ≤ (wrap64 (x6_1 + 1))) = true := decide_eq_true c8
       by_cases c9 : (wrap64 (x6_1 + 1)) ≤ (a0.size : Int)
       ·rw [if_pos c9] at H
        have c9b0 := eq_true c9
        have c9b1 : decide ((wrap64 (x6_1 + 1)) ≤ (a0.size : Int)) = true := decide_eq_true c9
        by_cases c10 : x4_1.size + (a0.extract (x6_1 : Int).toNat ((wrap64 (x6_1 + 1)) : Int).toNat).size ≤ 9223372036854775807
        ·rw [if_pos c10] at H
         have c10b0 := eq_true c10
         have c10b1 : decide (x4_1.size + (a0.extract (x6_1 : Int).toNat ((wrap64 (x6_1 + 1)) : Int).toNat).size ≤ 9223372036854775807) = true := decide_eq_true c10
         try have c10b2 : (9223372036854775807 < x4_1.size + (a0.extract (x6_1 : Int).toNat ((wrap64 (x6_1 + 1)) : Int).toNat).size) = False := eq_false (Nat.not_lt.2 c10)
         have H' := Aside0.mk H
         clear H
         have p4 : 0 ≤ (x6_1 : Int) := odt
         have q4 : x6_1 < (a0.size : Int) := odt
         have hx4 := bt_at a0 x6_1
         replace p4 := eq_true p4
         replace q4 := eq_true q4
         go_wp2_with (first | ((with_reducible refine gate_callee (f := 45) rfl ?_); refine goesL_ (some 28) rfl rfl Tryz.func45 (by kernel_rfl) rfl #[.int .u8 (bt a0 x6_1)] rfl (by (try simp only [List.map_toArray, List.map_cons, List.map_nil]); first | done | rfl | (simp only [List.length_drop, List.length_take]; rfl)) ?_; (with_reducible refine (spec_WordByte.calls (bt a0 x6_1) true _ A5.out).mono ?_); rintro e w' ⟨rfl, ⟨nd, rfl⟩⟩; refine ⟨_, rfl, ?_⟩))
         go_roundg k1
         case measure => have := HK1.out; omega
         case rel => exact ⟨(x3_1), (x4_1 ++ (a0.extract (x6_1 : Int).toNat ((wrap64 (x6_1 + 1)) : Int).toNat)), (x5_1), (wrap64 (x6_1 + 1)), orf, orf, orf, orf, H', ⟨by have := HK1.out; omega⟩, by repeat (first | exact Drawn0.refl _ | apply Drawn0.step)⟩
        ·rw [if_neg c10] at H
         exact absurd H (by simp)
       ·rw [if_neg c9] at H
        exact absurd H (by simp)
      ·rw [if_neg c8] at H
       exact absurd H (by simp)
     ·replace c6 := Bool.eq_false_iff.mpr c6
      subst c6
      have H1 : (if (bt a0 x6_1) = 46 then (if x5_1 = true then ((spec_Definition.f k1 x4_1).bind fun t164 => (if t164 = true then (if x4_1.size + 1 ≤ 9223372036854775807 then (if x3_1.size + (x4_1 ++ (⟨#[95]⟩ : ByteArray)).size ≤ 9223372036854775807 then (spec_Escaped.l0 k1 a0 (x3_1 ++ (x4_1 ++ (⟨#[95]⟩ : ByteArray))) (⟨#[]⟩ : ByteArray) false (wrap64 (x6_1 + 1))) else (none)) else (none)) else (if x4_1.size + 1 ≤ 9223372036854775807 then (if x3_1.size + (x4_1 ++ (⟨#[46]⟩ : ByteArray)).size ≤ 9223372036854775807 then (spec_Escaped.l0 k1 a0 (x3_1 ++ (x4_1 ++ (⟨#[46]⟩ : ByteArray))) (⟨#[]⟩ : ByteArray) false (wrap64 (x6_1 + 1))) else (none)) else (none)))) else (if x4_1.size + 1 ≤ 9223372036854775807 then (if x3_1.size + (x4_1 ++ (⟨#[46]⟩ : ByteArray)).size ≤ 9223372036854775807 then (spec_Escaped.l0 k1 a0 (x3_1 ++ (x4_1 ++ (⟨#[46]⟩ : ByteArray))) (⟨#[]⟩ : ByteArray) false (wrap64 (x6_1 + 1))) else (none)) else (none))) else (if x6_1 ≤ (wrap64 (x6_1 + 1)) then (if (wrap64 (x6_1 + 1)) ≤ (a0.size : Int) then (if x4_1.size + (a0.extract (x6_1 : Int).toNat ((wrap64 (x6_1 + 1)) : Int).toNat).size ≤ 9223372036854775807 then (if x3_1.size + (x4_1 ++ (a0.extract (x6_1 : Int).toNat ((wrap64 (x6_1 + 1)) : Int).toNat)).size ≤ 9223372036854775807 then (spec_Escaped.l0 k1 a0 (x3_1 ++ (x4_1 ++ (a0.extract (x6_1 : Int).toNat ((wrap64 (x6_1 + 1)) : Int).toNat))) (⟨#[]⟩ : ByteArray) true (wrap64 (x6_1 + 1))) else (none)) else (none)) else (none)) else (none))) = some r := by rw [if_neg (show ¬ (false = true) by decide)] at H; exact H
      clear H
      have H := H1
      clear H1
      by_cases c11 : (bt a0 x6_1) = 46
      ·rw [if_pos c11] at H
       have c11b0 : ((bt a0 x6_1) == 46) = true := beq_iff_eq.mpr c11
       have c11b1 : ((bt a0 x6_1) != 46) = false := bne_eq_false_iff_eq.mpr c11
       clear c11
       by_cases c12 : x5_1 = true
       ·subst c12
        have H1 : ((spec_Definition.f k1 x4_1).bind fun t164 => (if t164 = true then (if x4_1.size + 1 ≤ 9223372036854775807 then (if x3_1.size + (x4_1 ++ (⟨#[95]⟩ : ByteArray)).size ≤ 9223372036854775807 then (spec_Escaped.l0 k1 a0 (x3_1 ++ (x4_1 ++ (⟨#[95]⟩ : ByteArray))) (⟨#[]⟩ : ByteArray) false (wrap64 (x6_1 + 1))) else (none)) else (none)) else (if x4_1.size + 1 ≤ 9223372036854775807 then (if x3_1.size + (x4_1 ++ (⟨#[46]⟩ : ByteArray)).size ≤ 9223372036854775807 then (spec_Escaped.l0 k1 a0 (x3_1 ++ (x4_1 ++ (⟨#[46]⟩ : ByteArray))) (⟨#[]⟩ : ByteArray) false (wrap64 (x6_1 + 1))) else (none)) else (none)))) = some r := by rw [if_pos rfl] at H; exact H
        clear H
        have H := H1
        clear H1
        replace H := Option.bind_eq_some_iff.mp H
        obtain ⟨t164, A130, H⟩ := H
        replace H : (if t164 = true then (if x4_1.size + 1 ≤ 9223372036854775807 then (if x3_1.size + (x4_1 ++ (⟨#[95]⟩ : ByteArray)).size ≤ 9223372036854775807 then (spec_Escaped.l0 k1 a0 (x3_1 ++ (x4_1 ++ (⟨#[95]⟩ : ByteArray))) (⟨#[]⟩ : ByteArray) false (wrap64 (x6_1 + 1))) else (none)) else (none)) else (if x4_1.size + 1 ≤ 9223372036854775807 then (if x3_1.size + (x4_1 ++ (⟨#[46]⟩ : ByteArray)).size ≤ 9223372036854775807 then (spec_Escaped.l0 k1 a0 (x3_1 ++ (x4_1 ++ (⟨#[46]⟩ : ByteArray))) (⟨#[]⟩ : ByteArray) false (wrap64 (x6_1 + 1))) else (none)) else (none))) = some r := H
        have A13 := Aside0.mk A130
        clear A130
        by_cases c14 : t164 = true
        ·subst c14
         have H1 : (if x4_1.size + 1 ≤ 9223372036854775807 then (if x3_1.size + (x4_1 ++ (⟨#[95]⟩ : ByteArray)).size ≤ 9223372036854775807 then (spec_Escaped.l0 k1 a0 (x3_1 ++ (x4_1 ++ (⟨#[95]⟩ : ByteArray))) (⟨#[]⟩ : ByteArray) false (wrap64 (x6_1 + 1))) else (none)) else (none)) = some r := by rw [if_pos rfl] at H; exact H
         clear H
         have H := H1
         clear H1
         by_cases c15 : x4_1.size + 1 ≤ 9223372036854775807
         ·rw [if_pos c15] at H
          have c15b0 := eq_true c15
          have c15b1 : decide (x4_1.size + 1 ≤ 9223372036854775807) = true := decide_eq_true c15
          try have c15b2 : (9223372036854775807 < x4_1.size + 1) = False := eq_false (Nat.not_lt.2 c15)
          by_cases c16 : x3_1.size + (x4_1 ++ (⟨#[95]⟩ : ByteArray)).size ≤ 9223372036854775807
          ·rw [if_pos c16] at H
           have c16b0 := eq_true c16
           have c16b1 : decide (x3_1.size + (x4_1 ++ (⟨#[95]⟩ : ByteArray)).size ≤ 9223372036854775807) = true := decide_eq_true c16
           try have c16b2 : (9223372036854775807 < x3_1.size + (x4_1 ++ (⟨#[95]⟩ : ByteArray)).size) = False := eq_false (Nat.not_lt.2 c16)
           have H' := Aside0.mk H
           clear H
           have p4 : 0 ≤ (x6_1 : Int) := odt
           have q4 : x6_1 < (a0.size : Int) := odt
           have hx4 := bt_at a0 x6_1
           replace p4 := eq_true p4
           replace q4 := eq_true q4
           go_wp2_with (first | ((with_reducible refine gate_callee (f := 45) rfl ?_); refine goesL_ (some 28) rfl rfl Tryz.func45 (by kernel_rfl) rfl #[.int .u8 (bt a0 x6_1)] rfl (by (try simp only [List.map_toArray, List.map_cons, List.map_nil]); first | done | rfl | (simp only [List.length_drop, List.length_take]; rfl)) ?_; (with_reducible refine (spec_WordByte.calls (bt a0 x6_1) false _ A5.out).mono ?_); rintro e w' ⟨rfl, ⟨nd, rfl⟩⟩; refine ⟨_, rfl, ?_⟩) | (go_at_call 46; (with_reducible refine (spec_Definition.calls k1 x4_1 true _ A13.out).mono ?_); rintro e w' ⟨rfl, ⟨nd, rfl⟩⟩))
           go_roundg k1
           case measure => have := HK1.out; omega
           case rel => exact ⟨(x3_1 ++ (x4_1 ++ (⟨#[95]⟩ : ByteArray))), ((⟨#[]⟩ : ByteArray)), (false), (wrap64 (x6_1 + 1)), orf, orf, orf, orf, H', ⟨by have := HK1.out; omega⟩, by repeat (first | exact Drawn0.refl _ | apply Drawn0.step)⟩
          ·rw [if_neg c16] at H
           exact absurd H (by simp)
         ·rw [if_neg c15] at H
          exact absurd H (by simp)
        ·replace c14 := Bool.eq_false_iff.mpr c14
         subst c14
         have H1 : (if x4_1.size + 1 ≤ 9223372036854775807 then (if x3_1.size + (x4_1 ++ (⟨#[46]⟩ : ByteArray)).size ≤ 9223372036854775807 then (spec_Escaped.l0 k1 a0 (x3_1 ++ (x4_1 ++ (⟨#[46]⟩ : ByteArray))) (⟨#[]⟩ : ByteArray) false (wrap64 (x6_1 + 1))) else (none)) else (none)) = some r := by rw [if_neg (show ¬ (false = true) by decide)] at H; exact H
         clear H
         have H := H1
         clear H1
         by_cases c17 : x4_1.size + 1 ≤ 9223372036854775807
         ·rw [if_pos c17] at H
          have c17b0 := eq_true c17
          have c17b1 : decide (x4_1.size + 1 ≤ 9223372036854775807) = true := decide_eq_true c17
          try have c17b2 : (9223372036854775807 < x4_1.size + 1) = False := eq_false (Nat.not_lt.2 c17)
          by_cases c18 : x3_1.size + (x4_1 ++ (⟨#[46]⟩ : ByteArray)).size ≤ 9223372036854775807
          ·rw [if_pos c18] at H
           have c18b0 := eq_true c18
           have c18b1 : decide (x3_1.size + (x4_1 ++ (⟨#[46]⟩ : ByteArray)).size ≤ 9223372036854775807) = true := decide_eq_true c18
           try have c18b2 : (9223372036854775807 < x3_1.size + (x4_1 ++ (⟨#[46]⟩ : ByteArray)).size) = False := eq_false (Nat.not_lt.2 c18)
           have H' := Aside0.mk H
           clear H
           have p4 : 0 ≤ (x6_1 : Int) := odt
           have q4 : x6_1 < (a0.size : Int) := odt
           have hx4 := bt_at a0 x6_1
           replace p4 := eq_true p4
           replace q4 := eq_true q4
           go_wp2_with (first | ((with_reducible refine gate_callee (f := 45) rfl ?_); refine goesL_ (some 28) rfl rfl Tryz.func45 (by kernel_rfl) rfl #[.int .u8 (bt a0 x6_1)] rfl (by (try simp only [List.map_toArray, List.map_cons, List.map_nil]); first | done | rfl | (simp only [List.length_drop, List.length_take]; rfl)) ?_; (with_reducible refine (spec_WordByte.calls (bt a0 x6_1) false _ A5.out).mono ?_); rintro e w' ⟨rfl, ⟨nd, rfl⟩⟩; refine ⟨_, rfl, ?_⟩) | (go_at_call 46; (with_reducible refine (spec_Definition.calls k1 x4_1 false _ A13.out).mono ?_); rintro e w' ⟨rfl, ⟨nd, rfl⟩⟩))
           go_roundg k1
           case measure => have := HK1.out; omega
           case rel => exact ⟨(x3_1 ++ (x4_1 ++ (⟨#[46]⟩ : ByteArray))), ((⟨#[]⟩ : ByteArray)), (false), (wrap64 (x6_1 + 1)), orf, orf, orf, orf, H', ⟨by have := HK1.out; omega⟩, by repeat (first | exact Drawn0.refl _ | apply Drawn0.step)⟩
          ·rw [if_neg c18] at H
           exact absurd H (by simp)
         ·rw [if_neg c17] at H
          exact absurd H (by simp)
       ·replace c12 := Bool.eq_false_iff.mpr c12
        subst c12
        have H1 : (if x4_1.size + 1 ≤ 9223372036854775807 then (if x3_1.size + (x4_1 ++ (⟨#[46]⟩ : ByteArray)).size ≤ 9223372036854775807 then (spec_Escaped.l0 k1 a0 (x3_1 ++ (x4_1 ++ (⟨#[46]⟩ : ByteArray))) (⟨#[]⟩ : ByteArray) false (wrap64 (x6_1 + 1))) else (none)) else (none)) = some r := by rw [if_neg (show ¬ (false = true) by decide)] at H; exact H
        clear H
        have H := H1
        clear H1
        by_cases c19 : x4_1.size + 1 ≤ 9223372036854775807
        ·rw [if_pos c19] at H
         have c19b0 := eq_true c19
         have c19b1 : decide (x4_1.size + 1 ≤ 9223372036854775807) = true := decide_eq_true c19
         try have c19b2 : (9223372036854775807 < x4_1.size + 1) = False := eq_false (Nat.not_lt.2 c19)
         by_cases c20 : x3_1.size + (x4_1 ++ (⟨#[46]⟩ : ByteArray)).size ≤ 9223372036854775807
         ·rw [if_pos c20] at H
          have c20b0 := eq_true c20
          have c20b1 : decide (x3_1.size + (x4_1 ++ (⟨#[46]⟩ : ByteArray)).size ≤ 9223372036854775807) = true := decide_eq_true c20
          try have c20b2 : (9223372036854775807 < x3_1.size + (x4_1 ++ (⟨#[46]⟩ : ByteArray)).size) = False := eq_false (Nat.not_lt.2 c20)
          have H' := Aside0.mk H
          clear H
          have p4 : 0 ≤ (x6_1 : Int) := odt
          have q4 : x6_1 < (a0.size : Int) := odt
          have hx4 := bt_at a0 x6_1
          replace p4 := eq_true p4
          replace q4 := eq_true q4
          go_wp2_with (first | ((with_reducible refine gate_callee (f := 45) rfl ?_); refine goesL_ (some 28) rfl rfl Tryz.func45 (by kernel_rfl) rfl #[.int .u8 (bt a0 x6_1)] rfl (by (try simp only [List.map_toArray, List.map_cons, List.map_nil]); first | done | rfl | (simp only [List.length_drop, List.length_take]; rfl)) ?_; (with_reducible refine (spec_WordByte.calls (bt a0 x6_1) false _ A5.out).mono ?_); rintro e w' ⟨rfl, ⟨nd, rfl⟩⟩; refine ⟨_, rfl, ?_⟩))
          go_roundg k1
          case measure => have := HK1.out; omega
          case rel => exact ⟨(x3_1 ++ (x4_1 ++ (⟨#[46]⟩ : ByteArray))), ((⟨#[]⟩ : ByteArray)), (false), (wrap64 (x6_1 + 1)), orf, orf, orf, orf, H', ⟨by have := HK1.out; omega⟩, by repeat (first | exact Drawn0.refl _ | apply Drawn0.step)⟩
         ·rw [if_neg c20] at H
          exact absurd H (by simp)
        ·rw [if_neg c19] at H
         exact absurd H (by simp)
      ·rw [if_neg c11] at H
       have c11b0 : ((bt a0 x6_1) == 46) = false := beq_eq_false_iff_ne.mpr c11
       have c11b1 : ((bt a0 x6_1) != 46) = true := bne_iff_ne.mpr c11
       have c21b0 := eq_true (odt : 0 ≤ x6_1)
       by_cases c22 : x6_1 ≤ (wrap64 (x6_1 + 1))
       ·rw [if_pos c22] at H
        have c22b0 := eq_true c22
        have c22b1 : decide (x6_1 ≤ (wrap64 (x6_1 + 1))) = true := decide_eq_true c22
        by_cases c23 : (wrap64 (x6_1 + 1)) ≤ (a0.size : Int)
        ·rw [if_pos c23] at H
         have c23b0 := eq_true c23
         have c23b1 : decide ((wrap64 (x6_1 + 1)) ≤ (a0.size : Int)) = true := decide_eq_true c23
         by_cases c24 : x4_1.size + (a0.extract (x6_1 : Int).toNat ((wrap64 (x6_1 + 1)) : Int).toNat).size ≤ 9223372036854775807
         ·rw [if_pos c24] at H
          have c24b0 := eq_true c24
          have c24b1 : decide (x4_1.size + (a0.extract (x6_1 : Int).toNat ((wrap64 (x6_1 + 1)) : Int).toNat).size ≤ 9223372036854775807) = true := decide_eq_true c24
          try have c24b2 : (9223372036854775807 < x4_1.size + (a0.extract (x6_1 : Int).toNat ((wrap64 (x6_1 + 1)) : Int).toNat).size) = False := eq_false (Nat.not_lt.2 c24)
          by_cases c25 : x3_1.size + (x4_1 ++ (a0.extract (x6_1 : Int).toNat ((wrap64 (x6_1 + 1)) : Int).toNat)).size ≤ 9223372036854775807
          ·rw [if_pos c25] at H
           have c25b0 := eq_true c25
           have c25b1 : decide (x3_1.size + (x4_1 ++ (a0.extract (x6_1 : Int).toNat ((wrap64 (x6_1 + 1)) : Int).toNat)).size ≤ 9223372036854775807) = true := decide_eq_true c25
           try have c25b2 : (9223372036854775807 < x3_1.size + (x4_1 ++ (a0.extract (x6_1 : Int).toNat ((wrap64 (x6_1 + 1)) : Int).toNat)).size) = False := eq_false (Nat.not_lt.2 c25)
           have H' := Aside0.mk H
           clear H
           have p4 : 0 ≤ (x6_1 : Int) := odt
           have q4 : x6_1 < (a0.size : Int) := odt
           have hx4 := bt_at a0 x6_1
           replace p4 := eq_true p4
           replace q4 := eq_true q4
           go_wp2_with (first | ((with_reducible refine gate_callee (f := 45) rfl ?_); refine goesL_ (some 28) rfl rfl Tryz.func45 (by kernel_rfl) rfl #[.int .u8 (bt a0 x6_1)] rfl (by (try simp only [List.map_toArray, List.map_cons, List.map_nil]); first | done | rfl | (simp only [List.length_drop, List.length_take]; rfl)) ?_; (with_reducible refine (spec_WordByte.calls (bt a0 x6_1) false _ A5.out).mono ?_); rintro e w' ⟨rfl, ⟨nd, rfl⟩⟩; refine ⟨_, rfl, ?_⟩))
           go_roundg k1
           case measure => have := HK1.out; omega
           case rel => exact ⟨(x3_1 ++ (x4_1 ++ (a0.extract (x6_1 : Int).toNat ((wrap64 (x6_1 + 1)) : Int).toNat))), ((⟨#[]⟩ : ByteArray)), (true), (wrap64 (x6_1 + 1)), orf, orf, orf, orf, H', ⟨by have := HK1.out; omega⟩, by repeat (first | exact Drawn0.refl _ | apply Drawn0.step)⟩
          ·rw [if_neg c25] at H
           exact absurd H (by simp)
         ·rw [if_neg c24] at H
          exact absurd H (by simp)
        ·rw [if_neg c23] at H
         exact absurd H (by simp)
       ·rw [if_neg c22] at H
        exact absurd H (by simp)
    ·rw [if_neg c3] at H
     exact absurd H (by simp)
   ·rw [if_neg c2] at H
    have c2b0 : decide (x6_1 < (a0.size : Int)) = false := decide_eq_false c2
    clear c2
    by_cases c26 : x3_1.size + x4_1.size ≤ 9223372036854775807
    ·rw [if_pos c26] at H
     have c26b0 := eq_true c26
     have c26b1 : decide (x3_1.size + x4_1.size ≤ 9223372036854775807) = true := decide_eq_true c26
     try have c26b2 : (9223372036854775807 < x3_1.size + x4_1.size) = False := eq_false (Nat.not_lt.2 c26)
     obtain rfl := Option.some.inj H
     go_wp2
     go_ret
     exact ⟨by first | rfl | (rw [← HPERM.out.length_eq]; rfl) | (simp [← HPERM.out.length_eq]; done) | (simp; done) | (simp [*]; done), by repeat (first | exact Drawn0.refl _ | apply Drawn0.step)⟩
    ·rw [if_neg c26] at H
     exact absurd H (by simp)

/-! ### spec_ModelMeans: function 15 -/
def spec_ModelMeans.l0 : Nat → List (S28) → List (S28) → Int → Option ((List (S28)))
 | 0, _, _, _ => none
 | k + 1, x0, x3, x4 => if x4 < (x0.length : Int) then (if 0 ≤ x4 then (if ((rd_T28 x0 x4).f0).toList = ([101] : List UInt8) then ((spec_Escaped.f k ((rd_T28 x0 x4).f2)).bind fun t167 => (if x3.length < 2932031007402 then (spec_ModelMeans.l0 k x0 (x3 ++ [(⟨(rd_T28 x0 x4).f0, (rd_T28 x0 x4).f1, t167⟩ : S28)]) (wrap64 (x4 + 1))) else (none))) else (if ((rd_T28 x0 x4).f0).toList = ([109] : List UInt8) then ((spec_Escaped.f k ((rd_T28 x0 x4).f2)).bind fun t171 => (if x3.length < 2932031007402 then (spec_ModelMeans.l0 k x0 (x3 ++ [(⟨(rd_T28 x0 x4).f0, (rd_T28 x0 x4).f1, t171⟩ : S28)]) (wrap64 (x4 + 1))) else (none))) else (if x3.length < 2932031007402 then (spec_ModelMeans.l0 k x0 (x3 ++ [(⟨(rd_T28 x0 x4).f0, (rd_T28 x0 x4).f1, (rd_T28 x0 x4).f2⟩ : S28)]) (wrap64 (x4 + 1))) else (none)))) else (none)) else (some x3)
def spec_ModelMeans.f (k : Nat) (l0 : List (S28)) : Option ((List (S28))) := spec_ModelMeans.l0 k l0 ([] : List (S28)) 0
theorem spec_ModelMeans.mono_l : ∀ k, (∀ y0 y1 y2, LeO (spec_ModelMeans.l0 k y0 y1 y2) (spec_ModelMeans.l0 (k + 1) y0 y1 y2))
 | 0 => fun _ _ _ r h => by simp [spec_ModelMeans.l0] at h
 | k + 1 => by
  have ih0 := spec_ModelMeans.mono_l k
  ·intro y0 y1 y2
   unfold spec_ModelMeans.l0
   repeat' first
   | (with_reducible exact ih0 _ _ _)
   | (with_reducible exact spec_Escaped.mono _ _)
   | (with_reducible exact LeO.refl _)
   | (with_reducible exact LeO.none _)
   | (with_reducible refine LeO.ite ?_ ?_)
   | (with_reducible refine LeO.bind ?_ (fun _ => ?_))
   | exact ih0 _ _ _
   | exact spec_Escaped.mono _ _
   | exact LeO.none _
   | refine LeO.ite ?_ ?_
   | refine LeO.bind ?_ (fun _ => ?_)
theorem spec_ModelMeans.mono : ∀ a0 k, LeO (spec_ModelMeans.f k a0) (spec_ModelMeans.f (k + 1) a0) := by
 intro a0 k
 have ih0 := spec_ModelMeans.mono_l k
 unfold spec_ModelMeans.f
 repeat' first
   | (with_reducible exact ih0 _ _ _)
   | (with_reducible exact spec_Escaped.mono _ _)
   | (with_reducible exact LeO.refl _)
   | (with_reducible exact LeO.none _)
   | (with_reducible refine LeO.ite ?_ ?_)
   | (with_reducible refine LeO.bind ?_ (fun _ => ?_))
   | exact ih0 _ _ _
   | exact spec_Escaped.mono _ _
   | exact LeO.none _
   | refine LeO.ite ?_ ?_
   | refine LeO.bind ?_ (fun _ => ?_)
set_option maxHeartbeats 8000000 in
set_option maxRecDepth 100000 in
theorem spec_ModelMeans.calls (k : Nat) (A0 : Option Addr) (c0 : Nat) (l0 : List (S28)) (r : List (S28)) (w : World) (hr0 : Kd.C k28 w A0 l0.length l0) (hc0 : l0.length ≤ c0) (h : spec_ModelMeans.f k l0 = some r) :
  Calls Tryz.prog 15 #[.slice A0 l0.length c0] w fun e w' => ∃ v0_ : Value, e = .returned (v0_) ∧ Kd.R k28 28 w' w.heap.size (fun _ => True) v0_ r ∧ Below w.heap.size w w' := by
 have hu28 := Tryz.underlying28
 have HR0 := Aside0.mk hr0
 have HC0 := Aside0.mk hc0
 clear hr0 hc0
 have HB := Aside0.mk (Below.refl w.heap.size w)
 have H : (spec_ModelMeans.l0 k l0 ([] : List (S28)) 0) = some r := h
 clear h
 have H' := Aside0.mk H
 clear H
 go_enter Tryz.func15, Tryz.ntmps15
 go_wp2
 go_loopg [3, 4] k (fun kq v3 v4 w' => ∃ (x3_1 : List (S28)) (x4_1 : Int), v4 = .int .i64 x4_1 ∧ Aside0 (spec_ModelMeans.l0 kq l0 x3_1 x4_1 = some r) ∧ Aside0 (kq ≤ k) ∧ Aside0 (Kd.R k28 28 w' w.heap.size (fun _ => True) v3 x3_1) ∧ Aside0 (Below w.heap.size w w'))
 case atStart => exact ⟨(([] : List (S28))), (0), orf, H', ⟨Nat.le_refl _⟩, ⟨by first | exact Kd.R_nil _ _ _ _ _ | exact Kd.N_nil _ _ _ _ _ | exact Kd.V_nil _ _ _ _ _ | exact Kd.Q_nil _ _ _ _ _ | exact Kd.S_nil _ _ _ _ _⟩, ⟨by repeat (first | (with_reducible first | exact HB.out | apply below_alloc | apply pw_below_drewN | apply below_drew1) | exact HB.out)⟩⟩
 case round =>
  clear H'
  try clear c1
  obtain ⟨x3_1, x4_1, rfl, HA, HK1, HO_3, HB⟩ := hrel
  cases gk with
  | zero => exact absurd HA.out (by simp [spec_ModelMeans.l0])
  | succ k1 =>
   have H := HA.out
   clear HA
   simp only [spec_ModelMeans.l0] at H
   by_cases c2 : x4_1 < (l0.length : Int)
   ·rw [if_pos c2] at H
    have c2b0 : decide (x4_1 < (l0.length : Int)) = true := decide_eq_true c2
    clear c2
    by_cases c3 : 0 ≤ x4_1
    ·rw [if_pos c3] at H
     have c3b0 : decide (0 ≤ x4_1) = true := decide_eq_true c3
     clear c3
     by_cases c4 : ((rd_T28 l0 x4_1).f0).toList = ([101] : List UInt8)
     ·rw [if_pos c4] at H
      have c4b0 : (((rd_T28 l0 x4_1).f0).toList == ([101] : List UInt8)) = true := beq_iff_eq.mpr c4
      have c4b1 : (((rd_T28 l0 x4_1).f0).toList != ([101] : List UInt8)) = false := bne_eq_false_iff_eq.mpr c4
      clear c4
      replace H := Option.bind_eq_some_iff.mp H
      obtain ⟨t167, A50, H⟩ := H
      replace H : (if x3_1.length < 2932031007402 then (spec_ModelMeans.l0 k1 l0 (x3_1 ++ [(⟨(rd_T28 l0 x4_1).f0, (rd_T28 l0 x4_1).f1, t167⟩ : S28)]) (wrap64 (x4_1 + 1))) else (none)) = some r := H
      have A5 := Aside0.mk A50
      clear A50
      by_cases c6 : x3_1.length < 2932031007402
      ·rw [if_pos c6] at H
       have LMc6 := Aside0.mk c6
       clear c6
       obtain ⟨y168, hy168⟩ : ∃ y_ : List (S28), y_ = (x3_1 ++ [(⟨(rd_T28 l0 x4_1).f0, (rd_T28 l0 x4_1).f1, t167⟩ : S28)]) := ⟨_, rfl⟩
       replace H : (spec_ModelMeans.l0 k1 l0 y168 (wrap64 (x4_1 + 1))) = some r := by first | (rw [hy168]; with_reducible exact H) | (have H2_ := (Option.bind_some _ _).symm.trans H; rw [hy168]; with_reducible exact H2_) | (have H2_ := (Option.bind_some _ _).symm.trans H; with_reducible exact H2_) | with_reducible exact H | (rw [hy168]; exact H) | exact H
       have Ny168 := Aside0.mk hy168
       clear hy168
       have H' := Aside0.mk H
       clear H
       have p165 : 0 ≤ (x4_1 : Int) := odt
       have q165 : x4_1 < (l0.length : Int) := odt
       obtain ⟨ad165, e165, hx165_0, hx165_1, hx165_2⟩ := at_T28 HR0.out x4_1 p165 q165
       cases e165
       replace hx165_0 := (HB.out.cell (World.block_lt_of_cell? w _ hx165_0)).trans hx165_0
       replace hx165_1 := (HB.out.cell (World.block_lt_of_cell? w _ hx165_1)).trans hx165_1
       replace hx165_2 := (HB.out.cell (World.block_lt_of_cell? w _ hx165_2)).trans hx165_2
       replace p165 := eq_true p165
       replace q165 := eq_true q165
       go_wp2_with (first | ((with_reducible refine gate_dst (N := 5) rfl ?_); refine box_event ?hg (N := 5) ?hd (cs := #[.string (⟨#[]⟩ : ByteArray), .string (⟨#[]⟩ : ByteArray), .string (⟨#[]⟩ : ByteArray)]) (t := 28) ?hr ?_; (case hd => rfl); (case hg => rfl); (case hr => first | (go_simp; done) | (go_simp; rfl)); intro gb166 hg w7 hbox hb; have n0_ := Aside0.mk (Kd.R_below (Kd.R_elderB (by (with_reducible repeat (first | apply Kd.R_alloc | apply Kd.R_drewN | apply Kd.R_drew)); exact HO_3.out) gb166 (Nat.le_of_eq hg.symm)) hb); have n1_ := Aside0.mk (below_step (by repeat (first | (with_reducible first | exact HB.out | apply below_alloc | apply pw_below_drewN | apply below_drew1) | exact HB.out)) hb); have n2_ := Aside0.mk (hbox); have n3_ := Aside0.mk ((by rw [hg]; exact (below_size (by repeat (first | (with_reducible first | exact HB.out | apply below_alloc | apply pw_below_drewN | apply below_drew1) | exact HB.out))) : w.heap.size ≤ gb166)); have n4_ := Aside0.mk ((by rw [hg]; exact (below_size (by repeat (first | (with_reducible first | exact HB.out | apply below_alloc | apply pw_below_drewN | apply below_drew1) | exact HB.out))) : w.heap.size ≤ gb166)); clear HO_3; clear HB; have HO_3 := n0_; have HB := n1_; have BK166 := n2_; have GW166 := n3_; have GE166 := n4_; clear n0_ n1_ n2_ n3_ n4_; clear hb hbox hg; have hcz8_0 : w7.cell? ⟨gb166, 0, none⟩ = some (.string (⟨#[]⟩ : ByteArray)) := (blk_cell BK166.out 0).trans rfl; have hcz8_1 : w7.cell? ⟨gb166, 1, none⟩ = some (.string (⟨#[]⟩ : ByteArray)) := (blk_cell BK166.out 1).trans rfl; have hcz8_2 : w7.cell? ⟨gb166, 2, none⟩ = some (.string (⟨#[]⟩ : ByteArray)) := (blk_cell BK166.out 2).trans rfl; have hfz8_0 := blk_frozen BK166.out 0; have hfz8_1 := blk_frozen BK166.out 1; have hfz8_2 := blk_frozen BK166.out 2; have hcw8_2 : (((w7.setCell ⟨gb166, 0, none⟩ (.string (rd_T28 l0 x4_1).f0)).setCell ⟨gb166, 1, none⟩ (.string (rd_T28 l0 x4_1).f1)).setCell ⟨gb166, 2, none⟩ (.string (rd_T28 l0 x4_1).f2)).cell? ⟨gb166, 2, none⟩ = some (.string (rd_T28 l0 x4_1).f2) := World.cell?_setCell_same _ _ _ ((World.cell?_setCell_other _ _ _ _ (by simp)).trans ((World.cell?_setCell_other _ _ _ _ (by simp)).trans hcz8_2))) | ((with_reducible refine gate_callee (f := 30) rfl ?_); refine goesL_ (some 26) rfl rfl Tryz.func30 (by kernel_rfl) rfl #[.string ((rd_T28 l0 x4_1).f2)] rfl (by (try simp only [List.map_toArray, List.map_cons, List.map_nil]); first | done | rfl | (simp only [List.length_drop, List.length_take]; rfl)) ?_; (with_reducible refine (spec_Escaped.calls k1 ((rd_T28 l0 x4_1).f2) t167 _ A5.out).mono ?_); rintro e w' ⟨rfl, ⟨nd, rfl⟩⟩; refine ⟨_, rfl, ?_⟩) | ((with_reducible refine gate_builtin (b := .append) (xs := #[.tmp 28, .tmp 30]) rfl ?_); at_builtin; refine Kd.R_append k28 (w0 := w) w.heap.size rfl (.tmp 28) (.tmp 30) 22 28 (.agg #[(.string ⟨#[]⟩), (.string ⟨#[]⟩), (.string ⟨#[]⟩)]) 48 rfl Tryz.underlying22 info28 rfl (by decide) (by omega) u3 x3_1 (⟨(rd_T28 l0 x4_1).f0, (rd_T28 l0 x4_1).f1, t167⟩ : S28) [.string ((rd_T28 l0 x4_1).f0), .string ((rd_T28 l0 x4_1).f1), .string t167] (fun k_ => k_ ≠ gb166) (fun _ => False) rfl (by first | (go_simp; done) | (go_simp; rfl)) ?aP (fun _ hk => hk.elim) ?aF ?aO ?aB ?aS ?aL ?_; (case aP => exact k28_mkM _ _ _ (⟨(rd_T28 l0 x4_1).f0, (rd_T28 l0 x4_1).f1, t167⟩ : S28)); (case aB => exact (by repeat (first | (with_reducible first | exact HB.out | apply below_alloc | apply pw_below_drewN | apply below_drew1 | refine below_set ?_ GE166.out) | exact HB.out))); (case aF => exact (fun k_ hk => Kd.freshB (g := gb166) (o := .cells #[.string ((rd_T28 l0 x4_1).f0), .string ((rd_T28 l0 x4_1).f1), .string t167] 28 (0, 0)) (by (with_reducible repeat (first | refine blk_drewN ?_ _ | refine blk_drew ?_ | refine blk_alloc ?_ _)); refine blk_put (cs := #[.string ((rd_T28 l0 x4_1).f0), .string ((rd_T28 l0 x4_1).f1), .string ((rd_T28 l0 x4_1).f2)]) ?_ 2 _ rfl; (with_reducible repeat (first | refine blk_drewN ?_ _ | refine blk_drew ?_ | refine blk_alloc ?_ _)); refine blk_put (cs := #[.string ((rd_T28 l0 x4_1).f0), .string ((rd_T28 l0 x4_1).f1), .string (⟨#[]⟩ : ByteArray)]) ?_ 2 _ rfl; (with_reducible repeat (first | refine blk_drewN ?_ _ | refine blk_drew ?_ | refine blk_alloc ?_ _)); refine blk_put (cs := #[.string ((rd_T28 l0 x4_1).f0), .string (⟨#[]⟩ : ByteArray), .string (⟨#[]⟩ : ByteArray)]) ?_ 1 _ rfl; (with_reducible repeat (first | refine blk_drewN ?_ _ | refine blk_drew ?_ | refine blk_alloc ?_ _)); refine blk_put (cs := #[.string (⟨#[]⟩ : ByteArray), .string (⟨#[]⟩ : ByteArray), .string (⟨#[]⟩ : ByteArray)]) ?_ 0 _ rfl; (with_reducible repeat (first | refine blk_drewN ?_ _ | refine blk_drew ?_ | refine blk_alloc ?_ _)); exact BK166.out) k_ hk)); (case aO => exact (by (with_reducible repeat (first | apply Kd.R_alloc | apply Kd.R_drewN | apply Kd.R_drew)); exact Kd.R_mono (Kd.R_far (p := ⟨gb166, 2, none⟩) (Kd.R_far (p := ⟨gb166, 2, none⟩) (Kd.R_far (p := ⟨gb166, 1, none⟩) (Kd.R_far (p := ⟨gb166, 0, none⟩) (Kd.R_mono HO_3.out (fun k_ hk => (⟨hk, hk.2⟩ : _ ∧ k_ ≠ gb166))) (fun _ hk => hk.2) (.string ((rd_T28 l0 x4_1).f0))) (fun _ hk => hk.2) (.string ((rd_T28 l0 x4_1).f1))) (fun _ hk => hk.2) (.string ((rd_T28 l0 x4_1).f2))) (fun _ hk => hk.2) (.string t167)) (fun _ hk => hk.1.2))); (case aS => exact (below_size (by repeat (first | (with_reducible first | exact HB.out | apply below_alloc | apply pw_below_drewN | apply below_drew1 | refine below_set ?_ GE166.out) | exact HB.out)))); (case aL => have := LMc6.out; omega); intro v169 w9 ho hb hg hat; rw [← Ny168.out] at ho; have n0_ := Aside0.mk (blk_grown (g := gb166) (o := .cells #[.string ((rd_T28 l0 x4_1).f0), .string ((rd_T28 l0 x4_1).f1), .string t167] 28 (0, 0)) (by (with_reducible repeat (first | refine blk_drewN ?_ _ | refine blk_drew ?_ | refine blk_alloc ?_ _)); refine blk_put (cs := #[.string ((rd_T28 l0 x4_1).f0), .string ((rd_T28 l0 x4_1).f1), .string ((rd_T28 l0 x4_1).f2)]) ?_ 2 _ rfl; (with_reducible repeat (first | refine blk_drewN ?_ _ | refine blk_drew ?_ | refine blk_alloc ?_ _)); refine blk_put (cs := #[.string ((rd_T28 l0 x4_1).f0), .string ((rd_T28 l0 x4_1).f1), .string (⟨#[]⟩ : ByteArray)]) ?_ 2 _ rfl; (with_reducible repeat (first | refine blk_drewN ?_ _ | refine blk_drew ?_ | refine blk_alloc ?_ _)); refine blk_put (cs := #[.string ((rd_T28 l0 x4_1).f0), .string (⟨#[]⟩ : ByteArray), .string (⟨#[]⟩ : ByteArray)]) ?_ 1 _ rfl; (with_reducible repeat (first | refine blk_drewN ?_ _ | refine blk_drew ?_ | refine blk_alloc ?_ _)); refine blk_put (cs := #[.string (⟨#[]⟩ : ByteArray), .string (⟨#[]⟩ : ByteArray), .string (⟨#[]⟩ : ByteArray)]) ?_ 0 _ rfl; (with_reducible repeat (first | refine blk_drewN ?_ _ | refine blk_drew ?_ | refine blk_alloc ?_ _)); exact BK166.out) hg (Kd.R_away HO_3.out (fun _ hk => hk.2))); have n1_ := Aside0.mk (hb); have n2_ := Aside0.mk (ho); clear BK166; clear HB; clear HO_3; have BK166 := n0_; have HB := n1_; have HO170 := n2_; clear n0_ n1_ n2_; clear ho hb hg hat))
       go_roundg k1
       case measure => have := HK1.out; omega
       case rel => exact ⟨(y168), (wrap64 (x4_1 + 1)), orf, H', ⟨by have := HK1.out; omega⟩, ⟨by (with_reducible repeat (first | apply Kd.R_alloc | apply Kd.R_drewN | apply Kd.R_drew)); exact Kd.R_mono HO170.out (fun _ hk => trivial)⟩, ⟨by repeat (first | (with_reducible first | exact HB.out | apply below_alloc | apply pw_below_drewN | apply below_drew1 | refine below_set ?_ GE166.out) | exact HB.out)⟩⟩
      ·rw [if_neg c6] at H
       exact absurd H (by simp)
     ·rw [if_neg c4] at H
      have c4b0 : (((rd_T28 l0 x4_1).f0).toList == ([101] : List UInt8)) = false := beq_eq_false_iff_ne.mpr c4
      have c4b1 : (((rd_T28 l0 x4_1).f0).toList != ([101] : List UInt8)) = true := bne_iff_ne.mpr c4
      by_cases c10 : ((rd_T28 l0 x4_1).f0).toList = ([109] : List UInt8)
      ·rw [if_pos c10] at H
       have c10b0 : (((rd_T28 l0 x4_1).f0).toList == ([109] : List UInt8)) = true := beq_iff_eq.mpr c10
       have c10b1 : (((rd_T28 l0 x4_1).f0).toList != ([109] : List UInt8)) = false := bne_eq_false_iff_eq.mpr c10
       clear c10
       replace H := Option.bind_eq_some_iff.mp H
       obtain ⟨t171, A110, H⟩ := H
       replace H : (if x3_1.length < 2932031007402 then (spec_ModelMeans.l0 k1 l0 (x3_1 ++ [(⟨(rd_T28 l0 x4_1).f0, (rd_T28 l0 x4_1).f1, t171⟩ : S28)]) (wrap64 (x4_1 + 1))) else (none)) = some r := H
       have A11 := Aside0.mk A110
       clear A110
       by_cases c12 : x3_1.length < 2932031007402
       ·rw [if_pos c12] at H
        have LMc12 := Aside0.mk c12
        clear c12
        obtain ⟨y172, hy172⟩ : ∃ y_ : List (S28), y_ = (x3_1 ++ [(⟨(rd_T28 l0 x4_1).f0, (rd_T28 l0 x4_1).f1, t171⟩ : S28)]) := ⟨_, rfl⟩
        replace H : (spec_ModelMeans.l0 k1 l0 y172 (wrap64 (x4_1 + 1))) = some r := by first | (rw [hy172]; with_reducible exact H) | (have H2_ := (Option.bind_some _ _).symm.trans H; rw [hy172]; with_reducible exact H2_) | (have H2_ := (Option.bind_some _ _).symm.trans H; with_reducible exact H2_) | with_reducible exact H | (rw [hy172]; exact H) | exact H
        have Ny172 := Aside0.mk hy172
        clear hy172
        have H' := Aside0.mk H
        clear H
        have p165 : 0 ≤ (x4_1 : Int) := odt
        have q165 : x4_1 < (l0.length : Int) := odt
        obtain ⟨ad165, e165, hx165_0, hx165_1, hx165_2⟩ := at_T28 HR0.out x4_1 p165 q165
        cases e165
        replace hx165_0 := (HB.out.cell (World.block_lt_of_cell? w _ hx165_0)).trans hx165_0
        replace hx165_1 := (HB.out.cell (World.block_lt_of_cell? w _ hx165_1)).trans hx165_1
        replace hx165_2 := (HB.out.cell (World.block_lt_of_cell? w _ hx165_2)).trans hx165_2
        replace p165 := eq_true p165
        replace q165 := eq_true q165
        go_wp2_with (first | ((with_reducible refine gate_dst (N := 5) rfl ?_); refine box_event ?hg (N := 5) ?hd (cs := #[.string (⟨#[]⟩ : ByteArray), .string (⟨#[]⟩ : ByteArray), .string (⟨#[]⟩ : ByteArray)]) (t := 28) ?hr ?_; (case hd => rfl); (case hg => rfl); (case hr => first | (go_simp; done) | (go_simp; rfl)); intro gb166 hg w13 hbox hb; have n0_ := Aside0.mk (Kd.R_below (Kd.R_elderB (by (with_reducible repeat (first | apply Kd.R_alloc | apply Kd.R_drewN | apply Kd.R_drew)); exact HO_3.out) gb166 (Nat.le_of_eq hg.symm)) hb); have n1_ := Aside0.mk (below_step (by repeat (first | (with_reducible first | exact HB.out | apply below_alloc | apply pw_below_drewN | apply below_drew1) | exact HB.out)) hb); have n2_ := Aside0.mk (hbox); have n3_ := Aside0.mk ((by rw [hg]; exact (below_size (by repeat (first | (with_reducible first | exact HB.out | apply below_alloc | apply pw_below_drewN | apply below_drew1) | exact HB.out))) : w.heap.size ≤ gb166)); have n4_ := Aside0.mk ((by rw [hg]; exact (below_size (by repeat (first | (with_reducible first | exact HB.out | apply below_alloc | apply pw_below_drewN | apply below_drew1) | exact HB.out))) : w.heap.size ≤ gb166)); clear HO_3; clear HB; have HO_3 := n0_; have HB := n1_; have BK166 := n2_; have GW166 := n3_; have GE166 := n4_; clear n0_ n1_ n2_ n3_ n4_; clear hb hbox hg; have hcz14_0 : w13.cell? ⟨gb166, 0, none⟩ = some (.string (⟨#[]⟩ : ByteArray)) := (blk_cell BK166.out 0).trans rfl; have hcz14_1 : w13.cell? ⟨gb166, 1, none⟩ = some (.string (⟨#[]⟩ : ByteArray)) := (blk_cell BK166.out 1).trans rfl; have hcz14_2 : w13.cell? ⟨gb166, 2, none⟩ = some (.string (⟨#[]⟩ : ByteArray)) := (blk_cell BK166.out 2).trans rfl; have hfz14_0 := blk_frozen BK166.out 0; have hfz14_1 := blk_frozen BK166.out 1; have hfz14_2 := blk_frozen BK166.out 2; have hcw14_2 : (((w13.setCell ⟨gb166, 0, none⟩ (.string (rd_T28 l0 x4_1).f0)).setCell ⟨gb166, 1, none⟩ (.string (rd_T28 l0 x4_1).f1)).setCell ⟨gb166, 2, none⟩ (.string (rd_T28 l0 x4_1).f2)).cell? ⟨gb166, 2, none⟩ = some (.string (rd_T28 l0 x4_1).f2) := World.cell?_setCell_same _ _ _ ((World.cell?_setCell_other _ _ _ _ (by simp)).trans ((World.cell?_setCell_other _ _ _ _ (by simp)).trans hcz14_2))) | ((with_reducible refine gate_callee (f := 30) rfl ?_); refine goesL_ (some 26) rfl rfl Tryz.func30 (by kernel_rfl) rfl #[.string ((rd_T28 l0 x4_1).f2)] rfl (by (try simp only [List.map_toArray, List.map_cons, List.map_nil]); first | done | rfl | (simp only [List.length_drop, List.length_take]; rfl)) ?_; (with_reducible refine (spec_Escaped.calls k1 ((rd_T28 l0 x4_1).f2) t171 _ A11.out).mono ?_); rintro e w' ⟨rfl, ⟨nd, rfl⟩⟩; refine ⟨_, rfl, ?_⟩) | ((with_reducible refine gate_builtin (b := .append) (xs := #[.tmp 28, .tmp 30]) rfl ?_); at_builtin; refine Kd.R_append k28 (w0 := w) w.heap.size rfl (.tmp 28) (.tmp 30) 22 28 (.agg #[(.string ⟨#[]⟩), (.string ⟨#[]⟩), (.string ⟨#[]⟩)]) 48 rfl Tryz.underlying22 info28 rfl (by decide) (by omega) u3 x3_1 (⟨(rd_T28 l0 x4_1).f0, (rd_T28 l0 x4_1).f1, t171⟩ : S28) [.string ((rd_T28 l0 x4_1).f0), .string ((rd_T28 l0 x4_1).f1), .string t171] (fun k_ => k_ ≠ gb166) (fun _ => False) rfl (by first | (go_simp; done) | (go_simp; rfl)) ?aP (fun _ hk => hk.elim) ?aF ?aO ?aB ?aS ?aL ?_; (case aP => exact k28_mkM _ _ _ (⟨(rd_T28 l0 x4_1).f0, (rd_T28 l0 x4_1).f1, t171⟩ : S28)); (case aB => exact (by repeat (first | (with_reducible first | exact HB.out | apply below_alloc | apply pw_below_drewN | apply below_drew1 | refine below_set ?_ GE166.out) | exact HB.out))); (case aF => exact (fun k_ hk => Kd.freshB (g := gb166) (o := .cells #[.string ((rd_T28 l0 x4_1).f0), .string ((rd_T28 l0 x4_1).f1), .string t171] 28 (0, 0)) (by (with_reducible repeat (first | refine blk_drewN ?_ _ | refine blk_drew ?_ | refine blk_alloc ?_ _)); refine blk_put (cs := #[.string ((rd_T28 l0 x4_1).f0), .string ((rd_T28 l0 x4_1).f1), .string ((rd_T28 l0 x4_1).f2)]) ?_ 2 _ rfl; (with_reducible repeat (first | refine blk_drewN ?_ _ | refine blk_drew ?_ | refine blk_alloc ?_ _)); refine blk_put (cs := #[.string ((rd_T28 l0 x4_1).f0), .string ((rd_T28 l0 x4_1).f1), .string (⟨#[]⟩ : ByteArray)]) ?_ 2 _ rfl; (with_reducible repeat (first | refine blk_drewN ?_ _ | refine blk_drew ?_ | refine blk_alloc ?_ _)); refine blk_put (cs := #[.string ((rd_T28 l0 x4_1).f0), .string (⟨#[]⟩ : ByteArray), .string (⟨#[]⟩ : ByteArray)]) ?_ 1 _ rfl; (with_reducible repeat (first | refine blk_drewN ?_ _ | refine blk_drew ?_ | refine blk_alloc ?_ _)); refine blk_put (cs := #[.string (⟨#[]⟩ : ByteArray), .string (⟨#[]⟩ : ByteArray), .string (⟨#[]⟩ : ByteArray)]) ?_ 0 _ rfl; (with_reducible repeat (first | refine blk_drewN ?_ _ | refine blk_drew ?_ | refine blk_alloc ?_ _)); exact BK166.out) k_ hk)); (case aO => exact (by (with_reducible repeat (first | apply Kd.R_alloc | apply Kd.R_drewN | apply Kd.R_drew)); exact Kd.R_mono (Kd.R_far (p := ⟨gb166, 2, none⟩) (Kd.R_far (p := ⟨gb166, 2, none⟩) (Kd.R_far (p := ⟨gb166, 1, none⟩) (Kd.R_far (p := ⟨gb166, 0, none⟩) (Kd.R_mono HO_3.out (fun k_ hk => (⟨hk, hk.2⟩ : _ ∧ k_ ≠ gb166))) (fun _ hk => hk.2) (.string ((rd_T28 l0 x4_1).f0))) (fun _ hk => hk.2) (.string ((rd_T28 l0 x4_1).f1))) (fun _ hk => hk.2) (.string ((rd_T28 l0 x4_1).f2))) (fun _ hk => hk.2) (.string t171)) (fun _ hk => hk.1.2))); (case aS => exact (below_size (by repeat (first | (with_reducible first | exact HB.out | apply below_alloc | apply pw_below_drewN | apply below_drew1 | refine below_set ?_ GE166.out) | exact HB.out)))); (case aL => have := LMc12.out; omega); intro v173 w15 ho hb hg hat; rw [← Ny172.out] at ho; have n0_ := Aside0.mk (blk_grown (g := gb166) (o := .cells #[.string ((rd_T28 l0 x4_1).f0), .string ((rd_T28 l0 x4_1).f1), .string t171] 28 (0, 0)) (by (with_reducible repeat (first | refine blk_drewN ?_ _ | refine blk_drew ?_ | refine blk_alloc ?_ _)); refine blk_put (cs := #[.string ((rd_T28 l0 x4_1).f0), .string ((rd_T28 l0 x4_1).f1), .string ((rd_T28 l0 x4_1).f2)]) ?_ 2 _ rfl; (with_reducible repeat (first | refine blk_drewN ?_ _ | refine blk_drew ?_ | refine blk_alloc ?_ _)); refine blk_put (cs := #[.string ((rd_T28 l0 x4_1).f0), .string ((rd_T28 l0 x4_1).f1), .string (⟨#[]⟩ : ByteArray)]) ?_ 2 _ rfl; (with_reducible repeat (first | refine blk_drewN ?_ _ | refine blk_drew ?_ | refine blk_alloc ?_ _)); refine blk_put (cs := #[.string ((rd_T28 l0 x4_1).f0), .string (⟨#[]⟩ : ByteArray), .string (⟨#[]⟩ : ByteArray)]) ?_ 1 _ rfl; (with_reducible repeat (first | refine blk_drewN ?_ _ | refine blk_drew ?_ | refine blk_alloc ?_ _)); refine blk_put (cs := #[.string (⟨#[]⟩ : ByteArray), .string (⟨#[]⟩ : ByteArray), .string (⟨#[]⟩ : ByteArray)]) ?_ 0 _ rfl; (with_reducible repeat (first | refine blk_drewN ?_ _ | refine blk_drew ?_ | refine blk_alloc ?_ _)); exact BK166.out) hg (Kd.R_away HO_3.out (fun _ hk => hk.2))); have n1_ := Aside0.mk (hb); have n2_ := Aside0.mk (ho); clear BK166; clear HB; clear HO_3; have BK166 := n0_; have HB := n1_; have HO174 := n2_; clear n0_ n1_ n2_; clear ho hb hg hat))
        go_roundg k1
        case measure => have := HK1.out; omega
        case rel => exact ⟨(y172), (wrap64 (x4_1 + 1)), orf, H', ⟨by have := HK1.out; omega⟩, ⟨by (with_reducible repeat (first | apply Kd.R_alloc | apply Kd.R_drewN | apply Kd.R_drew)); exact Kd.R_mono HO174.out (fun _ hk => trivial)⟩, ⟨by repeat (first | (with_reducible first | exact HB.out | apply below_alloc | apply pw_below_drewN | apply below_drew1 | refine below_set ?_ GE166.out) | exact HB.out)⟩⟩
       ·rw [if_neg c12] at H
        exact absurd H (by simp)
      ·rw [if_neg c10] at H
       have c10b0 : (((rd_T28 l0 x4_1).f0).toList == ([109] : List UInt8)) = false := beq_eq_false_iff_ne.mpr c10
       have c10b1 : (((rd_T28 l0 x4_1).f0).toList != ([109] : List UInt8)) = true := bne_iff_ne.mpr c10
       by_cases c16 : x3_1.length < 2932031007402
       ·rw [if_pos c16] at H
        have LMc16 := Aside0.mk c16
        clear c16
        obtain ⟨y175, hy175⟩ : ∃ y_ : List (S28), y_ = (x3_1 ++ [(⟨(rd_T28 l0 x4_1).f0, (rd_T28 l0 x4_1).f1, (rd_T28 l0 x4_1).f2⟩ : S28)]) := ⟨_, rfl⟩
        replace H : (spec_ModelMeans.l0 k1 l0 y175 (wrap64 (x4_1 + 1))) = some r := by first | (rw [hy175]; with_reducible exact H) | (have H2_ := (Option.bind_some _ _).symm.trans H; rw [hy175]; with_reducible exact H2_) | (have H2_ := (Option.bind_some _ _).symm.trans H; with_reducible exact H2_) | with_reducible exact H | (rw [hy175]; exact H) | exact H
        have Ny175 := Aside0.mk hy175
        clear hy175
        have H' := Aside0.mk H
        clear H
        have p165 : 0 ≤ (x4_1 : Int) := odt
        have q165 : x4_1 < (l0.length : Int) := odt
        obtain ⟨ad165, e165, hx165_0, hx165_1, hx165_2⟩ := at_T28 HR0.out x4_1 p165 q165
        cases e165
        replace hx165_0 := (HB.out.cell (World.block_lt_of_cell? w _ hx165_0)).trans hx165_0
        replace hx165_1 := (HB.out.cell (World.block_lt_of_cell? w _ hx165_1)).trans hx165_1
        replace hx165_2 := (HB.out.cell (World.block_lt_of_cell? w _ hx165_2)).trans hx165_2
        replace p165 := eq_true p165
        replace q165 := eq_true q165
        go_wp2_with (first | ((with_reducible refine gate_dst (N := 5) rfl ?_); refine box_event ?hg (N := 5) ?hd (cs := #[.string (⟨#[]⟩ : ByteArray), .string (⟨#[]⟩ : ByteArray), .string (⟨#[]⟩ : ByteArray)]) (t := 28) ?hr ?_; (case hd => rfl); (case hg => rfl); (case hr => first | (go_simp; done) | (go_simp; rfl)); intro gb166 hg w17 hbox hb; have n0_ := Aside0.mk (Kd.R_below (Kd.R_elderB (by (with_reducible repeat (first | apply Kd.R_alloc | apply Kd.R_drewN | apply Kd.R_drew)); exact HO_3.out) gb166 (Nat.le_of_eq hg.symm)) hb); have n1_ := Aside0.mk (below_step (by repeat (first | (with_reducible first | exact HB.out | apply below_alloc | apply pw_below_drewN | apply below_drew1) | exact HB.out)) hb); have n2_ := Aside0.mk (hbox); have n3_ := Aside0.mk ((by rw [hg]; exact (below_size (by repeat (first | (with_reducible first | exact HB.out | apply below_alloc | apply pw_below_drewN | apply below_drew1) | exact HB.out))) : w.heap.size ≤ gb166)); have n4_ := Aside0.mk ((by rw [hg]; exact (below_size (by repeat (first | (with_reducible first | exact HB.out | apply below_alloc | apply pw_below_drewN | apply below_drew1) | exact HB.out))) : w.heap.size ≤ gb166)); clear HO_3; clear HB; have HO_3 := n0_; have HB := n1_; have BK166 := n2_; have GW166 := n3_; have GE166 := n4_; clear n0_ n1_ n2_ n3_ n4_; clear hb hbox hg; have hcz18_0 : w17.cell? ⟨gb166, 0, none⟩ = some (.string (⟨#[]⟩ : ByteArray)) := (blk_cell BK166.out 0).trans rfl; have hcz18_1 : w17.cell? ⟨gb166, 1, none⟩ = some (.string (⟨#[]⟩ : ByteArray)) := (blk_cell BK166.out 1).trans rfl; have hcz18_2 : w17.cell? ⟨gb166, 2, none⟩ = some (.string (⟨#[]⟩ : ByteArray)) := (blk_cell BK166.out 2).trans rfl; have hfz18_0 := blk_frozen BK166.out 0; have hfz18_1 := blk_frozen BK166.out 1; have hfz18_2 := blk_frozen BK166.out 2) | ((with_reducible refine gate_builtin (b := .append) (xs := #[.tmp 28, .tmp 30]) rfl ?_); at_builtin; refine Kd.R_append k28 (w0 := w) w.heap.size rfl (.tmp 28) (.tmp 30) 22 28 (.agg #[(.string ⟨#[]⟩), (.string ⟨#[]⟩), (.string ⟨#[]⟩)]) 48 rfl Tryz.underlying22 info28 rfl (by decide) (by omega) u3 x3_1 (⟨(rd_T28 l0 x4_1).f0, (rd_T28 l0 x4_1).f1, (rd_T28 l0 x4_1).f2⟩ : S28) [.string ((rd_T28 l0 x4_1).f0), .string ((rd_T28 l0 x4_1).f1), .string ((rd_T28 l0 x4_1).f2)] (fun k_ => k_ ≠ gb166) (fun _ => False) rfl (by first | (go_simp; done) | (go_simp; rfl)) ?aP (fun _ hk => hk.elim) ?aF ?aO ?aB ?aS ?aL ?_; (case aP => exact k28_mkM _ _ _ (⟨(rd_T28 l0 x4_1).f0, (rd_T28 l0 x4_1).f1, (rd_T28 l0 x4_1).f2⟩ : S28)); (case aB => exact (by repeat (first | (with_reducible first | exact HB.out | apply below_alloc | apply pw_below_drewN | apply below_drew1 | refine below_set ?_ GE166.out) | exact HB.out))); (case aF => exact (fun k_ hk => Kd.freshB (g := gb166) (o := .cells #[.string ((rd_T28 l0 x4_1).f0), .string ((rd_T28 l0 x4_1).f1), .string ((rd_T28 l0 x4_1).f2)] 28 (0, 0)) (by (with_reducible repeat (first | refine blk_drewN ?_ _ | refine blk_drew ?_ | refine blk_alloc ?_ _)); refine blk_put (cs := #[.string ((rd_T28 l0 x4_1).f0), .string ((rd_T28 l0 x4_1).f1), .string (⟨#[]⟩ : ByteArray)]) ?_ 2 _ rfl; (with_reducible repeat (first | refine blk_drewN ?_ _ | refine blk_drew ?_ | refine blk_alloc ?_ _)); refine blk_put (cs := #[.string ((rd_T28 l0 x4_1).f0), .string (⟨#[]⟩ : ByteArray), .string (⟨#[]⟩ : ByteArray)]) ?_ 1 _ rfl; (with_reducible repeat (first | refine blk_drewN ?_ _ | refine blk_drew ?_ | refine blk_alloc ?_ _)); refine blk_put (cs := #[.string (⟨#[]⟩ : ByteArray), .string (⟨#[]⟩ : ByteArray), .string (⟨#[]⟩ : ByteArray)]) ?_ 0 _ rfl; (with_reducible repeat (first | refine blk_drewN ?_ _ | refine blk_drew ?_ | refine blk_alloc ?_ _)); exact BK166.out) k_ hk)); (case aO => exact (by (with_reducible repeat (first | apply Kd.R_alloc | apply Kd.R_drewN | apply Kd.R_drew)); exact Kd.R_mono (Kd.R_far (p := ⟨gb166, 2, none⟩) (Kd.R_far (p := ⟨gb166, 1, none⟩) (Kd.R_far (p := ⟨gb166, 0, none⟩) (Kd.R_mono HO_3.out (fun k_ hk => (⟨hk, hk.2⟩ : _ ∧ k_ ≠ gb166))) (fun _ hk => hk.2) (.string ((rd_T28 l0 x4_1).f0))) (fun _ hk => hk.2) (.string ((rd_T28 l0 x4_1).f1))) (fun _ hk => hk.2) (.string ((rd_T28 l0 x4_1).f2))) (fun _ hk => hk.1.2))); (case aS => exact (below_size (by repeat (first | (with_reducible first | exact HB.out | apply below_alloc | apply pw_below_drewN | apply below_drew1 | refine below_set ?_ GE166.out) | exact HB.out)))); (case aL => have := LMc16.out; omega); intro v176 w19 ho hb hg hat; rw [← Ny175.out] at ho; have n0_ := Aside0.mk (blk_grown (g := gb166) (o := .cells #[.string ((rd_T28 l0 x4_1).f0), .string ((rd_T28 l0 x4_1).f1), .string ((rd_T28 l0 x4_1).f2)] 28 (0, 0)) (by (with_reducible repeat (first | refine blk_drewN ?_ _ | refine blk_drew ?_ | refine blk_alloc ?_ _)); refine blk_put (cs := #[.string ((rd_T28 l0 x4_1).f0), .string ((rd_T28 l0 x4_1).f1), .string (⟨#[]⟩ : ByteArray)]) ?_ 2 _ rfl; (with_reducible repeat (first | refine blk_drewN ?_ _ | refine blk_drew ?_ | refine blk_alloc ?_ _)); refine blk_put (cs := #[.string ((rd_T28 l0 x4_1).f0), .string (⟨#[]⟩ : ByteArray), .string (⟨#[]⟩ : ByteArray)]) ?_ 1 _ rfl; (with_reducible repeat (first | refine blk_drewN ?_ _ | refine blk_drew ?_ | refine blk_alloc ?_ _)); refine blk_put (cs := #[.string (⟨#[]⟩ : ByteArray), .string (⟨#[]⟩ : ByteArray), .string (⟨#[]⟩ : ByteArray)]) ?_ 0 _ rfl; (with_reducible repeat (first | refine blk_drewN ?_ _ | refine blk_drew ?_ | refine blk_alloc ?_ _)); exact BK166.out) hg (Kd.R_away HO_3.out (fun _ hk => hk.2))); have n1_ := Aside0.mk (hb); have n2_ := Aside0.mk (ho); clear BK166; clear HB; clear HO_3; have BK166 := n0_; have HB := n1_; have HO177 := n2_; clear n0_ n1_ n2_; clear ho hb hg hat))
        go_roundg k1
        case measure => have := HK1.out; omega
        case rel => exact ⟨(y175), (wrap64 (x4_1 + 1)), orf, H', ⟨by have := HK1.out; omega⟩, ⟨by (with_reducible repeat (first | apply Kd.R_alloc | apply Kd.R_drewN | apply Kd.R_drew)); exact Kd.R_mono HO177.out (fun _ hk => trivial)⟩, ⟨by repeat (first | (with_reducible first | exact HB.out | apply below_alloc | apply pw_below_drewN | apply below_drew1 | refine below_set ?_ GE166.out) | exact HB.out)⟩⟩
       ·rw [if_neg c16] at H
        exact absurd H (by simp)
    ·rw [if_neg c3] at H
     exact absurd H (by simp)
   ·rw [if_neg c2] at H
    have c2b0 : decide (x4_1 < (l0.length : Int)) = false := decide_eq_false c2
    clear c2
    obtain rfl := Option.some.inj H
    go_wp2
    go_ret
    exact ⟨_, by first | rfl | (simp [errW_none, errW_some] <;> rfl) | (simp [*, errW_none, errW_some] <;> rfl), by (with_reducible repeat (first | apply Kd.R_alloc | apply Kd.R_drewN | apply Kd.R_drew)); exact HO_3.out, by repeat (first | (with_reducible first | exact HB.out | apply below_alloc | apply pw_below_drewN | apply below_drew1) | exact HB.out)⟩

end Go.Proofs.YtjglpjlbnmpdfaaGreatDoor.PFnModelAdd
