/- The machine side of laws.FnModelAdd: each function of this text answers what its Lean function answers (written for this claim by a program of this session over the kit's print; no condition beyond what each theorem says). -/
import Derived.Test.YtjglpjlbnmpdfaaGreatDoorOFnModelAddx0
import Derived.Test.YtjglpjlbnmpdfaaGreatDoorOFnModelAddx2
import Derived.Test.YtjglpjlbnmpdfaaGreatDoorOFnModelAddx3
import Derived.Test.YtjglpjlbnmpdfaaGreatDoorOFnModelAddx4
namespace Go.Proofs.YtjglpjlbnmpdfaaGreatDoor.PFnModelAdd
open Go.RowKit Go.Proofs.YtjglpjlbnmpdfaaGreatDoorW.PrintWords Go.Proofs.YtjglpjlbnmpdfaaGreatDoorW.PrintLast Go.Proofs.YtjglpjlbnmpdfaaGreatDoorW.PrintMore
attribute [local go_sem] max2_int min2_int max_two min_two max_three min_three max_four min_four   -- for this text's walks alone
set_option linter.unusedVariables false
set_option linter.unusedSimpArgs false

/-! ### spec_Modelled: function 24 -/
mutual
def spec_Modelled.l0 : Nat → List (S28) → Int → Int → Option (Bool)
 | 0, _, _, _ => none
 | k + 1, x0, x3, x4 => if x4 < 5 then ((spec_sections.f).bind fun t122 => (if 0 ≤ x4 then (if x4 < (t122.length : Int) then ((spec_defs.f k x0 ((rd_T71 t122 x4).f1)).bind fun t126 => (if (t126.length : Int) = 0 then (if ((rd_T71 t122 x4).f1).toList = ([103] : List UInt8) then (spec_Modelled.j1 k x0 (wrap64 (x3 + (t126.length : Int))) x4 ((rd_T71 t122 x4).f1) t126 (decide ((t126.length : Int) > 9))) else (spec_Modelled.j1 k x0 (wrap64 (x3 + (t126.length : Int))) x4 ((rd_T71 t122 x4).f1) t126 true)) else (spec_Modelled.j1 k x0 (wrap64 (x3 + (t126.length : Int))) x4 ((rd_T71 t122 x4).f1) t126 (decide ((t126.length : Int) > 9))))) else (none)) else (none))) else (some (x3 == (x0.length : Int)))
def spec_Modelled.j1 : Nat → List (S28) → Int → Int → ByteArray → List (S28) → Bool → Option (Bool)
 | 0, _, _, _, _, _, _ => none
 | k + 1, x0, x3, x4, x5, x6, x36 => if x36 = true then (some false) else (spec_Modelled.l1 k x0 x3 x4 x5 x6 0)
def spec_Modelled.l1 : Nat → List (S28) → Int → Int → ByteArray → List (S28) → Int → Option (Bool)
 | 0, _, _, _, _, _, _ => none
 | k + 1, x0, x3, x4, x5, x6, x7 => if x7 < (x6.length : Int) then (if x7 > 0 then ((spec_Numeral.f k (wrap64 (x7 + 1))).bind fun t129 => (if x5.size + t129.size ≤ 9223372036854775807 then (if 0 ≤ x7 then (if ((rd_T28 x6 x7).f1).toList = (x5 ++ t129).toList then ((spec_Valued.f k ((rd_T28 x6 x7).f2)).bind fun t132 => (if t132 = true then (if x5.toList = ([103] : List UInt8) then (if ((rd_T28 x6 x7).f2).toList = ([95, 44, 32, 95] : List UInt8) then (spec_Modelled.l1 k x0 x3 x4 x5 x6 (wrap64 (x7 + 1))) else (if ((rd_T28 x6 x7).f2).toList = ([95, 44, 32, 95, 44, 32, 95] : List UInt8) then (spec_Modelled.l1 k x0 x3 x4 x5 x6 (wrap64 (x7 + 1))) else (some false))) else (spec_Modelled.l1 k x0 x3 x4 x5 x6 (wrap64 (x7 + 1)))) else (some false))) else (some false)) else (none)) else (none))) else (if 0 ≤ x7 then (if ((rd_T28 x6 x7).f1).toList = x5.toList then ((spec_Valued.f k ((rd_T28 x6 x7).f2)).bind fun t137 => (if t137 = true then (if x5.toList = ([103] : List UInt8) then (if ((rd_T28 x6 x7).f2).toList = ([95, 44, 32, 95] : List UInt8) then (spec_Modelled.l1 k x0 x3 x4 x5 x6 (wrap64 (x7 + 1))) else (if ((rd_T28 x6 x7).f2).toList = ([95, 44, 32, 95, 44, 32, 95] : List UInt8) then (spec_Modelled.l1 k x0 x3 x4 x5 x6 (wrap64 (x7 + 1))) else (some false))) else (spec_Modelled.l1 k x0 x3 x4 x5 x6 (wrap64 (x7 + 1)))) else (some false))) else (some false)) else (none))) else (spec_Modelled.l0 k x0 x3 (wrap64 (x4 + 1)))
end
def spec_Modelled.f (k : Nat) (l0 : List (S28)) : Option (Bool) := spec_Modelled.l0 k l0 0 0
theorem spec_Modelled.mono_l : ∀ k, (∀ y0 y1 y2, LeO (spec_Modelled.l0 k y0 y1 y2) (spec_Modelled.l0 (k + 1) y0 y1 y2)) ∧ (∀ y0 y1 y2 y3 y4 y5, LeO (spec_Modelled.j1 k y0 y1 y2 y3 y4 y5) (spec_Modelled.j1 (k + 1) y0 y1 y2 y3 y4 y5)) ∧ (∀ y0 y1 y2 y3 y4 y5, LeO (spec_Modelled.l1 k y0 y1 y2 y3 y4 y5) (spec_Modelled.l1 (k + 1) y0 y1 y2 y3 y4 y5))
 | 0 => ⟨fun _ _ _ r h => by simp [spec_Modelled.l0] at h, fun _ _ _ _ _ _ r h => by simp [spec_Modelled.j1] at h, fun _ _ _ _ _ _ r h => by simp [spec_Modelled.l1] at h⟩
 | k + 1 => by
  obtain ⟨ih0, ih1, ih2⟩ := spec_Modelled.mono_l k
  refine ⟨?_, ?_, ?_⟩
  ·intro y0 y1 y2
   unfold spec_Modelled.l0
   repeat' first
   | (with_reducible exact ih0 _ _ _)
   | (with_reducible exact ih1 _ _ _ _ _ _)
   | (with_reducible exact ih2 _ _ _ _ _ _)
   | (with_reducible exact spec_Numeral.mono _ _)
   | (with_reducible exact spec_Valued.mono _ _)
   | (with_reducible exact spec_defs.mono _ _ _)
   | (with_reducible exact LeO.refl _)
   | (with_reducible exact LeO.none _)
   | (with_reducible refine LeO.ite ?_ ?_)
   | (with_reducible refine LeO.bind ?_ (fun _ => ?_))
   | exact ih0 _ _ _
   | exact ih1 _ _ _ _ _ _
   | exact ih2 _ _ _ _ _ _
   | exact spec_Numeral.mono _ _
   | exact spec_Valued.mono _ _
   | exact spec_defs.mono _ _ _
   | exact LeO.none _
   | refine LeO.ite ?_ ?_
   | refine LeO.bind ?_ (fun _ => ?_)
  ·intro y0 y1 y2 y3 y4 y5
   unfold spec_Modelled.j1
   repeat' first
   | (with_reducible exact ih0 _ _ _)
   | (with_reducible exact ih1 _ _ _ _ _ _)
   | (with_reducible exact ih2 _ _ _ _ _ _)
   | (with_reducible exact spec_Numeral.mono _ _)
   | (with_reducible exact spec_Valued.mono _ _)
   | (with_reducible exact spec_defs.mono _ _ _)
   | (with_reducible exact LeO.refl _)
   | (with_reducible exact LeO.none _)
   | (with_reducible refine LeO.ite ?_ ?_)
   | (with_reducible refine LeO.bind ?_ (fun _ => ?_))
   | exact ih0 _ _ _
   | exact ih1 _ _ _ _ _ _
   | exact ih2 _ _ _ _ _ _
   | exact spec_Numeral.mono _ _
   | exact spec_Valued.mono _ _
   | exact spec_defs.mono _ _ _
   | exact LeO.none _
   | refine LeO.ite ?_ ?_
   | refine LeO.bind ?_ (fun _ => ?_)
  ·intro y0 y1 y2 y3 y4 y5
   unfold spec_Modelled.l1
   repeat' first
   | (with_reducible exact ih0 _ _ _)
   | (with_reducible exact ih1 _ _ _ _ _ _)
   | (with_reducible exact ih2 _ _ _ _ _ _)
   | (with_reducible exact spec_Numeral.mono _ _)
   | (with_reducible exact spec_Valued.mono _ _)
   | (with_reducible exact spec_defs.mono _ _ _)
   | (with_reducible exact LeO.refl _)
   | (with_reducible exact LeO.none _)
   | (with_reducible refine LeO.ite ?_ ?_)
   | (with_reducible refine LeO.bind ?_ (fun _ => ?_))
   | exact ih0 _ _ _
   | exact ih1 _ _ _ _ _ _
   | exact ih2 _ _ _ _ _ _
   | exact spec_Numeral.mono _ _
   | exact spec_Valued.mono _ _
   | exact spec_defs.mono _ _ _
   | exact LeO.none _
   | refine LeO.ite ?_ ?_
   | refine LeO.bind ?_ (fun _ => ?_)
theorem spec_Modelled.mono : ∀ a0 k, LeO (spec_Modelled.f k a0) (spec_Modelled.f (k + 1) a0) := by
 intro a0 k
 obtain ⟨ih0, ih1, ih2⟩ := spec_Modelled.mono_l k
 unfold spec_Modelled.f
 repeat' first
   | (with_reducible exact ih0 _ _ _)
   | (with_reducible exact ih1 _ _ _ _ _ _)
   | (with_reducible exact ih2 _ _ _ _ _ _)
   | (with_reducible exact spec_Numeral.mono _ _)
   | (with_reducible exact spec_Valued.mono _ _)
   | (with_reducible exact spec_defs.mono _ _ _)
   | (with_reducible exact LeO.refl _)
   | (with_reducible exact LeO.none _)
   | (with_reducible refine LeO.ite ?_ ?_)
   | (with_reducible refine LeO.bind ?_ (fun _ => ?_))
   | exact ih0 _ _ _
   | exact ih1 _ _ _ _ _ _
   | exact ih2 _ _ _ _ _ _
   | exact spec_Numeral.mono _ _
   | exact spec_Valued.mono _ _
   | exact spec_defs.mono _ _ _
   | exact LeO.none _
   | refine LeO.ite ?_ ?_
   | refine LeO.bind ?_ (fun _ => ?_)
set_option maxHeartbeats 8000000 in
set_option maxRecDepth 100000 in
theorem spec_Modelled.calls (k : Nat) (A0 : Option Addr) (c0 : Nat) (l0 : List (S28)) (r : Bool) (w : World) (hr0 : Kd.C k28 w A0 l0.length l0) (hc0 : l0.length ≤ c0) (h : spec_Modelled.f k l0 = some r) :
  Calls Tryz.prog 24 #[.slice A0 l0.length c0] w fun e w' => e = .returned (.bool r) ∧ Below w.heap.size w w' := by
 have HR0 := Aside0.mk hr0
 have HC0 := Aside0.mk hc0
 clear hr0 hc0
 have HB := Aside0.mk (Below.refl w.heap.size w)
 have H : (spec_Modelled.l0 k l0 0 0) = some r := h
 clear h
 have H' := Aside0.mk H
 clear H
 go_enter Tryz.func24, Tryz.ntmps24
 go_wp2
 go_loopg [3, 4] k (fun kq v3 v4 w' => ∃ (x3_1 : Int) (x4_1 : Int), v3 = .int .i64 x3_1 ∧ v4 = .int .i64 x4_1 ∧ Aside0 (spec_Modelled.l0 kq l0 x3_1 x4_1 = some r) ∧ Aside0 (kq ≤ k) ∧ Aside0 (Below w.heap.size w w'))
 case atStart => exact ⟨(0), (0), orf, orf, H', ⟨Nat.le_refl _⟩, ⟨by repeat (first | (with_reducible first | exact HB.out | apply below_alloc | apply pw_below_drewN | apply below_drew1) | exact HB.out)⟩⟩
 case round =>
  clear H'
  obtain ⟨x3_1, x4_1, rfl, rfl, HA, HK1, HB⟩ := hrel
  cases gk with
  | zero => exact absurd HA.out (by simp [spec_Modelled.l0])
  | succ k1 =>
   have H := HA.out
   clear HA
   simp only [spec_Modelled.l0] at H
   by_cases c2 : x4_1 < 5
   ·rw [if_pos c2] at H
    have c2b0 : decide (x4_1 < 5) = true := decide_eq_true c2
    clear c2
    replace H := Option.bind_eq_some_iff.mp H
    obtain ⟨t122, A30, H⟩ := H
    replace H : (if 0 ≤ x4_1 then (if x4_1 < (t122.length : Int) then ((spec_defs.f k1 l0 ((rd_T71 t122 x4_1).f1)).bind fun t126 => (if (t126.length : Int) = 0 then (if ((rd_T71 t122 x4_1).f1).toList = ([103] : List UInt8) then (spec_Modelled.j1 k1 l0 (wrap64 (x3_1 + (t126.length : Int))) x4_1 ((rd_T71 t122 x4_1).f1) t126 (decide ((t126.length : Int) > 9))) else (spec_Modelled.j1 k1 l0 (wrap64 (x3_1 + (t126.length : Int))) x4_1 ((rd_T71 t122 x4_1).f1) t126 true)) else (spec_Modelled.j1 k1 l0 (wrap64 (x3_1 + (t126.length : Int))) x4_1 ((rd_T71 t122 x4_1).f1) t126 (decide ((t126.length : Int) > 9))))) else (none)) else (none)) = some r := H
    have A3 := Aside0.mk A30
    clear A30
    by_cases c4 : 0 ≤ x4_1
    ·rw [if_pos c4] at H
     have c4b0 : decide (0 ≤ x4_1) = true := decide_eq_true c4
     clear c4
     by_cases c5 : x4_1 < (t122.length : Int)
     ·rw [if_pos c5] at H
      have c5b0 : decide (x4_1 < (t122.length : Int)) = true := decide_eq_true c5
      clear c5
      replace H := Option.bind_eq_some_iff.mp H
      obtain ⟨t126, A60, H⟩ := H
      replace H : (if (t126.length : Int) = 0 then (if ((rd_T71 t122 x4_1).f1).toList = ([103] : List UInt8) then (spec_Modelled.j1 k1 l0 (wrap64 (x3_1 + (t126.length : Int))) x4_1 ((rd_T71 t122 x4_1).f1) t126 (decide ((t126.length : Int) > 9))) else (spec_Modelled.j1 k1 l0 (wrap64 (x3_1 + (t126.length : Int))) x4_1 ((rd_T71 t122 x4_1).f1) t126 true)) else (spec_Modelled.j1 k1 l0 (wrap64 (x3_1 + (t126.length : Int))) x4_1 ((rd_T71 t122 x4_1).f1) t126 (decide ((t126.length : Int) > 9)))) = some r := H
      have A6 := Aside0.mk A60
      clear A60
      have HC7 := Aside0.mk H
      clear H
      go_upto_region 8 with (first | ((with_reducible refine gate_callee (f := 28) rfl ?_); refine goesL_ (some 13) rfl rfl Tryz.func28 (by kernel_rfl) rfl #[] rfl (by (try simp only [List.map_toArray, List.map_cons, List.map_nil]); first | done | rfl | (simp only [List.length_drop, List.length_take]; rfl)) ?_; (with_reducible refine (spec_sections.calls  t122 _ A3.out).mono ?_); rintro e w8 ⟨v123, rfl, ho0, hb⟩; refine ⟨_, rfl, ?_⟩; have n0_ := Aside0.mk (Kd.R_lower ho0 (below_size (by repeat (first | (with_reducible first | exact HB.out | apply below_alloc | apply pw_below_drewN | apply below_drew1) | exact HB.out)))); have n1_ := Aside0.mk (below_step (by repeat (first | (with_reducible first | exact HB.out | apply below_alloc | apply pw_below_drewN | apply below_drew1) | exact HB.out)) hb); clear HB; have HO124 := n0_; have HB := n1_; clear n0_ n1_; (try clear hb); (try clear hb2); (try clear hk); (try clear hi); (try clear ho0); obtain ⟨Ao9, co9, eo9⟩ := Kd.R_slice HO124.out; subst eo9; have p125 : 0 ≤ (x4_1 : Int) := odt; have q125 : x4_1 < (t122.length : Int) := odt; obtain ⟨ad125, e125, hx125_0, hx125_1⟩ := at_T71 (Kd.R_reads' HO124.out).2.2 x4_1 p125 q125; cases e125; replace p125 := eq_true p125; replace q125 := eq_true q125) | ((with_reducible refine gate_callee (f := 29) rfl ?_); refine goesL_ (some 20) rfl rfl Tryz.func29 (by kernel_rfl) rfl #[.slice A0 l0.length c0, .string ((rd_T71 t122 x4_1).f1)] rfl (by (try simp only [List.map_toArray, List.map_cons, List.map_nil]); first | done | rfl | (simp only [List.length_drop, List.length_take]; rfl)) ?_; (with_reducible refine (spec_defs.calls k1 _ _ l0 ((rd_T71 t122 x4_1).f1) t126 _ ?side1 ?side2 A6.out).mono ?_); (case side1 => repeat (first | exact (Kd.C_below HR0.out HB.out) | (with_reducible refine Kd.C_alloc ?_ _) | (with_reducible refine Kd.C_drewN ?_ _) | (with_reducible refine Kd.C_drew ?_))); (case side2 => exact HC0.out); rintro e w10 ⟨v127, rfl, ho0, hb⟩; refine ⟨_, rfl, ?_⟩; have n0_ := Aside0.mk (Kd.R_below (by (with_reducible repeat (first | apply Kd.R_alloc | apply Kd.R_drewN | apply Kd.R_drew)); exact HO124.out) hb); have n1_ := Aside0.mk (Kd.R_lower ho0 (below_size (by repeat (first | (with_reducible first | exact HB.out | apply below_alloc | apply pw_below_drewN | apply below_drew1) | exact HB.out)))); have n2_ := Aside0.mk (below_step (by repeat (first | (with_reducible first | exact HB.out | apply below_alloc | apply pw_below_drewN | apply below_drew1) | exact HB.out)) hb); clear HO124; clear HB; have HO124 := n0_; have HO128 := n1_; have HB := n2_; clear n0_ n1_ n2_; (try clear hb); (try clear hb2); (try clear hk); (try clear hi); (try clear ho0); obtain ⟨Ao11, co11, eo11⟩ := Kd.R_slice HO128.out; subst eo11))
      (try simp only [Act.put, List.setIfInBounds_toArray, List.set_cons_zero, List.set_cons_succ])
      go_cut [36] (fun v36 wc => ∃ (kq : Nat) (x36_6 : Bool), v36 = .bool x36_6 ∧ Aside0 (spec_Modelled.j1 kq l0 (wrap64 (x3_1 + (t126.length : Int))) x4_1 ((rd_T71 t122 x4_1).f1) t126 x36_6 = some r) ∧ Aside0 (kq ≤ k1) ∧ Aside0 (Kd.R k28 28 wc w.heap.size (fun _ => True) (.slice Ao11 t126.length co11) t126) ∧ Aside0 (Below w.heap.size w wc))
      case first =>
       have H := HC7.out
       clear HC7
       by_cases c12 : (t126.length : Int) = 0
       ·rw [if_pos c12] at H
        have c12b0 : ((t126.length : Int) == 0) = true := beq_iff_eq.mpr c12
        have c12b1 : ((t126.length : Int) != 0) = false := bne_eq_false_iff_eq.mpr c12
        clear c12
        (first | rw [c12b0] | (simp only [i64_w, i32_w]; rw [c12b0]) | skip)
        by_cases c13 : ((rd_T71 t122 x4_1).f1).toList = ([103] : List UInt8)
        ·rw [if_pos c13] at H
         have c13b0 : (((rd_T71 t122 x4_1).f1).toList == ([103] : List UInt8)) = true := beq_iff_eq.mpr c13
         have c13b1 : (((rd_T71 t122 x4_1).f1).toList != ([103] : List UInt8)) = false := bne_eq_false_iff_eq.mpr c13
         clear c13
         have H' := Aside0.mk H
         clear H
         go_wp2
         go_meet
         case rel => exact ⟨_, (decide ((t126.length : Int) > 9)), orf, H', ⟨by have := HK1.out; first | omega | exact Nat.le_refl _⟩, ⟨by (with_reducible repeat (first | apply Kd.R_alloc | apply Kd.R_drewN | apply Kd.R_drew)); exact HO128.out⟩, ⟨by repeat (first | (with_reducible first | exact HB.out | apply below_alloc | apply pw_below_drewN | apply below_drew1) | exact HB.out)⟩⟩
        ·rw [if_neg c13] at H
         have c13b0 : (((rd_T71 t122 x4_1).f1).toList == ([103] : List UInt8)) = false := beq_eq_false_iff_ne.mpr c13
         have c13b1 : (((rd_T71 t122 x4_1).f1).toList != ([103] : List UInt8)) = true := bne_iff_ne.mpr c13
         have H' := Aside0.mk H
         clear H
         go_wp2
         go_meet
         case rel => exact ⟨_, (true), orf, H', ⟨by have := HK1.out; first | omega | exact Nat.le_refl _⟩, ⟨by (with_reducible repeat (first | apply Kd.R_alloc | apply Kd.R_drewN | apply Kd.R_drew)); exact HO128.out⟩, ⟨by repeat (first | (with_reducible first | exact HB.out | apply below_alloc | apply pw_below_drewN | apply below_drew1) | exact HB.out)⟩⟩
       ·rw [if_neg c12] at H
        have c12b0 : ((t126.length : Int) == 0) = false := beq_eq_false_iff_ne.mpr c12
        have c12b1 : ((t126.length : Int) != 0) = true := bne_iff_ne.mpr c12
        have c12b2 : ¬ (t126 = []) := fun h_ => c12 (by rw [h_]; rfl)
        (first | rw [c12b0] | (simp only [i64_w, i32_w]; rw [c12b0]) | skip)
        have H' := Aside0.mk H
        clear H
        go_wp2
        go_meet
        case rel => exact ⟨_, (decide ((t126.length : Int) > 9)), orf, H', ⟨by have := HK1.out; first | omega | exact Nat.le_refl _⟩, ⟨by (with_reducible repeat (first | apply Kd.R_alloc | apply Kd.R_drewN | apply Kd.R_drew)); exact HO128.out⟩, ⟨by repeat (first | (with_reducible first | exact HB.out | apply below_alloc | apply pw_below_drewN | apply below_drew1) | exact HB.out)⟩⟩
      case rest =>
       clear HC7
       try clear c1
       try clear p1
       try clear q1
       try clear hx1
       try clear c2
       try clear c2b0
       try clear p2
       try clear c4
       try clear c4b0
       try clear c5
       try clear c5b0
       try clear p6
       try clear c12
       try clear c12b0
       try clear c12b1
       try clear c12b2
       try clear p12
       try clear q12
       try clear hx12
       try clear c13
       try clear c13b0
       try clear c13b1
       try clear hx125_0
       try clear hx125_1
       try clear p125
       try clear q125
       obtain ⟨kq, x36_6, rfl, HA, HJ6, HO_6, HB⟩ := hcut
       cases kq with
       | zero => exact absurd HA.out (by simp [spec_Modelled.j1])
       | succ kj6 =>
        have H := HA.out
        clear HA
        simp only [spec_Modelled.j1] at H
        by_cases c14 : x36_6 = true
        ·subst c14
         have H1 : (some false) = some r := by rw [if_pos rfl] at H; exact H
         clear H
         have H := H1
         clear H1
         obtain rfl := Option.some.inj H
         go_wp2
         go_ret
         exact ⟨by first | rfl | (simp [errW_none, errW_some] <;> rfl) | (simp [*, errW_none, errW_some] <;> rfl), by repeat (first | (with_reducible first | exact HB.out | apply below_alloc | apply pw_below_drewN | apply below_drew1) | exact HB.out)⟩
        ·replace c14 := Bool.eq_false_iff.mpr c14
         subst c14
         have H1 : (spec_Modelled.l1 kj6 l0 (wrap64 (x3_1 + (t126.length : Int))) x4_1 ((rd_T71 t122 x4_1).f1) t126 0) = some r := by rw [if_neg (show ¬ (false = true) by decide)] at H; exact H
         clear H
         have H := H1
         clear H1
         have H' := Aside0.mk H
         clear H
         go_wp2
         go_loopg [7] kj6 (fun kq v7 w' => ∃ (x7_3 : Int), v7 = .int .i64 x7_3 ∧ Aside0 (spec_Modelled.l1 kq l0 (wrap64 (x3_1 + (t126.length : Int))) x4_1 ((rd_T71 t122 x4_1).f1) t126 x7_3 = some r) ∧ Aside0 (kq ≤ kj6) ∧ Aside0 (Kd.R k28 28 w' w.heap.size (fun _ => True) (.slice Ao11 t126.length co11) t126) ∧ Aside0 (Below w.heap.size w w'))
         case atStart => exact ⟨(0), orf, H', ⟨Nat.le_refl _⟩, ⟨by (with_reducible repeat (first | apply Kd.R_alloc | apply Kd.R_drewN | apply Kd.R_drew)); exact HO_6.out⟩, ⟨by repeat (first | (with_reducible first | exact HB.out | apply below_alloc | apply pw_below_drewN | apply below_drew1) | exact HB.out)⟩⟩
         case round =>
          clear H'
          try clear c1
          try clear p1
          try clear q1
          try clear hx1
          try clear c2
          try clear c2b0
          try clear p2
          try clear c4
          try clear c4b0
          try clear c5
          try clear c5b0
          try clear p6
          try clear c12
          try clear c12b0
          try clear c12b1
          try clear c12b2
          try clear p12
          try clear q12
          try clear hx12
          try clear c13
          try clear c13b0
          try clear c13b1
          try clear c14
          try clear hx125_0
          try clear hx125_1
          try clear p1
          try clear p12
          try clear p125
          try clear p2
          try clear p6
          try clear q1
          try clear q12
          try clear q125
          obtain ⟨x7_3, rfl, HA, HK3, HO_6, HB⟩ := hrel
          cases gk with
          | zero => exact absurd HA.out (by simp [spec_Modelled.l1])
          | succ k3 =>
           have H := HA.out
           clear HA
           simp only [spec_Modelled.l1] at H
           by_cases c15 : x7_3 < (t126.length : Int)
           ·rw [if_pos c15] at H
            have c15b0 : decide (x7_3 < (t126.length : Int)) = true := decide_eq_true c15
            clear c15
            by_cases c16 : x7_3 > 0
            ·rw [if_pos c16] at H
             have c16b0 : decide (0 < x7_3) = true := decide_eq_true c16
             clear c16
             replace H := Option.bind_eq_some_iff.mp H
             obtain ⟨t129, A170, H⟩ := H
             replace H : (if ((rd_T71 t122 x4_1).f1).size + t129.size ≤ 9223372036854775807 then (if 0 ≤ x7_3 then (if ((rd_T28 t126 x7_3).f1).toList = (((rd_T71 t122 x4_1).f1) ++ t129).toList then ((spec_Valued.f k3 ((rd_T28 t126 x7_3).f2)).bind fun t132 => (if t132 = true then (if ((rd_T71 t122 x4_1).f1).toList = ([103] : List UInt8) then (if ((rd_T28 t126 x7_3).f2).toList = ([95, 44, 32, 95] : List UInt8) then (spec_Modelled.l1 k3 l0 (wrap64 (x3_1 + (t126.length : Int))) x4_1 ((rd_T71 t122 x4_1).f1) t126 (wrap64 (x7_3 + 1))) else (if ((rd_T28 t126 x7_3).f2).toList = ([95, 44, 32, 95, 44, 32, 95] : List UInt8) then (spec_Modelled.l1 k3 l0 (wrap64 (x3_1 + (t126.length : Int))) x4_1 ((rd_T71 t122 x4_1).f1) t126 (wrap64 (x7_3 + 1))) else (some false))) else (spec_Modelled.l1 k3 l0 (wrap64 (x3_1 + (t126.length : Int))) x4_1 ((rd_T71 t122 x4_1).f1) t126 (wrap64 (x7_3 + 1)))) else (some false))) else (some false)) else (none)) else (none)) = some r := H
             have A17 := Aside0.mk A170
             clear A170
             by_cases c18 : ((rd_T71 t122 x4_1).f1).size + t129.size ≤ 9223372036854775807
             ·rw [if_pos c18] at H
              have c18b0 := eq_true c18
              have c18b1 : decide (((rd_T71 t122 x4_1).f1).size + t129.size ≤ 9223372036854775807) = true := decide_eq_true c18
              try have c18b2 : (9223372036854775807 < ((rd_T71 t122 x4_1).f1).size + t129.size) = False := eq_false (Nat.not_lt.2 c18)
              by_cases c19 : 0 ≤ x7_3
              ·rw [if_pos c19] at H
               have c19b0 : decide (0 ≤ x7_3) = true := decide_eq_true c19
               clear c19
               by_cases c20 : ((rd_T28 t126 x7_3).f1).toList = (((rd_T71 t122 x4_1).f1) ++ t129).toList
               ·rw [if_pos c20] at H
                have c20b0 : (((rd_T28 t126 x7_3).f1).toList == (((rd_T71 t122 x4_1).f1) ++ t129).toList) = true := beq_iff_eq.mpr c20
                have c20b1 : (((rd_T28 t126 x7_3).f1).toList != (((rd_T71 t122 x4_1).f1) ++ t129).toList) = false := bne_eq_false_iff_eq.mpr c20
                clear c20
                replace H := Option.bind_eq_some_iff.mp H
                obtain ⟨t132, A210, H⟩ := H
                replace H : (if t132 = true then (if ((rd_T71 t122 x4_1).f1).toList = ([103] : List UInt8) then (if ((rd_T28 t126 x7_3).f2).toList = ([95, 44, 32, 95] : List UInt8) then (spec_Modelled.l1 k3 l0 (wrap64 (x3_1 + (t126.length : Int))) x4_1 ((rd_T71 t122 x4_1).f1) t126 (wrap64 (x7_3 + 1))) else (if ((rd_T28 t126 x7_3).f2).toList = ([95, 44, 32, 95, 44, 32, 95] : List UInt8) then (spec_Modelled.l1 k3 l0 (wrap64 (x3_1 + (t126.length : Int))) x4_1 ((rd_T71 t122 x4_1).f1) t126 (wrap64 (x7_3 + 1))) else (some false))) else (spec_Modelled.l1 k3 l0 (wrap64 (x3_1 + (t126.length : Int))) x4_1 ((rd_T71 t122 x4_1).f1) t126 (wrap64 (x7_3 + 1)))) else (some false)) = some r := H
                have A21 := Aside0.mk A210
                clear A210
                by_cases c22 : t132 = true
                ·subst c22
                 have H1 : (if ((rd_T71 t122 x4_1).f1).toList = ([103] : List UInt8) then (if ((rd_T28 t126 x7_3).f2).toList = ([95, 44, 32, 95] : List UInt8) then (spec_Modelled.l1 k3 l0 (wrap64 (x3_1 + (t126.length : Int))) x4_1 ((rd_T71 t122 x4_1).f1) t126 (wrap64 (x7_3 + 1))) else (if ((rd_T28 t126 x7_3).f2).toList = ([95, 44, 32, 95, 44, 32, 95] : List UInt8) then (spec_Modelled.l1 k3 l0 (wrap64 (x3_1 + (t126.length : Int))) x4_1 ((rd_T71 t122 x4_1).f1) t126 (wrap64 (x7_3 + 1))) else (some false))) else (spec_Modelled.l1 k3 l0 (wrap64 (x3_1 + (t126.length : Int))) x4_1 ((rd_T71 t122 x4_1).f1) t126 (wrap64 (x7_3 + 1)))) = some r := by rw [if_pos rfl] at H; exact H
                 clear H
                 have H := H1
                 clear H1
                 by_cases c23 : ((rd_T71 t122 x4_1).f1).toList = ([103] : List UInt8)
                 ·rw [if_pos c23] at H
                  have c23b0 : (((rd_T71 t122 x4_1).f1).toList == ([103] : List UInt8)) = true := beq_iff_eq.mpr c23
                  have c23b1 : (((rd_T71 t122 x4_1).f1).toList != ([103] : List UInt8)) = false := bne_eq_false_iff_eq.mpr c23
                  clear c23
                  by_cases c24 : ((rd_T28 t126 x7_3).f2).toList = ([95, 44, 32, 95] : List UInt8)
                  ·rw [if_pos c24] at H
                   have c24b0 : (((rd_T28 t126 x7_3).f2).toList == ([95, 44, 32, 95] : List UInt8)) = true := beq_iff_eq.mpr c24
                   have c24b1 : (((rd_T28 t126 x7_3).f2).toList != ([95, 44, 32, 95] : List UInt8)) = false := bne_eq_false_iff_eq.mpr c24
                   clear c24
                   have H' := Aside0.mk H
                   clear H
                   go_wp2_with (first | ((with_reducible refine gate_callee (f := 48) rfl ?_); refine goesL_ (some 49) rfl rfl Tryz.func48 (by kernel_rfl) rfl #[.int .i64 (wrap64 (x7_3 + 1))] rfl (by (try simp only [List.map_toArray, List.map_cons, List.map_nil]); first | done | rfl | (simp only [List.length_drop, List.length_take]; rfl)) ?_; (with_reducible refine (spec_Numeral.calls k3 (wrap64 (x7_3 + 1)) t129 _ A17.out).mono ?_); rintro e w25 ⟨rfl, hb⟩; refine ⟨_, rfl, ?_⟩; have n0_ := Aside0.mk (Kd.R_below (by (with_reducible repeat (first | apply Kd.R_alloc | apply Kd.R_drewN | apply Kd.R_drew)); exact HO_6.out) hb); have n1_ := Aside0.mk (below_step (by repeat (first | (with_reducible first | exact HB.out | apply below_alloc | apply pw_below_drewN | apply below_drew1) | exact HB.out)) hb); clear HO_6; clear HB; have HO_6 := n0_; have HB := n1_; clear n0_ n1_; (try clear hb); (try clear hb2); (try clear hk); (try clear hi); have p130 : 0 ≤ (x7_3 : Int) := odt; have q130 : x7_3 < (t126.length : Int) := odt; obtain ⟨ad130, e130, hx130_0, hx130_1, hx130_2⟩ := at_T28 (Kd.R_reads' HO_6.out).2.2 x7_3 p130 q130; cases e130; replace p130 := eq_true p130; replace q130 := eq_true q130; have p131 : 0 ≤ (x7_3 : Int) := odt; have q131 : x7_3 < (t126.length : Int) := odt; obtain ⟨ad131, e131, hx131_0, hx131_1, hx131_2⟩ := at_T28 (Kd.R_reads' HO_6.out).2.2 x7_3 p131 q131; obtain rfl : ad130 = ad131 := (by injection e131); replace p131 := eq_true p131; replace q131 := eq_true q131) | (go_at_call 49; (with_reducible refine (spec_Valued.calls k3 ((rd_T28 t126 x7_3).f2) true _ A21.out).mono ?_); rintro e w' ⟨rfl, ⟨nd, rfl⟩⟩; have p133 : 0 ≤ (x7_3 : Int) := odt; have q133 : x7_3 < (t126.length : Int) := odt; obtain ⟨ad133, e133, hx133_0, hx133_1, hx133_2⟩ := at_T28 (Kd.R_reads' HO_6.out).2.2 x7_3 p133 q133; obtain rfl : ad130 = ad133 := (by injection e133); replace p133 := eq_true p133; replace q133 := eq_true q133))
                   go_roundg k3
                   case measure => have := HK1.out; have := HJ6.out; have := HK3.out; omega
                   case rel => exact ⟨(wrap64 (x7_3 + 1)), orf, H', ⟨by have := HK1.out; have := HJ6.out; have := HK3.out; omega⟩, ⟨by (with_reducible repeat (first | apply Kd.R_alloc | apply Kd.R_drewN | apply Kd.R_drew)); exact HO_6.out⟩, ⟨by repeat (first | (with_reducible first | exact HB.out | apply below_alloc | apply pw_below_drewN | apply below_drew1) | exact HB.out)⟩⟩
                  ·rw [if_neg c24] at H
                   have c24b0 : (((rd_T28 t126 x7_3).f2).toList == ([95, 44, 32, 95] : List UInt8)) = false := beq_eq_false_iff_ne.mpr c24
                   have c24b1 : (((rd_T28 t126 x7_3).f2).toList != ([95, 44, 32, 95] : List UInt8)) = true := bne_iff_ne.mpr c24
                   by_cases c26 : ((rd_T28 t126 x7_3).f2).toList = ([95, 44, 32, 95, 44, 32, 95] : List UInt8)
                   ·rw [if_pos c26] at H
                    have c26b0 : (((rd_T28 t126 x7_3).f2).toList == ([95, 44, 32, 95, 44, 32, 95] : List UInt8)) = true := beq_iff_eq.mpr c26
                    have c26b1 : (((rd_T28 t126 x7_3).f2).toList != ([95, 44, 32, 95, 44, 32, 95] : List UInt8)) = false := bne_eq_false_iff_eq.mpr c26
                    clear c26
                    have H' := Aside0.mk H
                    clear H
                    go_wp2_with (first | ((with_reducible refine gate_callee (f := 48) rfl ?_); refine goesL_ (some 49) rfl rfl Tryz.func48 (by kernel_rfl) rfl #[.int .i64 (wrap64 (x7_3 + 1))] rfl (by (try simp only [List.map_toArray, List.map_cons, List.map_nil]); first | done | rfl | (simp only [List.length_drop, List.length_take]; rfl)) ?_; (with_reducible refine (spec_Numeral.calls k3 (wrap64 (x7_3 + 1)) t129 _ A17.out).mono ?_); rintro e w27 ⟨rfl, hb⟩; refine ⟨_, rfl, ?_⟩; have n0_ := Aside0.mk (Kd.R_below (by (with_reducible repeat (first | apply Kd.R_alloc | apply Kd.R_drewN | apply Kd.R_drew)); exact HO_6.out) hb); have n1_ := Aside0.mk (below_step (by repeat (first | (with_reducible first | exact HB.out | apply below_alloc | apply pw_below_drewN | apply below_drew1) | exact HB.out)) hb); clear HO_6; clear HB; have HO_6 := n0_; have HB := n1_; clear n0_ n1_; (try clear hb); (try clear hb2); (try clear hk); (try clear hi); have p130 : 0 ≤ (x7_3 : Int) := odt; have q130 : x7_3 < (t126.length : Int) := odt; obtain ⟨ad130, e130, hx130_0, hx130_1, hx130_2⟩ := at_T28 (Kd.R_reads' HO_6.out).2.2 x7_3 p130 q130; cases e130; replace p130 := eq_true p130; replace q130 := eq_true q130; have p131 : 0 ≤ (x7_3 : Int) := odt; have q131 : x7_3 < (t126.length : Int) := odt; obtain ⟨ad131, e131, hx131_0, hx131_1, hx131_2⟩ := at_T28 (Kd.R_reads' HO_6.out).2.2 x7_3 p131 q131; obtain rfl : ad130 = ad131 := (by injection e131); replace p131 := eq_true p131; replace q131 := eq_true q131) | (go_at_call 49; (with_reducible refine (spec_Valued.calls k3 ((rd_T28 t126 x7_3).f2) true _ A21.out).mono ?_); rintro e w' ⟨rfl, ⟨nd, rfl⟩⟩; have p133 : 0 ≤ (x7_3 : Int) := odt; have q133 : x7_3 < (t126.length : Int) := odt; obtain ⟨ad133, e133, hx133_0, hx133_1, hx133_2⟩ := at_T28 (Kd.R_reads' HO_6.out).2.2 x7_3 p133 q133; obtain rfl : ad130 = ad133 := (by injection e133); replace p133 := eq_true p133; replace q133 := eq_true q133; have p134 : 0 ≤ (x7_3 : Int) := odt; have q134 : x7_3 < (t126.length : Int) := odt; obtain ⟨ad134, e134, hx134_0, hx134_1, hx134_2⟩ := at_T28 (Kd.R_reads' HO_6.out).2.2 x7_3 p134 q134; obtain rfl : ad130 = ad134 := (by injection e134); replace p134 := eq_true p134; replace q134 := eq_true q134))
                    go_roundg k3
                    case measure => have := HK1.out; have := HJ6.out; have := HK3.out; omega
                    case rel => exact ⟨(wrap64 (x7_3 + 1)), orf, H', ⟨by have := HK1.out; have := HJ6.out; have := HK3.out; omega⟩, ⟨by (with_reducible repeat (first | apply Kd.R_alloc | apply Kd.R_drewN | apply Kd.R_drew)); exact HO_6.out⟩, ⟨by repeat (first | (with_reducible first | exact HB.out | apply below_alloc | apply pw_below_drewN | apply below_drew1) | exact HB.out)⟩⟩
                   ·rw [if_neg c26] at H
                    have c26b0 : (((rd_T28 t126 x7_3).f2).toList == ([95, 44, 32, 95, 44, 32, 95] : List UInt8)) = false := beq_eq_false_iff_ne.mpr c26
                    have c26b1 : (((rd_T28 t126 x7_3).f2).toList != ([95, 44, 32, 95, 44, 32, 95] : List UInt8)) = true := bne_iff_ne.mpr c26
                    obtain rfl := Option.some.inj H
                    go_wp2_with (first | ((with_reducible refine gate_callee (f := 48) rfl ?_); refine goesL_ (some 49) rfl rfl Tryz.func48 (by kernel_rfl) rfl #[.int .i64 (wrap64 (x7_3 + 1))] rfl (by (try simp only [List.map_toArray, List.map_cons, List.map_nil]); first | done | rfl | (simp only [List.length_drop, List.length_take]; rfl)) ?_; (with_reducible refine (spec_Numeral.calls k3 (wrap64 (x7_3 + 1)) t129 _ A17.out).mono ?_); rintro e w28 ⟨rfl, hb⟩; refine ⟨_, rfl, ?_⟩; have n0_ := Aside0.mk (Kd.R_below (by (with_reducible repeat (first | apply Kd.R_alloc | apply Kd.R_drewN | apply Kd.R_drew)); exact HO_6.out) hb); have n1_ := Aside0.mk (below_step (by repeat (first | (with_reducible first | exact HB.out | apply below_alloc | apply pw_below_drewN | apply below_drew1) | exact HB.out)) hb); clear HO_6; clear HB; have HO_6 := n0_; have HB := n1_; clear n0_ n1_; (try clear hb); (try clear hb2); (try clear hk); (try clear hi); have p130 : 0 ≤ (x7_3 : Int) := odt; have q130 : x7_3 < (t126.length : Int) := odt; obtain ⟨ad130, e130, hx130_0, hx130_1, hx130_2⟩ := at_T28 (Kd.R_reads' HO_6.out).2.2 x7_3 p130 q130; cases e130; replace p130 := eq_true p130; replace q130 := eq_true q130; have p131 : 0 ≤ (x7_3 : Int) := odt; have q131 : x7_3 < (t126.length : Int) := odt; obtain ⟨ad131, e131, hx131_0, hx131_1, hx131_2⟩ := at_T28 (Kd.R_reads' HO_6.out).2.2 x7_3 p131 q131; obtain rfl : ad130 = ad131 := (by injection e131); replace p131 := eq_true p131; replace q131 := eq_true q131) | (go_at_call 49; (with_reducible refine (spec_Valued.calls k3 ((rd_T28 t126 x7_3).f2) true _ A21.out).mono ?_); rintro e w' ⟨rfl, ⟨nd, rfl⟩⟩; have p133 : 0 ≤ (x7_3 : Int) := odt; have q133 : x7_3 < (t126.length : Int) := odt; obtain ⟨ad133, e133, hx133_0, hx133_1, hx133_2⟩ := at_T28 (Kd.R_reads' HO_6.out).2.2 x7_3 p133 q133; obtain rfl : ad130 = ad133 := (by injection e133); replace p133 := eq_true p133; replace q133 := eq_true q133; have p134 : 0 ≤ (x7_3 : Int) := odt; have q134 : x7_3 < (t126.length : Int) := odt; obtain ⟨ad134, e134, hx134_0, hx134_1, hx134_2⟩ := at_T28 (Kd.R_reads' HO_6.out).2.2 x7_3 p134 q134; obtain rfl : ad130 = ad134 := (by injection e134); replace p134 := eq_true p134; replace q134 := eq_true q134))
                    go_ret
                    exact ⟨by first | rfl | (simp [errW_none, errW_some] <;> rfl) | (simp [*, errW_none, errW_some] <;> rfl), by repeat (first | (with_reducible first | exact HB.out | apply below_alloc | apply pw_below_drewN | apply below_drew1) | exact HB.out)⟩
                 ·rw [if_neg c23] at H
                  have c23b0 : (((rd_T71 t122 x4_1).f1).toList == ([103] : List UInt8)) = false := beq_eq_false_iff_ne.mpr c23
                  have c23b1 : (((rd_T71 t122 x4_1).f1).toList != ([103] : List UInt8)) = true := bne_iff_ne.mpr c23
                  have H' := Aside0.mk H
                  clear H
                  go_wp2_with (first | ((with_reducible refine gate_callee (f := 48) rfl ?_); refine goesL_ (some 49) rfl rfl Tryz.func48 (by kernel_rfl) rfl #[.int .i64 (wrap64 (x7_3 + 1))] rfl (by (try simp only [List.map_toArray, List.map_cons, List.map_nil]); first | done | rfl | (simp only [List.length_drop, List.length_take]; rfl)) ?_; (with_reducible refine (spec_Numeral.calls k3 (wrap64 (x7_3 + 1)) t129 _ A17.out).mono ?_); rintro e w29 ⟨rfl, hb⟩; refine ⟨_, rfl, ?_⟩; have n0_ := Aside0.mk (Kd.R_below (by (with_reducible repeat (first | apply Kd.R_alloc | apply Kd.R_drewN | apply Kd.R_drew)); exact HO_6.out) hb); have n1_ := Aside0.mk (below_step (by repeat (first | (with_reducible first | exact HB.out | apply below_alloc | apply pw_below_drewN | apply below_drew1) | exact HB.out)) hb); clear HO_6; clear HB; have HO_6 := n0_; have HB := n1_; clear n0_ n1_; (try clear hb); (try clear hb2); (try clear hk); (try clear hi); have p130 : 0 ≤ (x7_3 : Int) := odt; have q130 : x7_3 < (t126.length : Int) := odt; obtain ⟨ad130, e130, hx130_0, hx130_1, hx130_2⟩ := at_T28 (Kd.R_reads' HO_6.out).2.2 x7_3 p130 q130; cases e130; replace p130 := eq_true p130; replace q130 := eq_true q130; have p131 : 0 ≤ (x7_3 : Int) := odt; have q131 : x7_3 < (t126.length : Int) := odt; obtain ⟨ad131, e131, hx131_0, hx131_1, hx131_2⟩ := at_T28 (Kd.R_reads' HO_6.out).2.2 x7_3 p131 q131; obtain rfl : ad130 = ad131 := (by injection e131); replace p131 := eq_true p131; replace q131 := eq_true q131) | (go_at_call 49; (with_reducible refine (spec_Valued.calls k3 ((rd_T28 t126 x7_3).f2) true _ A21.out).mono ?_); rintro e w' ⟨rfl, ⟨nd, rfl⟩⟩))
                  go_roundg k3
                  case measure => have := HK1.out; have := HJ6.out; have := HK3.out; omega
                  case rel => exact ⟨(wrap64 (x7_3 + 1)), orf, H', ⟨by have := HK1.out; have := HJ6.out; have := HK3.out; omega⟩, ⟨by (with_reducible repeat (first | apply Kd.R_alloc | apply Kd.R_drewN | apply Kd.R_drew)); exact HO_6.out⟩, ⟨by repeat (first | (with_reducible first | exact HB.out | apply below_alloc | apply pw_below_drewN | apply below_drew1) | exact HB.out)⟩⟩
                ·replace c22 := Bool.eq_false_iff.mpr c22
                 subst c22
                 have H1 : (some false) = some r := by rw [if_neg (show ¬ (false = true) by decide)] at H; exact H
                 clear H
                 have H := H1
                 clear H1
                 obtain rfl := Option.some.inj H
                 go_wp2_with (first | ((with_reducible refine gate_callee (f := 48) rfl ?_); refine goesL_ (some 49) rfl rfl Tryz.func48 (by kernel_rfl) rfl #[.int .i64 (wrap64 (x7_3 + 1))] rfl (by (try simp only [List.map_toArray, List.map_cons, List.map_nil]); first | done | rfl | (simp only [List.length_drop, List.length_take]; rfl)) ?_; (with_reducible refine (spec_Numeral.calls k3 (wrap64 (x7_3 + 1)) t129 _ A17.out).mono ?_); rintro e w30 ⟨rfl, hb⟩; refine ⟨_, rfl, ?_⟩; have n0_ := Aside0.mk (Kd.R_below (by (with_reducible repeat (first | apply Kd.R_alloc | apply Kd.R_drewN | apply Kd.R_drew)); exact HO_6.out) hb); have n1_ := Aside0.mk (below_step (by repeat (first | (with_reducible first | exact HB.out | apply below_alloc | apply pw_below_drewN | apply below_drew1) | exact HB.out)) hb); clear HO_6; clear HB; have HO_6 := n0_; have HB := n1_; clear n0_ n1_; (try clear hb); (try clear hb2); (try clear hk); (try clear hi); have p130 : 0 ≤ (x7_3 : Int) := odt; have q130 : x7_3 < (t126.length : Int) := odt; obtain ⟨ad130, e130, hx130_0, hx130_1, hx130_2⟩ := at_T28 (Kd.R_reads' HO_6.out).2.2 x7_3 p130 q130; cases e130; replace p130 := eq_true p130; replace q130 := eq_true q130; have p131 : 0 ≤ (x7_3 : Int) := odt; have q131 : x7_3 < (t126.length : Int) := odt; obtain ⟨ad131, e131, hx131_0, hx131_1, hx131_2⟩ := at_T28 (Kd.R_reads' HO_6.out).2.2 x7_3 p131 q131; obtain rfl : ad130 = ad131 := (by injection e131); replace p131 := eq_true p131; replace q131 := eq_true q131) | (go_at_call 49; (with_reducible refine (spec_Valued.calls k3 ((rd_T28 t126 x7_3).f2) false _ A21.out).mono ?_); rintro e w' ⟨rfl, ⟨nd, rfl⟩⟩))
                 go_ret
                 exact ⟨by first | rfl | (simp [errW_none, errW_some] <;> rfl) | (simp [*, errW_none, errW_some] <;> rfl), by repeat (first | (with_reducible first | exact HB.out | apply below_alloc | apply pw_below_drewN | apply below_drew1) | exact HB.out)⟩
               ·rw [if_neg c20] at H
                have c20b0 : (((rd_T28 t126 x7_3).f1).toList == (((rd_T71 t122 x4_1).f1) ++ t129).toList) = false := beq_eq_false_iff_ne.mpr c20
                have c20b1 : (((rd_T28 t126 x7_3).f1).toList != (((rd_T71 t122 x4_1).f1) ++ t129).toList) = true := bne_iff_ne.mpr c20
                obtain rfl := Option.some.inj H
                go_wp2_with (first | ((with_reducible refine gate_callee (f := 48) rfl ?_); refine goesL_ (some 49) rfl rfl Tryz.func48 (by kernel_rfl) rfl #[.int .i64 (wrap64 (x7_3 + 1))] rfl (by (try simp only [List.map_toArray, List.map_cons, List.map_nil]); first | done | rfl | (simp only [List.length_drop, List.length_take]; rfl)) ?_; (with_reducible refine (spec_Numeral.calls k3 (wrap64 (x7_3 + 1)) t129 _ A17.out).mono ?_); rintro e w31 ⟨rfl, hb⟩; refine ⟨_, rfl, ?_⟩; have n0_ := Aside0.mk (Kd.R_below (by (with_reducible repeat (first | apply Kd.R_alloc | apply Kd.R_drewN | apply Kd.R_drew)); exact HO_6.out) hb); have n1_ := Aside0.mk (below_step (by repeat (first | (with_reducible first | exact HB.out | apply below_alloc | apply pw_below_drewN | apply below_drew1) | exact HB.out)) hb); clear HO_6; clear HB; have HO_6 := n0_; have HB := n1_; clear n0_ n1_; (try clear hb); (try clear hb2); (try clear hk); (try clear hi); have p130 : 0 ≤ (x7_3 : Int) := odt; have q130 : x7_3 < (t126.length : Int) := odt; obtain ⟨ad130, e130, hx130_0, hx130_1, hx130_2⟩ := at_T28 (Kd.R_reads' HO_6.out).2.2 x7_3 p130 q130; cases e130; replace p130 := eq_true p130; replace q130 := eq_true q130))
                go_ret
                exact ⟨by first | rfl | (simp [errW_none, errW_some] <;> rfl) | (simp [*, errW_none, errW_some] <;> rfl), by repeat (first | (with_reducible first | exact HB.out | apply below_alloc | apply pw_below_drewN | apply below_drew1) | exact HB.out)⟩
              ·rw [if_neg c19] at H
               exact absurd H (by simp)
             ·rw [if_neg c18] at H
              exact absurd H (by simp)
            ·rw [if_neg c16] at H
             have c16b0 : decide (0 < x7_3) = false := decide_eq_false c16
             clear c16
             by_cases c32 : 0 ≤ x7_3
             ·rw [if_pos c32] at H
              have c32b0 : decide (0 ≤ x7_3) = true := decide_eq_true c32
              clear c32
              by_cases c33 : ((rd_T28 t126 x7_3).f1).toList = ((rd_T71 t122 x4_1).f1).toList
              ·rw [if_pos c33] at H
               have c33b0 : (((rd_T28 t126 x7_3).f1).toList == ((rd_T71 t122 x4_1).f1).toList) = true := beq_iff_eq.mpr c33
               have c33b1 : (((rd_T28 t126 x7_3).f1).toList != ((rd_T71 t122 x4_1).f1).toList) = false := bne_eq_false_iff_eq.mpr c33
               clear c33
               replace H := Option.bind_eq_some_iff.mp H
               obtain ⟨t137, A340, H⟩ := H
               replace H : (if t137 = true then (if ((rd_T71 t122 x4_1).f1).toList = ([103] : List UInt8) then (if ((rd_T28 t126 x7_3).f2).toList = ([95, 44, 32, 95] : List UInt8) then (spec_Modelled.l1 k3 l0 (wrap64 (x3_1 + (t126.length : Int))) x4_1 ((rd_T71 t122 x4_1).f1) t126 (wrap64 (x7_3 + 1))) else (if ((rd_T28 t126 x7_3).f2).toList = ([95, 44, 32, 95, 44, 32, 95] : List UInt8) then (spec_Modelled.l1 k3 l0 (wrap64 (x3_1 + (t126.length : Int))) x4_1 ((rd_T71 t122 x4_1).f1) t126 (wrap64 (x7_3 + 1))) else (some false))) else (spec_Modelled.l1 k3 l0 (wrap64 (x3_1 + (t126.length : Int))) x4_1 ((rd_T71 t122 x4_1).f1) t126 (wrap64 (x7_3 + 1)))) else (some false)) = some r := H
               have A34 := Aside0.mk A340
               clear A340
               by_cases c35 : t137 = true
               ·subst c35
                have H1 : (if ((rd_T71 t122 x4_1).f1).toList = ([103] : List UInt8) then (if ((rd_T28 t126 x7_3).f2).toList = ([95, 44, 32, 95] : List UInt8) then (spec_Modelled.l1 k3 l0 (wrap64 (x3_1 + (t126.length : Int))) x4_1 ((rd_T71 t122 x4_1).f1) t126 (wrap64 (x7_3 + 1))) else (if ((rd_T28 t126 x7_3).f2).toList = ([95, 44, 32, 95, 44, 32, 95] : List UInt8) then (spec_Modelled.l1 k3 l0 (wrap64 (x3_1 + (t126.length : Int))) x4_1 ((rd_T71 t122 x4_1).f1) t126 (wrap64 (x7_3 + 1))) else (some false))) else (spec_Modelled.l1 k3 l0 (wrap64 (x3_1 + (t126.length : Int))) x4_1 ((rd_T71 t122 x4_1).f1) t126 (wrap64 (x7_3 + 1)))) = some r := by rw [if_pos rfl] at H; exact H
                clear H
                have H := H1
                clear H1
                by_cases c36 : ((rd_T71 t122 x4_1).f1).toList = ([103] : List UInt8)
                ·rw [if_pos c36] at H
                 have c36b0 : (((rd_T71 t122 x4_1).f1).toList == ([103] : List UInt8)) = true := beq_iff_eq.mpr c36
                 have c36b1 : (((rd_T71 t122 x4_1).f1).toList != ([103] : List UInt8)) = false := bne_eq_false_iff_eq.mpr c36
                 clear c36
                 by_cases c37 : ((rd_T28 t126 x7_3).f2).toList = ([95, 44, 32, 95] : List UInt8)
                 ·rw [if_pos c37] at H
                  have c37b0 : (((rd_T28 t126 x7_3).f2).toList == ([95, 44, 32, 95] : List UInt8)) = true := beq_iff_eq.mpr c37
                  have c37b1 : (((rd_T28 t126 x7_3).f2).toList != ([95, 44, 32, 95] : List UInt8)) = false := bne_eq_false_iff_eq.mpr c37
                  clear c37
                  have H' := Aside0.mk H
                  clear H
                  have p135 : 0 ≤ (x7_3 : Int) := odt
                  have q135 : x7_3 < (t126.length : Int) := odt
                  obtain ⟨ad135, e135, hx135_0, hx135_1, hx135_2⟩ := at_T28 (Kd.R_reads' HO_6.out).2.2 x7_3 p135 q135
                  cases e135
                  replace p135 := eq_true p135
                  replace q135 := eq_true q135
                  have p136 : 0 ≤ (x7_3 : Int) := odt
                  have q136 : x7_3 < (t126.length : Int) := odt
                  obtain ⟨ad136, e136, hx136_0, hx136_1, hx136_2⟩ := at_T28 (Kd.R_reads' HO_6.out).2.2 x7_3 p136 q136
                  obtain rfl : ad135 = ad136 := (by injection e136)
                  replace p136 := eq_true p136
                  replace q136 := eq_true q136
                  go_wp2_with (first | (go_at_call 49; (with_reducible refine (spec_Valued.calls k3 ((rd_T28 t126 x7_3).f2) true _ A34.out).mono ?_); rintro e w' ⟨rfl, ⟨nd, rfl⟩⟩; have p138 : 0 ≤ (x7_3 : Int) := odt; have q138 : x7_3 < (t126.length : Int) := odt; obtain ⟨ad138, e138, hx138_0, hx138_1, hx138_2⟩ := at_T28 (Kd.R_reads' HO_6.out).2.2 x7_3 p138 q138; obtain rfl : ad135 = ad138 := (by injection e138); replace p138 := eq_true p138; replace q138 := eq_true q138))
                  go_roundg k3
                  case measure => have := HK1.out; have := HJ6.out; have := HK3.out; omega
                  case rel => exact ⟨(wrap64 (x7_3 + 1)), orf, H', ⟨by have := HK1.out; have := HJ6.out; have := HK3.out; omega⟩, ⟨by (with_reducible repeat (first | apply Kd.R_alloc | apply Kd.R_drewN | apply Kd.R_drew)); exact HO_6.out⟩, ⟨by repeat (first | (with_reducible first | exact HB.out | apply below_alloc | apply pw_below_drewN | apply below_drew1) | exact HB.out)⟩⟩
                 ·rw [if_neg c37] at H
                  have c37b0 : (((rd_T28 t126 x7_3).f2).toList == ([95, 44, 32, 95] : List UInt8)) = false := beq_eq_false_iff_ne.mpr c37
                  have c37b1 : (((rd_T28 t126 x7_3).f2).toList != ([95, 44, 32, 95] : List UInt8)) = true := bne_iff_ne.mpr c37
                  by_cases c38 : ((rd_T28 t126 x7_3).f2).toList = ([95, 44, 32, 95, 44, 32, 95] : List UInt8)
                  ·rw [if_pos c38] at H
                   have c38b0 : (((rd_T28 t126 x7_3).f2).toList == ([95, 44, 32, 95, 44, 32, 95] : List UInt8)) = true := beq_iff_eq.mpr c38
                   have c38b1 : (((rd_T28 t126 x7_3).f2).toList != ([95, 44, 32, 95, 44, 32, 95] : List UInt8)) = false := bne_eq_false_iff_eq.mpr c38
                   clear c38
                   have H' := Aside0.mk H
                   clear H
                   have p135 : 0 ≤ (x7_3 : Int) := odt
                   have q135 : x7_3 < (t126.length : Int) := odt
                   obtain ⟨ad135, e135, hx135_0, hx135_1, hx135_2⟩ := at_T28 (Kd.R_reads' HO_6.out).2.2 x7_3 p135 q135
                   cases e135
                   replace p135 := eq_true p135
                   replace q135 := eq_true q135
                   have p136 : 0 ≤ (x7_3 : Int) := odt
                   have q136 : x7_3 < (t126.length : Int) := odt
                   obtain ⟨ad136, e136, hx136_0, hx136_1, hx136_2⟩ := at_T28 (Kd.R_reads' HO_6.out).2.2 x7_3 p136 q136
                   obtain rfl : ad135 = ad136 := (by injection e136)
                   replace p136 := eq_true p136
                   replace q136 := eq_true q136
                   go_wp2_with (first | (go_at_call 49; (with_reducible refine (spec_Valued.calls k3 ((rd_T28 t126 x7_3).f2) true _ A34.out).mono ?_); rintro e w' ⟨rfl, ⟨nd, rfl⟩⟩; have p138 : 0 ≤ (x7_3 : Int) := odt; have q138 : x7_3 < (t126.length : Int) := odt; obtain ⟨ad138, e138, hx138_0, hx138_1, hx138_2⟩ := at_T28 (Kd.R_reads' HO_6.out).2.2 x7_3 p138 q138; obtain rfl : ad135 = ad138 := (by injection e138); replace p138 := eq_true p138; replace q138 := eq_true q138; have p139 : 0 ≤ (x7_3 : Int) := odt; have q139 : x7_3 < (t126.length : Int) := odt; obtain ⟨ad139, e139, hx139_0, hx139_1, hx139_2⟩ := at_T28 (Kd.R_reads' HO_6.out).2.2 x7_3 p139 q139; obtain rfl : ad135 = ad139 := (by injection e139); replace p139 := eq_true p139; replace q139 := eq_true q139))
                   go_roundg k3
                   case measure => have := HK1.out; have := HJ6.out; have := HK3.out; omega
                   case rel => exact ⟨(wrap64 (x7_3 + 1)), orf, H', ⟨by have := HK1.out; have := HJ6.out; have := HK3.out; omega⟩, ⟨by (with_reducible repeat (first | apply Kd.R_alloc | apply Kd.R_drewN | apply Kd.R_drew)); exact HO_6.out⟩, ⟨by repeat (first | (with_reducible first | exact HB.out | apply below_alloc | apply pw_below_drewN | apply below_drew1) | exact HB.out)⟩⟩
                  ·rw [if_neg c38] at H
                   have c38b0 : (((rd_T28 t126 x7_3).f2).toList == ([95, 44, 32, 95, 44, 32, 95] : List UInt8)) = false := beq_eq_false_iff_ne.mpr c38
                   have c38b1 : (((rd_T28 t126 x7_3).f2).toList != ([95, 44, 32, 95, 44, 32, 95] : List UInt8)) = true := bne_iff_ne.mpr c38
                   obtain rfl := Option.some.inj H
                   have p135 : 0 ≤ (x7_3 : Int) := odt
                   have q135 : x7_3 < (t126.length : Int) := odt
                   obtain ⟨ad135, e135, hx135_0, hx135_1, hx135_2⟩ := at_T28 (Kd.R_reads' HO_6.out).2.2 x7_3 p135 q135
                   cases e135
                   replace p135 := eq_true p135
                   replace q135 := eq_true q135
                   have p136 : 0 ≤ (x7_3 : Int) := odt
                   have q136 : x7_3 < (t126.length : Int) := odt
                   obtain ⟨ad136, e136, hx136_0, hx136_1, hx136_2⟩ := at_T28 (Kd.R_reads' HO_6.out).2.2 x7_3 p136 q136
                   obtain rfl : ad135 = ad136 := (by injection e136)
                   replace p136 := eq_true p136
                   replace q136 := eq_true q136
                   go_wp2_with (first | (go_at_call 49; (with_reducible refine (spec_Valued.calls k3 ((rd_T28 t126 x7_3).f2) true _ A34.out).mono ?_); rintro e w' ⟨rfl, ⟨nd, rfl⟩⟩; have p138 : 0 ≤ (x7_3 : Int) := odt; have q138 : x7_3 < (t126.length : Int) := odt; obtain ⟨ad138, e138, hx138_0, hx138_1, hx138_2⟩ := at_T28 (Kd.R_reads' HO_6.out).2.2 x7_3 p138 q138; obtain rfl : ad135 = ad138 := (by injection e138); replace p138 := eq_true p138; replace q138 := eq_true q138; have p139 : 0 ≤ (x7_3 : Int) := odt; have q139 : x7_3 < (t126.length : Int) := odt; obtain ⟨ad139, e139, hx139_0, hx139_1, hx139_2⟩ := at_T28 (Kd.R_reads' HO_6.out).2.2 x7_3 p139 q139; obtain rfl : ad135 = ad139 := (by injection e139); replace p139 := eq_true p139; replace q139 := eq_true q139))
                   go_ret
                   exact ⟨by first | rfl | (simp [errW_none, errW_some] <;> rfl) | (simp [*, errW_none, errW_some] <;> rfl), by repeat (first | (with_reducible first | exact HB.out | apply below_alloc | apply pw_below_drewN | apply below_drew1) | exact HB.out)⟩
                ·rw [if_neg c36] at H
                 have c36b0 : (((rd_T71 t122 x4_1).f1).toList == ([103] : List UInt8)) = false := beq_eq_false_iff_ne.mpr c36
                 have c36b1 : (((rd_T71 t122 x4_1).f1).toList != ([103] : List UInt8)) = true := bne_iff_ne.mpr c36
                 have H' := Aside0.mk H
                 clear H
                 have p135 : 0 ≤ (x7_3 : Int) := odt
                 have q135 : x7_3 < (t126.length : Int) := odt
                 obtain ⟨ad135, e135, hx135_0, hx135_1, hx135_2⟩ := at_T28 (Kd.R_reads' HO_6.out).2.2 x7_3 p135 q135
                 cases e135
                 replace p135 := eq_true p135
                 replace q135 := eq_true q135
                 have p136 : 0 ≤ (x7_3 : Int) := odt
                 have q136 : x7_3 < (t126.length : Int) := odt
                 obtain ⟨ad136, e136, hx136_0, hx136_1, hx136_2⟩ := at_T28 (Kd.R_reads' HO_6.out).2.2 x7_3 p136 q136
                 obtain rfl : ad135 = ad136 := (by injection e136)
                 replace p136 := eq_true p136
                 replace q136 := eq_true q136
                 go_wp2_with (first | (go_at_call 49; (with_reducible refine (spec_Valued.calls k3 ((rd_T28 t126 x7_3).f2) true _ A34.out).mono ?_); rintro e w' ⟨rfl, ⟨nd, rfl⟩⟩))
                 go_roundg k3
                 case measure => have := HK1.out; have := HJ6.out; have := HK3.out; omega
                 case rel => exact ⟨(wrap64 (x7_3 + 1)), orf, H', ⟨by have := HK1.out; have := HJ6.out; have := HK3.out; omega⟩, ⟨by (with_reducible repeat (first | apply Kd.R_alloc | apply Kd.R_drewN | apply Kd.R_drew)); exact HO_6.out⟩, ⟨by repeat (first | (with_reducible first | exact HB.out | apply below_alloc | apply pw_below_drewN | apply below_drew1) | exact HB.out)⟩⟩
               ·replace c35 := Bool.eq_false_iff.mpr c35
                subst c35
                have H1 : (some false) = some r := by rw [if_neg (show ¬ (false = true) by decide)] at H; exact H
                clear H
                have H := H1
                clear H1
                obtain rfl := Option.some.inj H
                have p135 : 0 ≤ (x7_3 : Int) := odt
                have q135 : x7_3 < (t126.length : Int) := odt
                obtain ⟨ad135, e135, hx135_0, hx135_1, hx135_2⟩ := at_T28 (Kd.R_reads' HO_6.out).2.2 x7_3 p135 q135
                cases e135
                replace p135 := eq_true p135
                replace q135 := eq_true q135
                have p136 : 0 ≤ (x7_3 : Int) := odt
                have q136 : x7_3 < (t126.length : Int) := odt
                obtain ⟨ad136, e136, hx136_0, hx136_1, hx136_2⟩ := at_T28 (Kd.R_reads' HO_6.out).2.2 x7_3 p136 q136
                obtain rfl : ad135 = ad136 := (by injection e136)
                replace p136 := eq_true p136
                replace q136 := eq_true q136
                go_wp2_with (first | (go_at_call 49; (with_reducible refine (spec_Valued.calls k3 ((rd_T28 t126 x7_3).f2) false _ A34.out).mono ?_); rintro e w' ⟨rfl, ⟨nd, rfl⟩⟩))
                go_ret
                exact ⟨by first | rfl | (simp [errW_none, errW_some] <;> rfl) | (simp [*, errW_none, errW_some] <;> rfl), by repeat (first | (with_reducible first | exact HB.out | apply below_alloc | apply pw_below_drewN | apply below_drew1) | exact HB.out)⟩
              ·rw [if_neg c33] at H
               have c33b0 : (((rd_T28 t126 x7_3).f1).toList == ((rd_T71 t122 x4_1).f1).toList) = false := beq_eq_false_iff_ne.mpr c33
               have c33b1 : (((rd_T28 t126 x7_3).f1).toList != ((rd_T71 t122 x4_1).f1).toList) = true := bne_iff_ne.mpr c33
               obtain rfl := Option.some.inj H
               have p135 : 0 ≤ (x7_3 : Int) := odt
               have q135 : x7_3 < (t126.length : Int) := odt
               obtain ⟨ad135, e135, hx135_0, hx135_1, hx135_2⟩ := at_T28 (Kd.R_reads' HO_6.out).2.2 x7_3 p135 q135
               cases e135
               replace p135 := eq_true p135
               replace q135 := eq_true q135
               go_wp2
               go_ret
               exact ⟨by first | rfl | (simp [errW_none, errW_some] <;> rfl) | (simp [*, errW_none, errW_some] <;> rfl), by repeat (first | (with_reducible first | exact HB.out | apply below_alloc | apply pw_below_drewN | apply below_drew1) | exact HB.out)⟩
             ·rw [if_neg c32] at H
              exact absurd H (by simp)
           ·rw [if_neg c15] at H
            have c15b0 : decide (x7_3 < (t126.length : Int)) = false := decide_eq_false c15
            clear c15
            have H' := Aside0.mk H
            clear H
            go_wp2
            go_roundg k3
            case measure => have := HK1.out; have := HJ6.out; have := HK3.out; omega
            case rel => exact ⟨((wrap64 (x3_1 + (t126.length : Int)))), (wrap64 (x4_1 + 1)), orf, orf, H', ⟨by have := HK1.out; have := HJ6.out; have := HK3.out; omega⟩, ⟨by repeat (first | (with_reducible first | exact HB.out | apply below_alloc | apply pw_below_drewN | apply below_drew1) | exact HB.out)⟩⟩
     ·rw [if_neg c5] at H
      exact absurd H (by simp)
    ·rw [if_neg c4] at H
     exact absurd H (by simp)
   ·rw [if_neg c2] at H
    have c2b0 : decide (x4_1 < 5) = false := decide_eq_false c2
    clear c2
    obtain rfl := Option.some.inj H
    go_wp2
    go_ret
    exact ⟨by first | rfl | (simp [errW_none, errW_some] <;> rfl) | (simp [*, errW_none, errW_some] <;> rfl), by repeat (first | (with_reducible first | exact HB.out | apply below_alloc | apply pw_below_drewN | apply below_drew1) | exact HB.out)⟩

/-! ### laws_modelled: function 9 -/
def laws_modelled.l0 : Nat → List (S28) → Int → Option (Bool)
 | 0, _, _ => none
 | k + 1, x0, x3 => if x3 < (x0.length : Int) then (if 0 ≤ x3 then ((spec_Apart.f k ((rd_T28 x0 x3).f2)).bind fun t142 => (if t142 = true then (if ((rd_T28 x0 x3).f0).toList = ([109] : List UInt8) then ((laws_holds.f k ((rd_T28 x0 x3).f2) (⟨#[91]⟩ : ByteArray)).bind fun t145 => (if t145 = true then (some false) else ((laws_holds.f k ((rd_T28 x0 x3).f2) (⟨#[93]⟩ : ByteArray)).bind fun t147 => (if t147 = true then (some false) else (laws_modelled.l0 k x0 (wrap64 (x3 + 1))))))) else (laws_modelled.l0 k x0 (wrap64 (x3 + 1)))) else (some false))) else (none)) else (if (x0.length : Int) ≤ 12 then ((spec_Modelled.f k x0).bind fun t140 => (some t140)) else (some false))
def laws_modelled.f (k : Nat) (l0 : List (S28)) : Option (Bool) := if (l0.length : Int) > 12 then (some false) else (laws_modelled.l0 k l0 0)
theorem laws_modelled.mono_l : ∀ k, (∀ y0 y1, LeO (laws_modelled.l0 k y0 y1) (laws_modelled.l0 (k + 1) y0 y1))
 | 0 => fun _ _ r h => by simp [laws_modelled.l0] at h
 | k + 1 => by
  have ih0 := laws_modelled.mono_l k
  ·intro y0 y1
   unfold laws_modelled.l0
   repeat' first
   | (with_reducible exact ih0 _ _)
   | (with_reducible exact laws_holds.mono _ _ _)
   | (with_reducible exact spec_Apart.mono _ _)
   | (with_reducible exact spec_Modelled.mono _ _)
   | (with_reducible exact LeO.refl _)
   | (with_reducible exact LeO.none _)
   | (with_reducible refine LeO.ite ?_ ?_)
   | (with_reducible refine LeO.bind ?_ (fun _ => ?_))
   | exact ih0 _ _
   | exact laws_holds.mono _ _ _
   | exact spec_Apart.mono _ _
   | exact spec_Modelled.mono _ _
   | exact LeO.none _
   | refine LeO.ite ?_ ?_
   | refine LeO.bind ?_ (fun _ => ?_)
theorem laws_modelled.mono : ∀ a0 k, LeO (laws_modelled.f k a0) (laws_modelled.f (k + 1) a0) := by
 intro a0 k
 have ih0 := laws_modelled.mono_l k
 unfold laws_modelled.f
 repeat' first
   | (with_reducible exact ih0 _ _)
   | (with_reducible exact laws_holds.mono _ _ _)
   | (with_reducible exact spec_Apart.mono _ _)
   | (with_reducible exact spec_Modelled.mono _ _)
   | (with_reducible exact LeO.refl _)
   | (with_reducible exact LeO.none _)
   | (with_reducible refine LeO.ite ?_ ?_)
   | (with_reducible refine LeO.bind ?_ (fun _ => ?_))
   | exact ih0 _ _
   | exact laws_holds.mono _ _ _
   | exact spec_Apart.mono _ _
   | exact spec_Modelled.mono _ _
   | exact LeO.none _
   | refine LeO.ite ?_ ?_
   | refine LeO.bind ?_ (fun _ => ?_)
set_option maxHeartbeats 8000000 in
set_option maxRecDepth 100000 in
theorem laws_modelled.calls (k : Nat) (A0 : Option Addr) (c0 : Nat) (l0 : List (S28)) (r : Bool) (w : World) (hr0 : Kd.C k28 w A0 l0.length l0) (hc0 : l0.length ≤ c0) (h : laws_modelled.f k l0 = some r) :
  Calls Tryz.prog 9 #[.slice A0 l0.length c0] w fun e w' => e = .returned (.bool r) ∧ Below w.heap.size w w' := by
 have HR0 := Aside0.mk hr0
 have HC0 := Aside0.mk hc0
 clear hr0 hc0
 have HB := Aside0.mk (Below.refl w.heap.size w)
 have H : (if (l0.length : Int) > 12 then (some false) else (laws_modelled.l0 k l0 0)) = some r := h
 clear h
 by_cases c2 : (l0.length : Int) > 12
 ·rw [if_pos c2] at H
  have c2b0 : decide (12 < (l0.length : Int)) = true := decide_eq_true c2
  have c2b1 : decide (12 < l0.length) = true := decide_eq_true (by omega)
  clear c2
  obtain rfl := Option.some.inj H
  go_enter Tryz.func9, Tryz.ntmps9
  go_wp2
  go_ret
  exact ⟨by first | rfl | (simp [errW_none, errW_some] <;> rfl) | (simp [*, errW_none, errW_some] <;> rfl), by repeat (first | (with_reducible first | exact HB.out | apply below_alloc | apply pw_below_drewN | apply below_drew1) | exact HB.out)⟩
 ·rw [if_neg c2] at H
  have c2b0 : decide (12 < (l0.length : Int)) = false := decide_eq_false c2
  have c2b1 : decide (12 < l0.length) = false := decide_eq_false (by omega)
  clear c2
  have H' := Aside0.mk H
  clear H
  go_enter Tryz.func9, Tryz.ntmps9
  go_wp2
  go_loopg [3] k (fun kq v3 w' => ∃ (x3_1 : Int), v3 = .int .i64 x3_1 ∧ Aside0 (laws_modelled.l0 kq l0 x3_1 = some r) ∧ Aside0 (kq ≤ k) ∧ Aside0 (Below w.heap.size w w'))
  case atStart => exact ⟨(0), orf, H', ⟨Nat.le_refl _⟩, ⟨by repeat (first | (with_reducible first | exact HB.out | apply below_alloc | apply pw_below_drewN | apply below_drew1) | exact HB.out)⟩⟩
  case round =>
   clear H'
   try clear c2
   try clear c2b0
   try clear c2b1
   try clear p2
   obtain ⟨x3_1, rfl, HA, HK1, HB⟩ := hrel
   cases gk with
   | zero => exact absurd HA.out (by simp [laws_modelled.l0])
   | succ k1 =>
    have H := HA.out
    clear HA
    simp only [laws_modelled.l0] at H
    by_cases c3 : x3_1 < (l0.length : Int)
    ·rw [if_pos c3] at H
     have c3b0 : decide (x3_1 < (l0.length : Int)) = true := decide_eq_true c3
     clear c3
     by_cases c4 : 0 ≤ x3_1
     ·rw [if_pos c4] at H
      have c4b0 : decide (0 ≤ x3_1) = true := decide_eq_true c4
      clear c4
      replace H := Option.bind_eq_some_iff.mp H
      obtain ⟨t142, A50, H⟩ := H
      replace H : (if t142 = true then (if ((rd_T28 l0 x3_1).f0).toList = ([109] : List UInt8) then ((laws_holds.f k1 ((rd_T28 l0 x3_1).f2) (⟨#[91]⟩ : ByteArray)).bind fun t145 => (if t145 = true then (some false) else ((laws_holds.f k1 ((rd_T28 l0 x3_1).f2) (⟨#[93]⟩ : ByteArray)).bind fun t147 => (if t147 = true then (some false) else (laws_modelled.l0 k1 l0 (wrap64 (x3_1 + 1))))))) else (laws_modelled.l0 k1 l0 (wrap64 (x3_1 + 1)))) else (some false)) = some r := H
      have A5 := Aside0.mk A50
      clear A50
      by_cases c6 : t142 = true
      ·subst c6
       have H1 : (if ((rd_T28 l0 x3_1).f0).toList = ([109] : List UInt8) then ((laws_holds.f k1 ((rd_T28 l0 x3_1).f2) (⟨#[91]⟩ : ByteArray)).bind fun t145 => (if t145 = true then (some false) else ((laws_holds.f k1 ((rd_T28 l0 x3_1).f2) (⟨#[93]⟩ : ByteArray)).bind fun t147 => (if t147 = true then (some false) else (laws_modelled.l0 k1 l0 (wrap64 (x3_1 + 1))))))) else (laws_modelled.l0 k1 l0 (wrap64 (x3_1 + 1)))) = some r := by rw [if_pos rfl] at H; exact H
       clear H
       have H := H1
       clear H1
       by_cases c7 : ((rd_T28 l0 x3_1).f0).toList = ([109] : List UInt8)
       ·rw [if_pos c7] at H
        have c7b0 : (((rd_T28 l0 x3_1).f0).toList == ([109] : List UInt8)) = true := beq_iff_eq.mpr c7
        have c7b1 : (((rd_T28 l0 x3_1).f0).toList != ([109] : List UInt8)) = false := bne_eq_false_iff_eq.mpr c7
        clear c7
        replace H := Option.bind_eq_some_iff.mp H
        obtain ⟨t145, A80, H⟩ := H
        replace H : (if t145 = true then (some false) else ((laws_holds.f k1 ((rd_T28 l0 x3_1).f2) (⟨#[93]⟩ : ByteArray)).bind fun t147 => (if t147 = true then (some false) else (laws_modelled.l0 k1 l0 (wrap64 (x3_1 + 1)))))) = some r := H
        have A8 := Aside0.mk A80
        clear A80
        by_cases c9 : t145 = true
        ·subst c9
         have H1 : (some false) = some r := by rw [if_pos rfl] at H; exact H
         clear H
         have H := H1
         clear H1
         obtain rfl := Option.some.inj H
         have p141 : 0 ≤ (x3_1 : Int) := odt
         have q141 : x3_1 < (l0.length : Int) := odt
         obtain ⟨ad141, e141, hx141_0, hx141_1, hx141_2⟩ := at_T28 HR0.out x3_1 p141 q141
         cases e141
         replace hx141_0 := (HB.out.cell (World.block_lt_of_cell? w _ hx141_0)).trans hx141_0
         replace hx141_1 := (HB.out.cell (World.block_lt_of_cell? w _ hx141_1)).trans hx141_1
         replace hx141_2 := (HB.out.cell (World.block_lt_of_cell? w _ hx141_2)).trans hx141_2
         replace p141 := eq_true p141
         replace q141 := eq_true q141
         go_wp2_with (first | ((with_reducible refine gate_callee (f := 23) rfl ?_); refine goesL_ (some 18) rfl rfl Tryz.func23 (by kernel_rfl) rfl #[.string ((rd_T28 l0 x3_1).f2)] rfl (by (try simp only [List.map_toArray, List.map_cons, List.map_nil]); first | done | rfl | (simp only [List.length_drop, List.length_take]; rfl)) ?_; (with_reducible refine (spec_Apart.calls k1 ((rd_T28 l0 x3_1).f2) true _ A5.out).mono ?_); rintro e w' ⟨rfl, ⟨nd, rfl⟩⟩; refine ⟨_, rfl, ?_⟩; have p143 : 0 ≤ (x3_1 : Int) := odt; have q143 : x3_1 < (l0.length : Int) := odt; obtain ⟨ad143, e143, hx143_0, hx143_1, hx143_2⟩ := at_T28 HR0.out x3_1 p143 q143; obtain rfl : ad141 = ad143 := (by injection e143); replace hx143_0 := (HB.out.cell (World.block_lt_of_cell? w _ hx143_0)).trans hx143_0; replace hx143_1 := (HB.out.cell (World.block_lt_of_cell? w _ hx143_1)).trans hx143_1; replace hx143_2 := (HB.out.cell (World.block_lt_of_cell? w _ hx143_2)).trans hx143_2; replace p143 := eq_true p143; replace q143 := eq_true q143; have p144 : 0 ≤ (x3_1 : Int) := odt; have q144 : x3_1 < (l0.length : Int) := odt; obtain ⟨ad144, e144, hx144_0, hx144_1, hx144_2⟩ := at_T28 HR0.out x3_1 p144 q144; obtain rfl : ad141 = ad144 := (by injection e144); replace hx144_0 := (HB.out.cell (World.block_lt_of_cell? w _ hx144_0)).trans hx144_0; replace hx144_1 := (HB.out.cell (World.block_lt_of_cell? w _ hx144_1)).trans hx144_1; replace hx144_2 := (HB.out.cell (World.block_lt_of_cell? w _ hx144_2)).trans hx144_2; replace p144 := eq_true p144; replace q144 := eq_true q144) | (go_at_call 20; (with_reducible refine (laws_holds.calls k1 ((rd_T28 l0 x3_1).f2) (⟨#[91]⟩ : ByteArray) true _ A8.out).mono ?_); rintro e w' ⟨rfl, ⟨nd, rfl⟩⟩))
         go_ret
         exact ⟨by first | rfl | (simp [errW_none, errW_some] <;> rfl) | (simp [*, errW_none, errW_some] <;> rfl), by repeat (first | (with_reducible first | exact HB.out | apply below_alloc | apply pw_below_drewN | apply below_drew1) | exact HB.out)⟩
        ·replace c9 := Bool.eq_false_iff.mpr c9
         subst c9
         have H1 : ((laws_holds.f k1 ((rd_T28 l0 x3_1).f2) (⟨#[93]⟩ : ByteArray)).bind fun t147 => (if t147 = true then (some false) else (laws_modelled.l0 k1 l0 (wrap64 (x3_1 + 1))))) = some r := by rw [if_neg (show ¬ (false = true) by decide)] at H; exact H
         clear H
         have H := H1
         clear H1
         replace H := Option.bind_eq_some_iff.mp H
         obtain ⟨t147, A100, H⟩ := H
         replace H : (if t147 = true then (some false) else (laws_modelled.l0 k1 l0 (wrap64 (x3_1 + 1)))) = some r := H
         have A10 := Aside0.mk A100
         clear A100
         by_cases c11 : t147 = true
         ·subst c11
          have H1 : (some false) = some r := by rw [if_pos rfl] at H; exact H
          clear H
          have H := H1
          clear H1
          obtain rfl := Option.some.inj H
          have p141 : 0 ≤ (x3_1 : Int) := odt
          have q141 : x3_1 < (l0.length : Int) := odt
          obtain ⟨ad141, e141, hx141_0, hx141_1, hx141_2⟩ := at_T28 HR0.out x3_1 p141 q141
          cases e141
          replace hx141_0 := (HB.out.cell (World.block_lt_of_cell? w _ hx141_0)).trans hx141_0
          replace hx141_1 := (HB.out.cell (World.block_lt_of_cell? w _ hx141_1)).trans hx141_1
          replace hx141_2 := (HB.out.cell (World.block_lt_of_cell? w _ hx141_2)).trans hx141_2
          replace p141 := eq_true p141
          replace q141 := eq_true q141
          go_wp2_with (first | ((with_reducible refine gate_callee (f := 23) rfl ?_); refine goesL_ (some 18) rfl rfl Tryz.func23 (by kernel_rfl) rfl #[.string ((rd_T28 l0 x3_1).f2)] rfl (by (try simp only [List.map_toArray, List.map_cons, List.map_nil]); first | done | rfl | (simp only [List.length_drop, List.length_take]; rfl)) ?_; (with_reducible refine (spec_Apart.calls k1 ((rd_T28 l0 x3_1).f2) true _ A5.out).mono ?_); rintro e w' ⟨rfl, ⟨nd, rfl⟩⟩; refine ⟨_, rfl, ?_⟩; have p143 : 0 ≤ (x3_1 : Int) := odt; have q143 : x3_1 < (l0.length : Int) := odt; obtain ⟨ad143, e143, hx143_0, hx143_1, hx143_2⟩ := at_T28 HR0.out x3_1 p143 q143; obtain rfl : ad141 = ad143 := (by injection e143); replace hx143_0 := (HB.out.cell (World.block_lt_of_cell? w _ hx143_0)).trans hx143_0; replace hx143_1 := (HB.out.cell (World.block_lt_of_cell? w _ hx143_1)).trans hx143_1; replace hx143_2 := (HB.out.cell (World.block_lt_of_cell? w _ hx143_2)).trans hx143_2; replace p143 := eq_true p143; replace q143 := eq_true q143; have p144 : 0 ≤ (x3_1 : Int) := odt; have q144 : x3_1 < (l0.length : Int) := odt; obtain ⟨ad144, e144, hx144_0, hx144_1, hx144_2⟩ := at_T28 HR0.out x3_1 p144 q144; obtain rfl : ad141 = ad144 := (by injection e144); replace hx144_0 := (HB.out.cell (World.block_lt_of_cell? w _ hx144_0)).trans hx144_0; replace hx144_1 := (HB.out.cell (World.block_lt_of_cell? w _ hx144_1)).trans hx144_1; replace hx144_2 := (HB.out.cell (World.block_lt_of_cell? w _ hx144_2)).trans hx144_2; replace p144 := eq_true p144; replace q144 := eq_true q144) | (go_at_call 20; (with_reducible refine (laws_holds.calls k1 ((rd_T28 l0 x3_1).f2) (⟨#[91]⟩ : ByteArray) false _ A8.out).mono ?_); rintro e w' ⟨rfl, ⟨nd, rfl⟩⟩; have p146 : 0 ≤ (x3_1 : Int) := odt; have q146 : x3_1 < (l0.length : Int) := odt; obtain ⟨ad146, e146, hx146_0, hx146_1, hx146_2⟩ := at_T28 HR0.out x3_1 p146 q146; obtain rfl : ad141 = ad146 := (by injection e146); replace hx146_0 := (HB.out.cell (World.block_lt_of_cell? w _ hx146_0)).trans hx146_0; replace hx146_1 := (HB.out.cell (World.block_lt_of_cell? w _ hx146_1)).trans hx146_1; replace hx146_2 := (HB.out.cell (World.block_lt_of_cell? w _ hx146_2)).trans hx146_2; replace p146 := eq_true p146; replace q146 := eq_true q146) | (go_at_call 20; (with_reducible refine (laws_holds.calls k1 ((rd_T28 l0 x3_1).f2) (⟨#[93]⟩ : ByteArray) true _ A10.out).mono ?_); rintro e w' ⟨rfl, ⟨nd, rfl⟩⟩))
          go_ret
          exact ⟨by first | rfl | (simp [errW_none, errW_some] <;> rfl) | (simp [*, errW_none, errW_some] <;> rfl), by repeat (first | (with_reducible first | exact HB.out | apply below_alloc | apply pw_below_drewN | apply below_drew1) | exact HB.out)⟩
         ·replace c11 := Bool.eq_false_iff.mpr c11
          subst c11
          have H1 : (laws_modelled.l0 k1 l0 (wrap64 (x3_1 + 1))) = some r := by rw [if_neg (show ¬ (false = true) by decide)] at H; exact H
          clear H
          have H := H1
          clear H1
          have H' := Aside0.mk H
          clear H
          have p141 : 0 ≤ (x3_1 : Int) := odt
          have q141 : x3_1 < (l0.length : Int) := odt
          obtain ⟨ad141, e141, hx141_0, hx141_1, hx141_2⟩ := at_T28 HR0.out x3_1 p141 q141
          cases e141
          replace hx141_0 := (HB.out.cell (World.block_lt_of_cell? w _ hx141_0)).trans hx141_0
          replace hx141_1 := (HB.out.cell (World.block_lt_of_cell? w _ hx141_1)).trans hx141_1
          replace hx141_2 := (HB.out.cell (World.block_lt_of_cell? w _ hx141_2)).trans hx141_2
          replace p141 := eq_true p141
          replace q141 := eq_true q141
          go_wp2_with (first | ((with_reducible refine gate_callee (f := 23) rfl ?_); refine goesL_ (some 18) rfl rfl Tryz.func23 (by kernel_rfl) rfl #[.string ((rd_T28 l0 x3_1).f2)] rfl (by (try simp only [List.map_toArray, List.map_cons, List.map_nil]); first | done | rfl | (simp only [List.length_drop, List.length_take]; rfl)) ?_; (with_reducible refine (spec_Apart.calls k1 ((rd_T28 l0 x3_1).f2) true _ A5.out).mono ?_); rintro e w' ⟨rfl, ⟨nd, rfl⟩⟩; refine ⟨_, rfl, ?_⟩; have p143 : 0 ≤ (x3_1 : Int) := odt; have q143 : x3_1 < (l0.length : Int) := odt; obtain ⟨ad143, e143, hx143_0, hx143_1, hx143_2⟩ := at_T28 HR0.out x3_1 p143 q143; obtain rfl : ad141 = ad143 := (by injection e143); replace hx143_0 := (HB.out.cell (World.block_lt_of_cell? w _ hx143_0)).trans hx143_0; replace hx143_1 := (HB.out.cell (World.block_lt_of_cell? w _ hx143_1)).trans hx143_1; replace hx143_2 := (HB.out.cell (World.block_lt_of_cell? w _ hx143_2)).trans hx143_2; replace p143 := eq_true p143; replace q143 := eq_true q143; have p144 : 0 ≤ (x3_1 : Int) := odt; have q144 : x3_1 < (l0.length : Int) := odt; obtain ⟨ad144, e144, hx144_0, hx144_1, hx144_2⟩ := at_T28 HR0.out x3_1 p144 q144; obtain rfl : ad141 = ad144 := (by injection e144); replace hx144_0 := (HB.out.cell (World.block_lt_of_cell? w _ hx144_0)).trans hx144_0; replace hx144_1 := (HB.out.cell (World.block_lt_of_cell? w _ hx144_1)).trans hx144_1; replace hx144_2 := (HB.out.cell (World.block_lt_of_cell? w _ hx144_2)).trans hx144_2; replace p144 := eq_true p144; replace q144 := eq_true q144) | (go_at_call 20; (with_reducible refine (laws_holds.calls k1 ((rd_T28 l0 x3_1).f2) (⟨#[91]⟩ : ByteArray) false _ A8.out).mono ?_); rintro e w' ⟨rfl, ⟨nd, rfl⟩⟩; have p146 : 0 ≤ (x3_1 : Int) := odt; have q146 : x3_1 < (l0.length : Int) := odt; obtain ⟨ad146, e146, hx146_0, hx146_1, hx146_2⟩ := at_T28 HR0.out x3_1 p146 q146; obtain rfl : ad141 = ad146 := (by injection e146); replace hx146_0 := (HB.out.cell (World.block_lt_of_cell? w _ hx146_0)).trans hx146_0; replace hx146_1 := (HB.out.cell (World.block_lt_of_cell? w _ hx146_1)).trans hx146_1; replace hx146_2 := (HB.out.cell (World.block_lt_of_cell? w _ hx146_2)).trans hx146_2; replace p146 := eq_true p146; replace q146 := eq_true q146) | (go_at_call 20; (with_reducible refine (laws_holds.calls k1 ((rd_T28 l0 x3_1).f2) (⟨#[93]⟩ : ByteArray) false _ A10.out).mono ?_); rintro e w' ⟨rfl, ⟨nd, rfl⟩⟩))
          go_roundg k1
          case measure => have := HK1.out; omega
          case rel => exact ⟨(wrap64 (x3_1 + 1)), orf, H', ⟨by have := HK1.out; omega⟩, ⟨by repeat (first | (with_reducible first | exact HB.out | apply below_alloc | apply pw_below_drewN | apply below_drew1) | exact HB.out)⟩⟩
       ·rw [if_neg c7] at H
        have c7b0 : (((rd_T28 l0 x3_1).f0).toList == ([109] : List UInt8)) = false := beq_eq_false_iff_ne.mpr c7
        have c7b1 : (((rd_T28 l0 x3_1).f0).toList != ([109] : List UInt8)) = true := bne_iff_ne.mpr c7
        have H' := Aside0.mk H
        clear H
        have p141 : 0 ≤ (x3_1 : Int) := odt
        have q141 : x3_1 < (l0.length : Int) := odt
        obtain ⟨ad141, e141, hx141_0, hx141_1, hx141_2⟩ := at_T28 HR0.out x3_1 p141 q141
        cases e141
        replace hx141_0 := (HB.out.cell (World.block_lt_of_cell? w _ hx141_0)).trans hx141_0
        replace hx141_1 := (HB.out.cell (World.block_lt_of_cell? w _ hx141_1)).trans hx141_1
        replace hx141_2 := (HB.out.cell (World.block_lt_of_cell? w _ hx141_2)).trans hx141_2
        replace p141 := eq_true p141
        replace q141 := eq_true q141
        go_wp2_with (first | ((with_reducible refine gate_callee (f := 23) rfl ?_); refine goesL_ (some 18) rfl rfl Tryz.func23 (by kernel_rfl) rfl #[.string ((rd_T28 l0 x3_1).f2)] rfl (by (try simp only [List.map_toArray, List.map_cons, List.map_nil]); first | done | rfl | (simp only [List.length_drop, List.length_take]; rfl)) ?_; (with_reducible refine (spec_Apart.calls k1 ((rd_T28 l0 x3_1).f2) true _ A5.out).mono ?_); rintro e w' ⟨rfl, ⟨nd, rfl⟩⟩; refine ⟨_, rfl, ?_⟩; have p143 : 0 ≤ (x3_1 : Int) := odt; have q143 : x3_1 < (l0.length : Int) := odt; obtain ⟨ad143, e143, hx143_0, hx143_1, hx143_2⟩ := at_T28 HR0.out x3_1 p143 q143; obtain rfl : ad141 = ad143 := (by injection e143); replace hx143_0 := (HB.out.cell (World.block_lt_of_cell? w _ hx143_0)).trans hx143_0; replace hx143_1 := (HB.out.cell (World.block_lt_of_cell? w _ hx143_1)).trans hx143_1; replace hx143_2 := (HB.out.cell (World.block_lt_of_cell? w _ hx143_2)).trans hx143_2; replace p143 := eq_true p143; replace q143 := eq_true q143))
        go_roundg k1
        case measure => have := HK1.out; omega
        case rel => exact ⟨(wrap64 (x3_1 + 1)), orf, H', ⟨by have := HK1.out; omega⟩, ⟨by repeat (first | (with_reducible first | exact HB.out | apply below_alloc | apply pw_below_drewN | apply below_drew1) | exact HB.out)⟩⟩
      ·replace c6 := Bool.eq_false_iff.mpr c6
       subst c6
       have H1 : (some false) = some r := by rw [if_neg (show ¬ (false = true) by decide)] at H; exact H
       clear H
       have H := H1
       clear H1
       obtain rfl := Option.some.inj H
       have p141 : 0 ≤ (x3_1 : Int) := odt
       have q141 : x3_1 < (l0.length : Int) := odt
       obtain ⟨ad141, e141, hx141_0, hx141_1, hx141_2⟩ := at_T28 HR0.out x3_1 p141 q141
       cases e141
       replace hx141_0 := (HB.out.cell (World.block_lt_of_cell? w _ hx141_0)).trans hx141_0
       replace hx141_1 := (HB.out.cell (World.block_lt_of_cell? w _ hx141_1)).trans hx141_1
       replace hx141_2 := (HB.out.cell (World.block_lt_of_cell? w _ hx141_2)).trans hx141_2
       replace p141 := eq_true p141
       replace q141 := eq_true q141
       go_wp2_with (first | ((with_reducible refine gate_callee (f := 23) rfl ?_); refine goesL_ (some 18) rfl rfl Tryz.func23 (by kernel_rfl) rfl #[.string ((rd_T28 l0 x3_1).f2)] rfl (by (try simp only [List.map_toArray, List.map_cons, List.map_nil]); first | done | rfl | (simp only [List.length_drop, List.length_take]; rfl)) ?_; (with_reducible refine (spec_Apart.calls k1 ((rd_T28 l0 x3_1).f2) false _ A5.out).mono ?_); rintro e w' ⟨rfl, ⟨nd, rfl⟩⟩; refine ⟨_, rfl, ?_⟩))
       go_ret
       exact ⟨by first | rfl | (simp [errW_none, errW_some] <;> rfl) | (simp [*, errW_none, errW_some] <;> rfl), by repeat (first | (with_reducible first | exact HB.out | apply below_alloc | apply pw_below_drewN | apply below_drew1) | exact HB.out)⟩
     ·rw [if_neg c4] at H
      exact absurd H (by simp)
    ·rw [if_neg c3] at H
     have c3b0 : decide (x3_1 < (l0.length : Int)) = false := decide_eq_false c3
     clear c3
     by_cases c12 : (l0.length : Int) ≤ 12
     ·rw [if_pos c12] at H
      have c12b0 : decide ((l0.length : Int) ≤ 12) = true := decide_eq_true c12
      have c12b1 : decide (l0.length ≤ 12) = true := decide_eq_true (by omega)
      clear c12
      replace H := Option.bind_eq_some_iff.mp H
      obtain ⟨t140, A130, H⟩ := H
      replace H : (some t140) = some r := H
      have A13 := Aside0.mk A130
      clear A130
      obtain rfl := Option.some.inj H
      go_wp2_with (first | (go_at_call 24; (with_reducible refine (spec_Modelled.calls k1 _ _ l0 t140 _ ?side1 ?side2 A13.out).mono ?_); (case side1 => repeat (first | exact (Kd.C_below HR0.out HB.out) | (with_reducible refine Kd.C_alloc ?_ _) | (with_reducible refine Kd.C_drewN ?_ _) | (with_reducible refine Kd.C_drew ?_))); (case side2 => exact HC0.out); rintro e w14 ⟨rfl, hb⟩; have n0_ := Aside0.mk (below_step (by repeat (first | (with_reducible first | exact HB.out | apply below_alloc | apply pw_below_drewN | apply below_drew1) | exact HB.out)) hb); clear HB; have HB := n0_; clear n0_; (try clear hb); (try clear hb2); (try clear hk); (try clear hi)))
      go_ret
      exact ⟨by first | rfl | (simp [errW_none, errW_some] <;> rfl) | (simp [*, errW_none, errW_some] <;> rfl), by repeat (first | (with_reducible first | exact HB.out | apply below_alloc | apply pw_below_drewN | apply below_drew1) | exact HB.out)⟩
     ·rw [if_neg c12] at H
      have c12b0 : decide ((l0.length : Int) ≤ 12) = false := decide_eq_false c12
      have c12b1 : decide (l0.length ≤ 12) = false := decide_eq_false (by omega)
      clear c12
      obtain rfl := Option.some.inj H
      go_wp2
      go_ret
      exact ⟨by first | rfl | (simp [errW_none, errW_some] <;> rfl) | (simp [*, errW_none, errW_some] <;> rfl), by repeat (first | (with_reducible first | exact HB.out | apply below_alloc | apply pw_below_drewN | apply below_drew1) | exact HB.out)⟩

end Go.Proofs.YtjglpjlbnmpdfaaGreatDoor.PFnModelAdd
