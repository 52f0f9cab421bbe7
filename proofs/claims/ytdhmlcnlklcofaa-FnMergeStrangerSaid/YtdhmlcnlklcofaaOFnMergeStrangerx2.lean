/- The machine side of laws.FnMergeStranger: each function of this text answers what its Lean function answers (written for this claim by a program of this session over the kit's print; no condition beyond what each theorem says). -/
import Derived.Test.YtdhmlcnlklcofaaOFnMergeStrangerx0
import Derived.Test.YtdhmlcnlklcofaaOFnMergeStrangerx1
namespace Go.Proofs.Ytdhmlcnlklcofaa.PFnMergeStranger
open Go.RowKit Go.Proofs.YtdhmlcnlklcofaaW.PrintWords Go.Proofs.YtdhmlcnlklcofaaW.PrintLast Go.Proofs.YtdhmlcnlklcofaaW.PrintMore
attribute [local go_sem] bin_fb_eq bin_fb_neq max2_int min2_int max_two min_two max_three min_three max_four min_four   -- for this text's walks alone
set_option linter.unusedVariables false
set_option linter.unusedSimpArgs false

/-! ### effector_DefaultEffector_MergeEffects: function 49 -/
mutual
def effector_DefaultEffector_MergeEffects.j0 : Nat → Int → Int → Int → Int → Bool → Option (Int × Int × Option Int)
  | 0, _, _, _, _, _ => none
  | k + 1, x4, x5, x15, x16, x48 => if x48 = true then (some (2, x4, none)) else (if x4 = (wrap64 (x5 - 1)) then (some (0, x16, none)) else (some (x15, x16, none)))
def effector_DefaultEffector_MergeEffects.j1 : Nat → List Int → List Int → Int → Int → Int → Int → Bool → Option (Int × Int × Option Int)
  | 0, _, _, _, _, _, _, _ => none
  | k + 1, x2, x3, x4, x5, x15, x16, x67 => if x67 = true then (some (2, x4, none)) else (if x4 < (wrap64 (x5 - 1)) then (some (x15, x16, none)) else (effector_DefaultEffector_MergeEffects.l0 k x3 x15 x16 x2 (x2.length : Int) 0))
def effector_DefaultEffector_MergeEffects.l0 : Nat → List Int → Int → Int → List Int → Int → Int → Option (Int × Int × Option Int)
  | 0, _, _, _, _, _, _ => none
  | k + 1, x3, x15, x16, x75, x76, x77 => if x77 < x76 then (if 0 ≤ x77 then (if x77 < (x75.length : Int) then (if x77 < (x3.length : Int) then (if (rd x3 x77) = 0 then (effector_DefaultEffector_MergeEffects.l0 k x3 x15 x16 x75 x76 (wrap64 (x77 + 1))) else (if (rd x75 x77) = 0 then (some (0, x77, none)) else (effector_DefaultEffector_MergeEffects.l0 k x3 x15 x16 x75 x76 (wrap64 (x77 + 1))))) else (none)) else (none)) else (none)) else (some (x15, x16, none))
def effector_DefaultEffector_MergeEffects.j3 : Nat → List Int → List Int → Int → Int → Bool → Option (Int × Int × Option Int)
  | 0, _, _, _, _, _ => none
  | k + 1, x2, x3, x15, x16, x91 => if x91 = true then (effector_DefaultEffector_MergeEffects.l1 k x2 x3 x15 x16 (wrap64 ((x2.length : Int) - 1))) else ((errors_New.f (⟨#[117, 110, 115, 117, 112, 112, 111, 114, 116, 101, 100, 32, 101, 102, 102, 101, 99, 116]⟩ : ByteArray)).bind fun t114 => (some (2, (-1), t114)))
def effector_DefaultEffector_MergeEffects.l1 : Nat → List Int → List Int → Int → Int → Int → Option (Int × Int × Option Int)
  | 0, _, _, _, _, _ => none
  | k + 1, x2, x3, x15, x16, x19 => if x19 ≥ 0 then (if 0 ≤ x19 then (if x19 < (x3.length : Int) then (if (rd x3 x19) = 0 then (effector_DefaultEffector_MergeEffects.l1 k x2 x3 x15 x16 (wrap64 (x19 - 1))) else (if x19 < (x2.length : Int) then (if (rd x2 x19) = 1 then (effector_DefaultEffector_MergeEffects.l1 k x2 x3 x15 x16 (wrap64 (x19 - 1))) else (if (rd x2 x19) = 0 then (some (0, x19, none)) else (some (2, x19, none)))) else (none))) else (none)) else (none)) else (some (x15, x16, none))
end
def effector_DefaultEffector_MergeEffects.f (k : Nat) (a0 : Int) (a1 : ByteArray) (l2 : List Int) (l3 : List Int) (a4 : Int) (a5 : Int) : Option (Int × Int × Option Int) := if a1.toList = ([115, 111, 109, 101, 40, 119, 104, 101, 114, 101, 32, 40, 112, 95, 101, 102, 116, 32, 61, 61, 32, 97, 108, 108, 111, 119, 41, 41] : List UInt8) then (if 0 ≤ a4 then (if a4 < (l3.length : Int) then (if (rd l3 a4) = 0 then (some (1, (-1), none)) else (if a4 < (l2.length : Int) then (if (rd l2 a4) = 0 then (some (0, a4, none)) else (some (1, (-1), none))) else (none))) else (none)) else (none)) else (if a1.toList = ([33, 115, 111, 109, 101, 40, 119, 104, 101, 114, 101, 32, 40, 112, 95, 101, 102, 116, 32, 61, 61, 32, 100, 101, 110, 121, 41, 41] : List UInt8) then (if 0 ≤ a4 then (if a4 < (l3.length : Int) then (if (rd l3 a4) = 0 then (effector_DefaultEffector_MergeEffects.j0 k a4 a5 1 (-1) false) else (if a4 < (l2.length : Int) then (effector_DefaultEffector_MergeEffects.j0 k a4 a5 1 (-1) ((rd l2 a4) == 2)) else (none))) else (none)) else (none)) else (if a1.toList = ([115, 111, 109, 101, 40, 119, 104, 101, 114, 101, 32, 40, 112, 95, 101, 102, 116, 32, 61, 61, 32, 97, 108, 108, 111, 119, 41, 41, 32, 38, 38, 32, 33, 115, 111, 109, 101, 40, 119, 104, 101, 114, 101, 32, 40, 112, 95, 101, 102, 116, 32, 61, 61, 32, 100, 101, 110, 121, 41, 41] : List UInt8) then (if 0 ≤ a4 then (if a4 < (l3.length : Int) then (if (rd l3 a4) = 0 then (effector_DefaultEffector_MergeEffects.j1 k l2 l3 a4 a5 1 (-1) false) else (if a4 < (l2.length : Int) then (effector_DefaultEffector_MergeEffects.j1 k l2 l3 a4 a5 1 (-1) ((rd l2 a4) == 2)) else (none))) else (none)) else (none)) else (if a1.toList = ([112, 114, 105, 111, 114, 105, 116, 121, 40, 112, 95, 101, 102, 116, 41, 32, 124, 124, 32, 100, 101, 110, 121] : List UInt8) then (effector_DefaultEffector_MergeEffects.j3 k l2 l3 1 (-1) (a1.toList == ([112, 114, 105, 111, 114, 105, 116, 121, 40, 112, 95, 101, 102, 116, 41, 32, 124, 124, 32, 100, 101, 110, 121] : List UInt8))) else (effector_DefaultEffector_MergeEffects.j3 k l2 l3 1 (-1) (a1.toList == ([115, 117, 98, 106, 101, 99, 116, 80, 114, 105, 111, 114, 105, 116, 121, 40, 112, 95, 101, 102, 116, 41, 32, 124, 124, 32, 100, 101, 110, 121] : List UInt8))))))
theorem effector_DefaultEffector_MergeEffects.mono_l : ∀ k, (∀ y0 y1 y2 y3 y4, LeO (effector_DefaultEffector_MergeEffects.j0 k y0 y1 y2 y3 y4) (effector_DefaultEffector_MergeEffects.j0 (k + 1) y0 y1 y2 y3 y4)) ∧ (∀ y0 y1 y2 y3 y4 y5 y6, LeO (effector_DefaultEffector_MergeEffects.j1 k y0 y1 y2 y3 y4 y5 y6) (effector_DefaultEffector_MergeEffects.j1 (k + 1) y0 y1 y2 y3 y4 y5 y6)) ∧ (∀ y0 y1 y2 y3 y4 y5, LeO (effector_DefaultEffector_MergeEffects.l0 k y0 y1 y2 y3 y4 y5) (effector_DefaultEffector_MergeEffects.l0 (k + 1) y0 y1 y2 y3 y4 y5)) ∧ (∀ y0 y1 y2 y3 y4, LeO (effector_DefaultEffector_MergeEffects.j3 k y0 y1 y2 y3 y4) (effector_DefaultEffector_MergeEffects.j3 (k + 1) y0 y1 y2 y3 y4)) ∧ (∀ y0 y1 y2 y3 y4, LeO (effector_DefaultEffector_MergeEffects.l1 k y0 y1 y2 y3 y4) (effector_DefaultEffector_MergeEffects.l1 (k + 1) y0 y1 y2 y3 y4))
  | 0 => ⟨fun _ _ _ _ _ r h => by simp [effector_DefaultEffector_MergeEffects.j0] at h, fun _ _ _ _ _ _ _ r h => by simp [effector_DefaultEffector_MergeEffects.j1] at h, fun _ _ _ _ _ _ r h => by simp [effector_DefaultEffector_MergeEffects.l0] at h, fun _ _ _ _ _ r h => by simp [effector_DefaultEffector_MergeEffects.j3] at h, fun _ _ _ _ _ r h => by simp [effector_DefaultEffector_MergeEffects.l1] at h⟩
  | k + 1 => by
    obtain ⟨ih0, ih1, ih2, ih3, ih4⟩ := effector_DefaultEffector_MergeEffects.mono_l k
    refine ⟨?_, ?_, ?_, ?_, ?_⟩
    · intro y0 y1 y2 y3 y4
      unfold effector_DefaultEffector_MergeEffects.j0
      repeat' first
      | (with_reducible exact ih0 _ _ _ _ _)
      | (with_reducible exact ih1 _ _ _ _ _ _ _)
      | (with_reducible exact ih2 _ _ _ _ _ _)
      | (with_reducible exact ih3 _ _ _ _ _)
      | (with_reducible exact ih4 _ _ _ _ _)
      | (with_reducible exact LeO.refl _)
      | (with_reducible exact LeO.none _)
      | (with_reducible refine LeO.ite ?_ ?_)
      | (with_reducible refine LeO.bind ?_ (fun _ => ?_))
      | exact ih0 _ _ _ _ _
      | exact ih1 _ _ _ _ _ _ _
      | exact ih2 _ _ _ _ _ _
      | exact ih3 _ _ _ _ _
      | exact ih4 _ _ _ _ _
      | exact LeO.none _
      | refine LeO.ite ?_ ?_
      | refine LeO.bind ?_ (fun _ => ?_)
    · intro y0 y1 y2 y3 y4 y5 y6
      unfold effector_DefaultEffector_MergeEffects.j1
      repeat' first
      | (with_reducible exact ih0 _ _ _ _ _)
      | (with_reducible exact ih1 _ _ _ _ _ _ _)
      | (with_reducible exact ih2 _ _ _ _ _ _)
      | (with_reducible exact ih3 _ _ _ _ _)
      | (with_reducible exact ih4 _ _ _ _ _)
      | (with_reducible exact LeO.refl _)
      | (with_reducible exact LeO.none _)
      | (with_reducible refine LeO.ite ?_ ?_)
      | (with_reducible refine LeO.bind ?_ (fun _ => ?_))
      | exact ih0 _ _ _ _ _
      | exact ih1 _ _ _ _ _ _ _
      | exact ih2 _ _ _ _ _ _
      | exact ih3 _ _ _ _ _
      | exact ih4 _ _ _ _ _
      | exact LeO.none _
      | refine LeO.ite ?_ ?_
      | refine LeO.bind ?_ (fun _ => ?_)
    · intro y0 y1 y2 y3 y4 y5
      unfold effector_DefaultEffector_MergeEffects.l0
      repeat' first
      | (with_reducible exact ih0 _ _ _ _ _)
      | (with_reducible exact ih1 _ _ _ _ _ _ _)
      | (with_reducible exact ih2 _ _ _ _ _ _)
      | (with_reducible exact ih3 _ _ _ _ _)
      | (with_reducible exact ih4 _ _ _ _ _)
      | (with_reducible exact LeO.refl _)
      | (with_reducible exact LeO.none _)
      | (with_reducible refine LeO.ite ?_ ?_)
      | (with_reducible refine LeO.bind ?_ (fun _ => ?_))
      | exact ih0 _ _ _ _ _
      | exact ih1 _ _ _ _ _ _ _
      | exact ih2 _ _ _ _ _ _
      | exact ih3 _ _ _ _ _
      | exact ih4 _ _ _ _ _
      | exact LeO.none _
      | refine LeO.ite ?_ ?_
      | refine LeO.bind ?_ (fun _ => ?_)
    · intro y0 y1 y2 y3 y4
      unfold effector_DefaultEffector_MergeEffects.j3
      repeat' first
      | (with_reducible exact ih0 _ _ _ _ _)
      | (with_reducible exact ih1 _ _ _ _ _ _ _)
      | (with_reducible exact ih2 _ _ _ _ _ _)
      | (with_reducible exact ih3 _ _ _ _ _)
      | (with_reducible exact ih4 _ _ _ _ _)
      | (with_reducible exact LeO.refl _)
      | (with_reducible exact LeO.none _)
      | (with_reducible refine LeO.ite ?_ ?_)
      | (with_reducible refine LeO.bind ?_ (fun _ => ?_))
      | exact ih0 _ _ _ _ _
      | exact ih1 _ _ _ _ _ _ _
      | exact ih2 _ _ _ _ _ _
      | exact ih3 _ _ _ _ _
      | exact ih4 _ _ _ _ _
      | exact LeO.none _
      | refine LeO.ite ?_ ?_
      | refine LeO.bind ?_ (fun _ => ?_)
    · intro y0 y1 y2 y3 y4
      unfold effector_DefaultEffector_MergeEffects.l1
      repeat' first
      | (with_reducible exact ih0 _ _ _ _ _)
      | (with_reducible exact ih1 _ _ _ _ _ _ _)
      | (with_reducible exact ih2 _ _ _ _ _ _)
      | (with_reducible exact ih3 _ _ _ _ _)
      | (with_reducible exact ih4 _ _ _ _ _)
      | (with_reducible exact LeO.refl _)
      | (with_reducible exact LeO.none _)
      | (with_reducible refine LeO.ite ?_ ?_)
      | (with_reducible refine LeO.bind ?_ (fun _ => ?_))
      | exact ih0 _ _ _ _ _
      | exact ih1 _ _ _ _ _ _ _
      | exact ih2 _ _ _ _ _ _
      | exact ih3 _ _ _ _ _
      | exact ih4 _ _ _ _ _
      | exact LeO.none _
      | refine LeO.ite ?_ ?_
      | refine LeO.bind ?_ (fun _ => ?_)
theorem effector_DefaultEffector_MergeEffects.mono : ∀ a0 a1 a2 a3 a4 a5 k, LeO (effector_DefaultEffector_MergeEffects.f k a0 a1 a2 a3 a4 a5) (effector_DefaultEffector_MergeEffects.f (k + 1) a0 a1 a2 a3 a4 a5) := by
  intro a0 a1 a2 a3 a4 a5 k
  obtain ⟨ih0, ih1, ih2, ih3, ih4⟩ := effector_DefaultEffector_MergeEffects.mono_l k
  unfold effector_DefaultEffector_MergeEffects.f
  repeat' first
      | (with_reducible exact ih0 _ _ _ _ _)
      | (with_reducible exact ih1 _ _ _ _ _ _ _)
      | (with_reducible exact ih2 _ _ _ _ _ _)
      | (with_reducible exact ih3 _ _ _ _ _)
      | (with_reducible exact ih4 _ _ _ _ _)
      | (with_reducible exact LeO.refl _)
      | (with_reducible exact LeO.none _)
      | (with_reducible refine LeO.ite ?_ ?_)
      | (with_reducible refine LeO.bind ?_ (fun _ => ?_))
      | exact ih0 _ _ _ _ _
      | exact ih1 _ _ _ _ _ _ _
      | exact ih2 _ _ _ _ _ _
      | exact ih3 _ _ _ _ _
      | exact ih4 _ _ _ _ _
      | exact LeO.none _
      | refine LeO.ite ?_ ?_
      | refine LeO.bind ?_ (fun _ => ?_)
set_option maxHeartbeats 8000000 in
set_option maxRecDepth 100000 in
theorem effector_DefaultEffector_MergeEffects.calls (pa : Option Addr) (k : Nat) (a0 : Int) (a1 : ByteArray) (A2 : Option Addr) (c2 : Nat) (l2 : List Int) (A3 : Option Addr) (c3 : Nat) (l3 : List Int) (a4 : Int) (a5 : Int) (r1 : Int) (r2 : Int) (r3 : Option Int) (w : World) (hr2 : Kd.C (Kd.int .i64) w A2 l2.length l2) (hc2 : l2.length ≤ c2) (hr3 : Kd.C Kd_flt w A3 l3.length l3) (hc3 : l3.length ≤ c3) (h : effector_DefaultEffector_MergeEffects.f k a0 a1 l2 l3 a4 a5 = some (r1, r2, r3)) :
    Calls Try.prog 49 #[.pointer pa, .string a1, .slice A2 l2.length c2, .slice A3 l3.length c3, .int .i64 a4, .int .i64 a5] w fun e w' => (∃ ev, EV r3 ev ∧ e = .returned (.tuple #[.int .i64 r1, .int .i64 r2, ev])) ∧ Below w.heap.size w w' := by
  have HR2 := Aside0.mk hr2
  have HC2 := Aside0.mk hc2
  clear hr2 hc2
  have HR3 := Aside0.mk hr3
  have HC3 := Aside0.mk hc3
  clear hr3 hc3
  have HB := Aside0.mk (Below.refl w.heap.size w)
  have H : (if a1.toList = ([115, 111, 109, 101, 40, 119, 104, 101, 114, 101, 32, 40, 112, 95, 101, 102, 116, 32, 61, 61, 32, 97, 108, 108, 111, 119, 41, 41] : List UInt8) then (if 0 ≤ a4 then (if a4 < (l3.length : Int) then (if (rd l3 a4) = 0 then (some (1, (-1), none)) else (if a4 < (l2.length : Int) then (if (rd l2 a4) = 0 then (some (0, a4, none)) else (some (1, (-1), none))) else (none))) else (none)) else (none)) else (if a1.toList = ([33, 115, 111, 109, 101, 40, 119, 104, 101, 114, 101, 32, 40, 112, 95, 101, 102, 116, 32, 61, 61, 32, 100, 101, 110, 121, 41, 41] : List UInt8) then (if 0 ≤ a4 then (if a4 < (l3.length : Int) then (if (rd l3 a4) = 0 then (effector_DefaultEffector_MergeEffects.j0 k a4 a5 1 (-1) false) else (if a4 < (l2.length : Int) then (effector_DefaultEffector_MergeEffects.j0 k a4 a5 1 (-1) ((rd l2 a4) == 2)) else (none))) else (none)) else (none)) else (if a1.toList = ([115, 111, 109, 101, 40, 119, 104, 101, 114, 101, 32, 40, 112, 95, 101, 102, 116, 32, 61, 61, 32, 97, 108, 108, 111, 119, 41, 41, 32, 38, 38, 32, 33, 115, 111, 109, 101, 40, 119, 104, 101, 114, 101, 32, 40, 112, 95, 101, 102, 116, 32, 61, 61, 32, 100, 101, 110, 121, 41, 41] : List UInt8) then (if 0 ≤ a4 then (if a4 < (l3.length : Int) then (if (rd l3 a4) = 0 then (effector_DefaultEffector_MergeEffects.j1 k l2 l3 a4 a5 1 (-1) false) else (if a4 < (l2.length : Int) then (effector_DefaultEffector_MergeEffects.j1 k l2 l3 a4 a5 1 (-1) ((rd l2 a4) == 2)) else (none))) else (none)) else (none)) else (if a1.toList = ([112, 114, 105, 111, 114, 105, 116, 121, 40, 112, 95, 101, 102, 116, 41, 32, 124, 124, 32, 100, 101, 110, 121] : List UInt8) then (effector_DefaultEffector_MergeEffects.j3 k l2 l3 1 (-1) (a1.toList == ([112, 114, 105, 111, 114, 105, 116, 121, 40, 112, 95, 101, 102, 116, 41, 32, 124, 124, 32, 100, 101, 110, 121] : List UInt8))) else (effector_DefaultEffector_MergeEffects.j3 k l2 l3 1 (-1) (a1.toList == ([115, 117, 98, 106, 101, 99, 116, 80, 114, 105, 111, 114, 105, 116, 121, 40, 112, 95, 101, 102, 116, 41, 32, 124, 124, 32, 100, 101, 110, 121] : List UInt8))))))) = some (r1, r2, r3) := h
  clear h
  by_cases c7 : a1.toList = ([115, 111, 109, 101, 40, 119, 104, 101, 114, 101, 32, 40, 112, 95, 101, 102, 116, 32, 61, 61, 32, 97, 108, 108, 111, 119, 41, 41] : List UInt8)
  · rw [if_pos c7] at H
    have c7b0 : (a1.toList == ([115, 111, 109, 101, 40, 119, 104, 101, 114, 101, 32, 40, 112, 95, 101, 102, 116, 32, 61, 61, 32, 97, 108, 108, 111, 119, 41, 41] : List UInt8)) = true := beq_iff_eq.mpr c7
    have c7b1 : (a1.toList != ([115, 111, 109, 101, 40, 119, 104, 101, 114, 101, 32, 40, 112, 95, 101, 102, 116, 32, 61, 61, 32, 97, 108, 108, 111, 119, 41, 41] : List UInt8)) = false := bne_eq_false_iff_eq.mpr c7
    clear c7
    by_cases c8 : 0 ≤ a4
    · rw [if_pos c8] at H
      have c8b0 : decide (0 ≤ a4) = true := decide_eq_true c8
      clear c8
      by_cases c9 : a4 < (l3.length : Int)
      · rw [if_pos c9] at H
        have c9b0 : decide (a4 < (l3.length : Int)) = true := decide_eq_true c9
        clear c9
        by_cases c10 : (rd l3 a4) = 0
        · rw [if_pos c10] at H
          have c10b0 : ((rd l3 a4) == 0) = true := beq_iff_eq.mpr c10
          have c10b1 : ((rd l3 a4) != 0) = false := bne_eq_false_iff_eq.mpr c10
          clear c10
          simp only [Option.some.injEq, Prod.mk.injEq] at H
          obtain ⟨rfl, rfl, rfl⟩ := H
          have p103 : 0 ≤ (a4 : Int) := of_decide_eq_true (by first | (with_reducible assumption) | assumption)
          have q103 : a4 < (l3.length : Int) := of_decide_eq_true (by first | (with_reducible assumption) | assumption)
          obtain ⟨ad103, e103, hx103_0⟩ := at_flt HR3.out a4 p103 q103
          cases e103
          replace p103 := eq_true p103
          replace q103 := eq_true q103
          go_enter Try.func49, Try.ntmps49
          go_wp2
          go_ret3
          exact ⟨by first | exact ⟨_, rfl, rfl⟩ | exact ⟨_, hev_, rfl⟩ | rfl | (simp [errW_none, errW_some] <;> rfl) | (simp [*, errW_none, errW_some] <;> rfl), by repeat (first | (with_reducible first | exact HB.out | apply below_alloc | apply pw_below_drewN | apply below_drew1) | exact HB.out)⟩
        · rw [if_neg c10] at H
          have c10b0 : ((rd l3 a4) == 0) = false := beq_eq_false_iff_ne.mpr c10
          have c10b1 : ((rd l3 a4) != 0) = true := bne_iff_ne.mpr c10
          by_cases c11 : a4 < (l2.length : Int)
          · rw [if_pos c11] at H
            have c11b0 : decide (a4 < (l2.length : Int)) = true := decide_eq_true c11
            clear c11
            by_cases c12 : (rd l2 a4) = 0
            · rw [if_pos c12] at H
              have c12b0 : ((rd l2 a4) == 0) = true := beq_iff_eq.mpr c12
              have c12b1 : ((rd l2 a4) != 0) = false := bne_eq_false_iff_eq.mpr c12
              clear c12
              simp only [Option.some.injEq, Prod.mk.injEq] at H
              obtain ⟨rfl, rfl, rfl⟩ := H
              have p103 : 0 ≤ (a4 : Int) := of_decide_eq_true (by first | (with_reducible assumption) | assumption)
              have q103 : a4 < (l3.length : Int) := of_decide_eq_true (by first | (with_reducible assumption) | assumption)
              obtain ⟨ad103, e103, hx103_0⟩ := at_flt HR3.out a4 p103 q103
              cases e103
              replace p103 := eq_true p103
              replace q103 := eq_true q103
              have p104 : 0 ≤ (a4 : Int) := of_decide_eq_true (by first | (with_reducible assumption) | assumption)
              have q104 : a4 < (l2.length : Int) := of_decide_eq_true (by first | (with_reducible assumption) | assumption)
              obtain ⟨ad104, e104, hx104_0⟩ := Kd.at_int HR2.out a4 p104 q104
              cases e104
              replace p104 := eq_true p104
              replace q104 := eq_true q104
              go_enter Try.func49, Try.ntmps49
              go_wp2
              go_ret3
              exact ⟨by first | exact ⟨_, rfl, rfl⟩ | exact ⟨_, hev_, rfl⟩ | rfl | (simp [errW_none, errW_some] <;> rfl) | (simp [*, errW_none, errW_some] <;> rfl), by repeat (first | (with_reducible first | exact HB.out | apply below_alloc | apply pw_below_drewN | apply below_drew1) | exact HB.out)⟩
            · rw [if_neg c12] at H
              have c12b0 : ((rd l2 a4) == 0) = false := beq_eq_false_iff_ne.mpr c12
              have c12b1 : ((rd l2 a4) != 0) = true := bne_iff_ne.mpr c12
              simp only [Option.some.injEq, Prod.mk.injEq] at H
              obtain ⟨rfl, rfl, rfl⟩ := H
              have p103 : 0 ≤ (a4 : Int) := of_decide_eq_true (by first | (with_reducible assumption) | assumption)
              have q103 : a4 < (l3.length : Int) := of_decide_eq_true (by first | (with_reducible assumption) | assumption)
              obtain ⟨ad103, e103, hx103_0⟩ := at_flt HR3.out a4 p103 q103
              cases e103
              replace p103 := eq_true p103
              replace q103 := eq_true q103
              have p104 : 0 ≤ (a4 : Int) := of_decide_eq_true (by first | (with_reducible assumption) | assumption)
              have q104 : a4 < (l2.length : Int) := of_decide_eq_true (by first | (with_reducible assumption) | assumption)
              obtain ⟨ad104, e104, hx104_0⟩ := Kd.at_int HR2.out a4 p104 q104
              cases e104
              replace p104 := eq_true p104
              replace q104 := eq_true q104
              go_enter Try.func49, Try.ntmps49
              go_wp2
              go_ret3
              exact ⟨by first | exact ⟨_, rfl, rfl⟩ | exact ⟨_, hev_, rfl⟩ | rfl | (simp [errW_none, errW_some] <;> rfl) | (simp [*, errW_none, errW_some] <;> rfl), by repeat (first | (with_reducible first | exact HB.out | apply below_alloc | apply pw_below_drewN | apply below_drew1) | exact HB.out)⟩
          · rw [if_neg c11] at H
            exact absurd H (by simp)
      · rw [if_neg c9] at H
        exact absurd H (by simp)
    · rw [if_neg c8] at H
      exact absurd H (by simp)
  · rw [if_neg c7] at H
    have c7b0 : (a1.toList == ([115, 111, 109, 101, 40, 119, 104, 101, 114, 101, 32, 40, 112, 95, 101, 102, 116, 32, 61, 61, 32, 97, 108, 108, 111, 119, 41, 41] : List UInt8)) = false := beq_eq_false_iff_ne.mpr c7
    have c7b1 : (a1.toList != ([115, 111, 109, 101, 40, 119, 104, 101, 114, 101, 32, 40, 112, 95, 101, 102, 116, 32, 61, 61, 32, 97, 108, 108, 111, 119, 41, 41] : List UInt8)) = true := bne_iff_ne.mpr c7
    by_cases c13 : a1.toList = ([33, 115, 111, 109, 101, 40, 119, 104, 101, 114, 101, 32, 40, 112, 95, 101, 102, 116, 32, 61, 61, 32, 100, 101, 110, 121, 41, 41] : List UInt8)
    · rw [if_pos c13] at H
      have c13b0 : (a1.toList == ([33, 115, 111, 109, 101, 40, 119, 104, 101, 114, 101, 32, 40, 112, 95, 101, 102, 116, 32, 61, 61, 32, 100, 101, 110, 121, 41, 41] : List UInt8)) = true := beq_iff_eq.mpr c13
      have c13b1 : (a1.toList != ([33, 115, 111, 109, 101, 40, 119, 104, 101, 114, 101, 32, 40, 112, 95, 101, 102, 116, 32, 61, 61, 32, 100, 101, 110, 121, 41, 41] : List UInt8)) = false := bne_eq_false_iff_eq.mpr c13
      clear c13
      have HC14 := Aside0.mk H
      clear H
      go_enter Try.func49, Try.ntmps49
      go_upto_region 11 with (fail)
      go_cut [48] (fun v48 wc => ∃ (kq : Nat) (x48_13 : Bool), v48 = .bool x48_13 ∧ Aside0 (effector_DefaultEffector_MergeEffects.j0 kq a4 a5 1 (-1) x48_13 = some (r1, r2, r3)) ∧ Aside0 (kq ≤ k) ∧ Aside0 (Below w.heap.size w wc))
      case first =>
        have H := HC14.out
        clear HC14
        by_cases c15 : 0 ≤ a4
        · rw [if_pos c15] at H
          have c15b0 : decide (0 ≤ a4) = true := decide_eq_true c15
          clear c15
          (first | rw [c15b0] | (simp only [i64_w, i32_w]; rw [c15b0]) | skip)
          by_cases c16 : a4 < (l3.length : Int)
          · rw [if_pos c16] at H
            have c16b0 : decide (a4 < (l3.length : Int)) = true := decide_eq_true c16
            clear c16
            by_cases c17 : (rd l3 a4) = 0
            · rw [if_pos c17] at H
              have c17b0 : ((rd l3 a4) == 0) = true := beq_iff_eq.mpr c17
              have c17b1 : ((rd l3 a4) != 0) = false := bne_eq_false_iff_eq.mpr c17
              clear c17
              have H' := Aside0.mk H
              clear H
              have p105 : 0 ≤ (a4 : Int) := of_decide_eq_true (by first | (with_reducible assumption) | assumption)
              have q105 : a4 < (l3.length : Int) := of_decide_eq_true (by first | (with_reducible assumption) | assumption)
              obtain ⟨ad105, e105, hx105_0⟩ := at_flt HR3.out a4 p105 q105
              cases e105
              replace hx105_0 := (HB.out.cell (World.block_lt_of_cell? w _ hx105_0)).trans hx105_0
              replace p105 := eq_true p105
              replace q105 := eq_true q105
              go_wp2
              go_meet
              case rel => exact ⟨_, (false), (by first | rfl | (simp; done) | (simp [*]; done)), H', ⟨by first | omega | exact Nat.le_refl _⟩, ⟨by repeat (first | (with_reducible first | exact HB.out | apply below_alloc | apply pw_below_drewN | apply below_drew1) | exact HB.out)⟩⟩
            · rw [if_neg c17] at H
              have c17b0 : ((rd l3 a4) == 0) = false := beq_eq_false_iff_ne.mpr c17
              have c17b1 : ((rd l3 a4) != 0) = true := bne_iff_ne.mpr c17
              by_cases c18 : a4 < (l2.length : Int)
              · rw [if_pos c18] at H
                have c18b0 : decide (a4 < (l2.length : Int)) = true := decide_eq_true c18
                clear c18
                have H' := Aside0.mk H
                clear H
                have p105 : 0 ≤ (a4 : Int) := of_decide_eq_true (by first | (with_reducible assumption) | assumption)
                have q105 : a4 < (l3.length : Int) := of_decide_eq_true (by first | (with_reducible assumption) | assumption)
                obtain ⟨ad105, e105, hx105_0⟩ := at_flt HR3.out a4 p105 q105
                cases e105
                replace hx105_0 := (HB.out.cell (World.block_lt_of_cell? w _ hx105_0)).trans hx105_0
                replace p105 := eq_true p105
                replace q105 := eq_true q105
                have p106 : 0 ≤ (a4 : Int) := of_decide_eq_true (by first | (with_reducible assumption) | assumption)
                have q106 : a4 < (l2.length : Int) := of_decide_eq_true (by first | (with_reducible assumption) | assumption)
                obtain ⟨ad106, e106, hx106_0⟩ := Kd.at_int HR2.out a4 p106 q106
                cases e106
                replace hx106_0 := (HB.out.cell (World.block_lt_of_cell? w _ hx106_0)).trans hx106_0
                replace p106 := eq_true p106
                replace q106 := eq_true q106
                go_wp2
                go_meet
                case rel => exact ⟨_, (((rd l2 a4) == 2)), (by first | rfl | (simp; done) | (simp [*]; done)), H', ⟨by first | omega | exact Nat.le_refl _⟩, ⟨by repeat (first | (with_reducible first | exact HB.out | apply below_alloc | apply pw_below_drewN | apply below_drew1) | exact HB.out)⟩⟩
              · rw [if_neg c18] at H
                exact absurd H (by simp)
          · rw [if_neg c16] at H
            exact absurd H (by simp)
        · rw [if_neg c15] at H
          exact absurd H (by simp)
      case rest =>
        clear HC14
        try clear c1
        try clear p1
        try clear q1
        try clear hx1
        try clear c2
        try clear p2
        try clear c3
        try clear c4
        try clear c7
        try clear c7b0
        try clear c7b1
        try clear c8
        try clear c8b0
        try clear c9
        try clear c9b0
        try clear c10
        try clear c10b0
        try clear c10b1
        try clear p10
        try clear q10
        try clear hx10
        try clear c11
        try clear c11b0
        try clear c12
        try clear c12b0
        try clear c12b1
        try clear c13
        try clear c13b0
        try clear c13b1
        try clear c15
        try clear c15b0
        try clear c16
        try clear c16b0
        try clear c17
        try clear c17b0
        try clear c17b1
        try clear c18
        try clear c18b0
        try clear hx103_0
        try clear hx104_0
        try clear hx105_0
        try clear hx106_0
        try clear p103
        try clear p104
        try clear p105
        try clear p106
        try clear q103
        try clear q104
        try clear q105
        try clear q106
        obtain ⟨kq, x48_13, rfl, HA, HJ13, HB⟩ := hcut
        cases kq with
        | zero => exact absurd HA.out (by simp [effector_DefaultEffector_MergeEffects.j0])
        | succ kj13 =>
          have H := HA.out
          clear HA
          simp only [effector_DefaultEffector_MergeEffects.j0] at H
          by_cases c19 : x48_13 = true
          · subst c19
            have H1 : (some (2, a4, none)) = some (r1, r2, r3) := by rw [if_pos rfl] at H; exact H
            clear H
            have H := H1
            clear H1
            simp only [Option.some.injEq, Prod.mk.injEq] at H
            obtain ⟨rfl, rfl, rfl⟩ := H
            go_wp2
            go_ret3
            exact ⟨by first | exact ⟨_, rfl, rfl⟩ | exact ⟨_, hev_, rfl⟩ | rfl | (simp [errW_none, errW_some] <;> rfl) | (simp [*, errW_none, errW_some] <;> rfl), by repeat (first | (with_reducible first | exact HB.out | apply below_alloc | apply pw_below_drewN | apply below_drew1) | exact HB.out)⟩
          · replace c19 := Bool.eq_false_iff.mpr c19
            subst c19
            have H1 : (if a4 = (wrap64 (a5 - 1)) then (some (0, (-1), none)) else (some (1, (-1), none))) = some (r1, r2, r3) := by rw [if_neg (show ¬ (false = true) by decide)] at H; exact H
            clear H
            have H := H1
            clear H1
            by_cases c20 : a4 = (wrap64 (a5 - 1))
            · rw [if_pos c20] at H
              have c20b0 : (a4 == (wrap64 (a5 - 1))) = true := beq_iff_eq.mpr c20
              have c20b1 : (a4 != (wrap64 (a5 - 1))) = false := bne_eq_false_iff_eq.mpr c20
              clear c20
              simp only [Option.some.injEq, Prod.mk.injEq] at H
              obtain ⟨rfl, rfl, rfl⟩ := H
              go_wp2
              go_ret3
              exact ⟨by first | exact ⟨_, rfl, rfl⟩ | exact ⟨_, hev_, rfl⟩ | rfl | (simp [errW_none, errW_some] <;> rfl) | (simp [*, errW_none, errW_some] <;> rfl), by repeat (first | (with_reducible first | exact HB.out | apply below_alloc | apply pw_below_drewN | apply below_drew1) | exact HB.out)⟩
            · rw [if_neg c20] at H
              have c20b0 : (a4 == (wrap64 (a5 - 1))) = false := beq_eq_false_iff_ne.mpr c20
              have c20b1 : (a4 != (wrap64 (a5 - 1))) = true := bne_iff_ne.mpr c20
              simp only [Option.some.injEq, Prod.mk.injEq] at H
              obtain ⟨rfl, rfl, rfl⟩ := H
              go_wp2
              go_ret3
              exact ⟨by first | exact ⟨_, rfl, rfl⟩ | exact ⟨_, hev_, rfl⟩ | rfl | (simp [errW_none, errW_some] <;> rfl) | (simp [*, errW_none, errW_some] <;> rfl), by repeat (first | (with_reducible first | exact HB.out | apply below_alloc | apply pw_below_drewN | apply below_drew1) | exact HB.out)⟩
    · rw [if_neg c13] at H
      have c13b0 : (a1.toList == ([33, 115, 111, 109, 101, 40, 119, 104, 101, 114, 101, 32, 40, 112, 95, 101, 102, 116, 32, 61, 61, 32, 100, 101, 110, 121, 41, 41] : List UInt8)) = false := beq_eq_false_iff_ne.mpr c13
      have c13b1 : (a1.toList != ([33, 115, 111, 109, 101, 40, 119, 104, 101, 114, 101, 32, 40, 112, 95, 101, 102, 116, 32, 61, 61, 32, 100, 101, 110, 121, 41, 41] : List UInt8)) = true := bne_iff_ne.mpr c13
      by_cases c21 : a1.toList = ([115, 111, 109, 101, 40, 119, 104, 101, 114, 101, 32, 40, 112, 95, 101, 102, 116, 32, 61, 61, 32, 97, 108, 108, 111, 119, 41, 41, 32, 38, 38, 32, 33, 115, 111, 109, 101, 40, 119, 104, 101, 114, 101, 32, 40, 112, 95, 101, 102, 116, 32, 61, 61, 32, 100, 101, 110, 121, 41, 41] : List UInt8)
      · rw [if_pos c21] at H
        have c21b0 : (a1.toList == ([115, 111, 109, 101, 40, 119, 104, 101, 114, 101, 32, 40, 112, 95, 101, 102, 116, 32, 61, 61, 32, 97, 108, 108, 111, 119, 41, 41, 32, 38, 38, 32, 33, 115, 111, 109, 101, 40, 119, 104, 101, 114, 101, 32, 40, 112, 95, 101, 102, 116, 32, 61, 61, 32, 100, 101, 110, 121, 41, 41] : List UInt8)) = true := beq_iff_eq.mpr c21
        have c21b1 : (a1.toList != ([115, 111, 109, 101, 40, 119, 104, 101, 114, 101, 32, 40, 112, 95, 101, 102, 116, 32, 61, 61, 32, 97, 108, 108, 111, 119, 41, 41, 32, 38, 38, 32, 33, 115, 111, 109, 101, 40, 119, 104, 101, 114, 101, 32, 40, 112, 95, 101, 102, 116, 32, 61, 61, 32, 100, 101, 110, 121, 41, 41] : List UInt8)) = false := bne_eq_false_iff_eq.mpr c21
        clear c21
        have HC22 := Aside0.mk H
        clear H
        go_enter Try.func49, Try.ntmps49
        go_upto_region 17 with (fail)
        go_cut [67] (fun v67 wc => ∃ (kq : Nat) (x67_21 : Bool), v67 = .bool x67_21 ∧ Aside0 (effector_DefaultEffector_MergeEffects.j1 kq l2 l3 a4 a5 1 (-1) x67_21 = some (r1, r2, r3)) ∧ Aside0 (kq ≤ k) ∧ Aside0 (Below w.heap.size w wc))
        case first =>
          have H := HC22.out
          clear HC22
          by_cases c23 : 0 ≤ a4
          · rw [if_pos c23] at H
            have c23b0 : decide (0 ≤ a4) = true := decide_eq_true c23
            clear c23
            (first | rw [c23b0] | (simp only [i64_w, i32_w]; rw [c23b0]) | skip)
            by_cases c24 : a4 < (l3.length : Int)
            · rw [if_pos c24] at H
              have c24b0 : decide (a4 < (l3.length : Int)) = true := decide_eq_true c24
              clear c24
              by_cases c25 : (rd l3 a4) = 0
              · rw [if_pos c25] at H
                have c25b0 : ((rd l3 a4) == 0) = true := beq_iff_eq.mpr c25
                have c25b1 : ((rd l3 a4) != 0) = false := bne_eq_false_iff_eq.mpr c25
                clear c25
                have H' := Aside0.mk H
                clear H
                have p107 : 0 ≤ (a4 : Int) := of_decide_eq_true (by first | (with_reducible assumption) | assumption)
                have q107 : a4 < (l3.length : Int) := of_decide_eq_true (by first | (with_reducible assumption) | assumption)
                obtain ⟨ad107, e107, hx107_0⟩ := at_flt HR3.out a4 p107 q107
                cases e107
                replace hx107_0 := (HB.out.cell (World.block_lt_of_cell? w _ hx107_0)).trans hx107_0
                replace p107 := eq_true p107
                replace q107 := eq_true q107
                go_wp2
                go_meet
                case rel => exact ⟨_, (false), (by first | rfl | (simp; done) | (simp [*]; done)), H', ⟨by first | omega | exact Nat.le_refl _⟩, ⟨by repeat (first | (with_reducible first | exact HB.out | apply below_alloc | apply pw_below_drewN | apply below_drew1) | exact HB.out)⟩⟩
              · rw [if_neg c25] at H
                have c25b0 : ((rd l3 a4) == 0) = false := beq_eq_false_iff_ne.mpr c25
                have c25b1 : ((rd l3 a4) != 0) = true := bne_iff_ne.mpr c25
                by_cases c26 : a4 < (l2.length : Int)
                · rw [if_pos c26] at H
                  have c26b0 : decide (a4 < (l2.length : Int)) = true := decide_eq_true c26
                  clear c26
                  have H' := Aside0.mk H
                  clear H
                  have p107 : 0 ≤ (a4 : Int) := of_decide_eq_true (by first | (with_reducible assumption) | assumption)
                  have q107 : a4 < (l3.length : Int) := of_decide_eq_true (by first | (with_reducible assumption) | assumption)
                  obtain ⟨ad107, e107, hx107_0⟩ := at_flt HR3.out a4 p107 q107
                  cases e107
                  replace hx107_0 := (HB.out.cell (World.block_lt_of_cell? w _ hx107_0)).trans hx107_0
                  replace p107 := eq_true p107
                  replace q107 := eq_true q107
                  have p108 : 0 ≤ (a4 : Int) := of_decide_eq_true (by first | (with_reducible assumption) | assumption)
                  have q108 : a4 < (l2.length : Int) := of_decide_eq_true (by first | (with_reducible assumption) | assumption)
                  obtain ⟨ad108, e108, hx108_0⟩ := Kd.at_int HR2.out a4 p108 q108
                  cases e108
                  replace hx108_0 := (HB.out.cell (World.block_lt_of_cell? w _ hx108_0)).trans hx108_0
                  replace p108 := eq_true p108
                  replace q108 := eq_true q108
                  go_wp2
                  go_meet
                  case rel => exact ⟨_, (((rd l2 a4) == 2)), (by first | rfl | (simp; done) | (simp [*]; done)), H', ⟨by first | omega | exact Nat.le_refl _⟩, ⟨by repeat (first | (with_reducible first | exact HB.out | apply below_alloc | apply pw_below_drewN | apply below_drew1) | exact HB.out)⟩⟩
                · rw [if_neg c26] at H
                  exact absurd H (by simp)
            · rw [if_neg c24] at H
              exact absurd H (by simp)
          · rw [if_neg c23] at H
            exact absurd H (by simp)
        case rest =>
          clear HC22
          try clear c1
          try clear p1
          try clear q1
          try clear hx1
          try clear c2
          try clear p2
          try clear c3
          try clear c4
          try clear p6
          try clear c7
          try clear c7b0
          try clear c7b1
          try clear c8
          try clear c8b0
          try clear c9
          try clear c9b0
          try clear c10
          try clear c10b0
          try clear c10b1
          try clear p10
          try clear q10
          try clear hx10
          try clear c11
          try clear c11b0
          try clear c12
          try clear c12b0
          try clear c12b1
          try clear c13
          try clear c13b0
          try clear c13b1
          try clear c15
          try clear c15b0
          try clear c16
          try clear c16b0
          try clear c17
          try clear c17b0
          try clear c17b1
          try clear c18
          try clear c18b0
          try clear c19
          try clear c20
          try clear c20b0
          try clear c20b1
          try clear c21
          try clear c21b0
          try clear c21b1
          try clear c23
          try clear c23b0
          try clear c24
          try clear c24b0
          try clear c25
          try clear c25b0
          try clear c25b1
          try clear c26
          try clear c26b0
          try clear hx103_0
          try clear hx104_0
          try clear hx105_0
          try clear hx106_0
          try clear hx107_0
          try clear hx108_0
          try clear p1
          try clear p10
          try clear p103
          try clear p104
          try clear p105
          try clear p106
          try clear p107
          try clear p108
          try clear p2
          try clear q1
          try clear q10
          try clear q103
          try clear q104
          try clear q105
          try clear q106
          try clear q107
          try clear q108
          obtain ⟨kq, x67_21, rfl, HA, HJ21, HB⟩ := hcut
          cases kq with
          | zero => exact absurd HA.out (by simp [effector_DefaultEffector_MergeEffects.j1])
          | succ kj21 =>
            have H := HA.out
            clear HA
            simp only [effector_DefaultEffector_MergeEffects.j1] at H
            by_cases c27 : x67_21 = true
            · subst c27
              have H1 : (some (2, a4, none)) = some (r1, r2, r3) := by rw [if_pos rfl] at H; exact H
              clear H
              have H := H1
              clear H1
              simp only [Option.some.injEq, Prod.mk.injEq] at H
              obtain ⟨rfl, rfl, rfl⟩ := H
              go_wp2
              go_ret3
              exact ⟨by first | exact ⟨_, rfl, rfl⟩ | exact ⟨_, hev_, rfl⟩ | rfl | (simp [errW_none, errW_some] <;> rfl) | (simp [*, errW_none, errW_some] <;> rfl), by repeat (first | (with_reducible first | exact HB.out | apply below_alloc | apply pw_below_drewN | apply below_drew1) | exact HB.out)⟩
            · replace c27 := Bool.eq_false_iff.mpr c27
              subst c27
              have H1 : (if a4 < (wrap64 (a5 - 1)) then (some (1, (-1), none)) else (effector_DefaultEffector_MergeEffects.l0 kj21 l3 1 (-1) l2 (l2.length : Int) 0)) = some (r1, r2, r3) := by rw [if_neg (show ¬ (false = true) by decide)] at H; exact H
              clear H
              have H := H1
              clear H1
              by_cases c28 : a4 < (wrap64 (a5 - 1))
              · rw [if_pos c28] at H
                have c28b0 : decide (a4 < (wrap64 (a5 - 1))) = true := decide_eq_true c28
                clear c28
                simp only [Option.some.injEq, Prod.mk.injEq] at H
                obtain ⟨rfl, rfl, rfl⟩ := H
                go_wp2
                go_ret3
                exact ⟨by first | exact ⟨_, rfl, rfl⟩ | exact ⟨_, hev_, rfl⟩ | rfl | (simp [errW_none, errW_some] <;> rfl) | (simp [*, errW_none, errW_some] <;> rfl), by repeat (first | (with_reducible first | exact HB.out | apply below_alloc | apply pw_below_drewN | apply below_drew1) | exact HB.out)⟩
              · rw [if_neg c28] at H
                have c28b0 : decide (a4 < (wrap64 (a5 - 1))) = false := decide_eq_false c28
                clear c28
                have H' := Aside0.mk H
                clear H
                go_wp2
                go_loopg [15, 16, 77] kj21 (fun kq v15 v16 v77 w' => ∃ (x15_2 : Int) (x16_2 : Int) (x77_2 : Int), v15 = .int .i64 x15_2 ∧ v16 = .int .i64 x16_2 ∧ v77 = .int .i64 x77_2 ∧ Aside0 (effector_DefaultEffector_MergeEffects.l0 kq l3 x15_2 x16_2 l2 (l2.length : Int) x77_2 = some (r1, r2, r3)) ∧ Aside0 (kq ≤ kj21) ∧ Aside0 (Below w.heap.size w w'))
                case atStart => exact ⟨(1), ((-1)), (0), (by first | rfl | (simp; done) | (simp [*]; done)), (by first | rfl | (simp; done) | (simp [*]; done)), (by first | rfl | (simp; done) | (simp [*]; done)), H', ⟨Nat.le_refl _⟩, ⟨by repeat (first | (with_reducible first | exact HB.out | apply below_alloc | apply pw_below_drewN | apply below_drew1) | exact HB.out)⟩⟩
                case round =>
                  clear H'
                  try clear c1
                  try clear p1
                  try clear q1
                  try clear hx1
                  try clear c2
                  try clear p2
                  try clear c3
                  try clear c4
                  try clear p6
                  try clear c7
                  try clear c7b0
                  try clear c7b1
                  try clear c8
                  try clear c8b0
                  try clear c9
                  try clear c9b0
                  try clear c10
                  try clear c10b0
                  try clear c10b1
                  try clear p10
                  try clear q10
                  try clear hx10
                  try clear c11
                  try clear c11b0
                  try clear c12
                  try clear c12b0
                  try clear c12b1
                  try clear c13
                  try clear c13b0
                  try clear c13b1
                  try clear c15
                  try clear c15b0
                  try clear c16
                  try clear c16b0
                  try clear c17
                  try clear c17b0
                  try clear c17b1
                  try clear c18
                  try clear c18b0
                  try clear c19
                  try clear c20
                  try clear c20b0
                  try clear c20b1
                  try clear c21
                  try clear c21b0
                  try clear c21b1
                  try clear c23
                  try clear c23b0
                  try clear c24
                  try clear c24b0
                  try clear c25
                  try clear c25b0
                  try clear c25b1
                  try clear c26
                  try clear c26b0
                  try clear c27
                  try clear c28
                  try clear c28b0
                  try clear hx103_0
                  try clear hx104_0
                  try clear hx105_0
                  try clear hx106_0
                  try clear hx107_0
                  try clear hx108_0
                  try clear p1
                  try clear p10
                  try clear p103
                  try clear p104
                  try clear p105
                  try clear p106
                  try clear p107
                  try clear p108
                  try clear p2
                  try clear p6
                  try clear q1
                  try clear q10
                  try clear q103
                  try clear q104
                  try clear q105
                  try clear q106
                  try clear q107
                  try clear q108
                  obtain ⟨x15_2, x16_2, x77_2, rfl, rfl, rfl, HA, HK2, HB⟩ := hrel
                  cases gk with
                  | zero => exact absurd HA.out (by simp [effector_DefaultEffector_MergeEffects.l0])
                  | succ k2 =>
                    have H := HA.out
                    clear HA
                    simp only [effector_DefaultEffector_MergeEffects.l0] at H
                    by_cases c29 : x77_2 < (l2.length : Int)
                    · rw [if_pos c29] at H
                      have c29b0 : decide (x77_2 < (l2.length : Int)) = true := decide_eq_true c29
                      clear c29
                      by_cases c30 : 0 ≤ x77_2
                      · rw [if_pos c30] at H
                        have c30b0 : decide (0 ≤ x77_2) = true := decide_eq_true c30
                        clear c30
                        by_cases c31 : x77_2 < (l2.length : Int)
                        · rw [if_pos c31] at H
                          have c31b0 : decide (x77_2 < (l2.length : Int)) = true := decide_eq_true c31
                          clear c31
                          by_cases c32 : x77_2 < (l3.length : Int)
                          · rw [if_pos c32] at H
                            have c32b0 : decide (x77_2 < (l3.length : Int)) = true := decide_eq_true c32
                            clear c32
                            by_cases c33 : (rd l3 x77_2) = 0
                            · rw [if_pos c33] at H
                              have c33b0 : ((rd l3 x77_2) == 0) = true := beq_iff_eq.mpr c33
                              have c33b1 : ((rd l3 x77_2) != 0) = false := bne_eq_false_iff_eq.mpr c33
                              clear c33
                              have H' := Aside0.mk H
                              clear H
                              have p109 : 0 ≤ (x77_2 : Int) := of_decide_eq_true (by first | (with_reducible assumption) | assumption)
                              have q109 : x77_2 < (l2.length : Int) := of_decide_eq_true (by first | (with_reducible assumption) | assumption)
                              obtain ⟨ad109, e109, hx109_0⟩ := Kd.at_int HR2.out x77_2 p109 q109
                              cases e109
                              replace hx109_0 := (HB.out.cell (World.block_lt_of_cell? w _ hx109_0)).trans hx109_0
                              replace p109 := eq_true p109
                              replace q109 := eq_true q109
                              have p110 : 0 ≤ (x77_2 : Int) := of_decide_eq_true (by first | (with_reducible assumption) | assumption)
                              have q110 : x77_2 < (l3.length : Int) := of_decide_eq_true (by first | (with_reducible assumption) | assumption)
                              obtain ⟨ad110, e110, hx110_0⟩ := at_flt HR3.out x77_2 p110 q110
                              cases e110
                              replace hx110_0 := (HB.out.cell (World.block_lt_of_cell? w _ hx110_0)).trans hx110_0
                              replace p110 := eq_true p110
                              replace q110 := eq_true q110
                              go_wp2
                              go_roundg k2
                              case measure => have := HJ21.out; have := HK2.out; omega
                              case rel => exact ⟨(x15_2), (x16_2), (wrap64 (x77_2 + 1)), (by first | rfl | (simp; done) | (simp [*]; done)), (by first | rfl | (simp; done) | (simp [*]; done)), (by first | rfl | (simp; done) | (simp [*]; done)), H', ⟨by have := HJ21.out; have := HK2.out; omega⟩, ⟨by repeat (first | (with_reducible first | exact HB.out | apply below_alloc | apply pw_below_drewN | apply below_drew1) | exact HB.out)⟩⟩
                            · rw [if_neg c33] at H
                              have c33b0 : ((rd l3 x77_2) == 0) = false := beq_eq_false_iff_ne.mpr c33
                              have c33b1 : ((rd l3 x77_2) != 0) = true := bne_iff_ne.mpr c33
                              by_cases c34 : (rd l2 x77_2) = 0
                              · rw [if_pos c34] at H
                                have c34b0 : ((rd l2 x77_2) == 0) = true := beq_iff_eq.mpr c34
                                have c34b1 : ((rd l2 x77_2) != 0) = false := bne_eq_false_iff_eq.mpr c34
                                clear c34
                                simp only [Option.some.injEq, Prod.mk.injEq] at H
                                obtain ⟨rfl, rfl, rfl⟩ := H
                                have p109 : 0 ≤ (x77_2 : Int) := of_decide_eq_true (by first | (with_reducible assumption) | assumption)
                                have q109 : x77_2 < (l2.length : Int) := of_decide_eq_true (by first | (with_reducible assumption) | assumption)
                                obtain ⟨ad109, e109, hx109_0⟩ := Kd.at_int HR2.out x77_2 p109 q109
                                cases e109
                                replace hx109_0 := (HB.out.cell (World.block_lt_of_cell? w _ hx109_0)).trans hx109_0
                                replace p109 := eq_true p109
                                replace q109 := eq_true q109
                                have p110 : 0 ≤ (x77_2 : Int) := of_decide_eq_true (by first | (with_reducible assumption) | assumption)
                                have q110 : x77_2 < (l3.length : Int) := of_decide_eq_true (by first | (with_reducible assumption) | assumption)
                                obtain ⟨ad110, e110, hx110_0⟩ := at_flt HR3.out x77_2 p110 q110
                                cases e110
                                replace hx110_0 := (HB.out.cell (World.block_lt_of_cell? w _ hx110_0)).trans hx110_0
                                replace p110 := eq_true p110
                                replace q110 := eq_true q110
                                go_wp2
                                go_ret3
                                exact ⟨by first | exact ⟨_, rfl, rfl⟩ | exact ⟨_, hev_, rfl⟩ | rfl | (simp [errW_none, errW_some] <;> rfl) | (simp [*, errW_none, errW_some] <;> rfl), by repeat (first | (with_reducible first | exact HB.out | apply below_alloc | apply pw_below_drewN | apply below_drew1) | exact HB.out)⟩
                              · rw [if_neg c34] at H
                                have c34b0 : ((rd l2 x77_2) == 0) = false := beq_eq_false_iff_ne.mpr c34
                                have c34b1 : ((rd l2 x77_2) != 0) = true := bne_iff_ne.mpr c34
                                have H' := Aside0.mk H
                                clear H
                                have p109 : 0 ≤ (x77_2 : Int) := of_decide_eq_true (by first | (with_reducible assumption) | assumption)
                                have q109 : x77_2 < (l2.length : Int) := of_decide_eq_true (by first | (with_reducible assumption) | assumption)
                                obtain ⟨ad109, e109, hx109_0⟩ := Kd.at_int HR2.out x77_2 p109 q109
                                cases e109
                                replace hx109_0 := (HB.out.cell (World.block_lt_of_cell? w _ hx109_0)).trans hx109_0
                                replace p109 := eq_true p109
                                replace q109 := eq_true q109
                                have p110 : 0 ≤ (x77_2 : Int) := of_decide_eq_true (by first | (with_reducible assumption) | assumption)
                                have q110 : x77_2 < (l3.length : Int) := of_decide_eq_true (by first | (with_reducible assumption) | assumption)
                                obtain ⟨ad110, e110, hx110_0⟩ := at_flt HR3.out x77_2 p110 q110
                                cases e110
                                replace hx110_0 := (HB.out.cell (World.block_lt_of_cell? w _ hx110_0)).trans hx110_0
                                replace p110 := eq_true p110
                                replace q110 := eq_true q110
                                go_wp2
                                go_roundg k2
                                case measure => have := HJ21.out; have := HK2.out; omega
                                case rel => exact ⟨(x15_2), (x16_2), (wrap64 (x77_2 + 1)), (by first | rfl | (simp; done) | (simp [*]; done)), (by first | rfl | (simp; done) | (simp [*]; done)), (by first | rfl | (simp; done) | (simp [*]; done)), H', ⟨by have := HJ21.out; have := HK2.out; omega⟩, ⟨by repeat (first | (with_reducible first | exact HB.out | apply below_alloc | apply pw_below_drewN | apply below_drew1) | exact HB.out)⟩⟩
                          · rw [if_neg c32] at H
                            exact absurd H (by simp)
                        · rw [if_neg c31] at H
                          exact absurd H (by simp)
                      · rw [if_neg c30] at H
                        exact absurd H (by simp)
                    · rw [if_neg c29] at H
                      have c29b0 : decide (x77_2 < (l2.length : Int)) = false := decide_eq_false c29
                      clear c29
                      simp only [Option.some.injEq, Prod.mk.injEq] at H
                      obtain ⟨rfl, rfl, rfl⟩ := H
                      go_wp2
                      go_ret3
                      exact ⟨by first | exact ⟨_, rfl, rfl⟩ | exact ⟨_, hev_, rfl⟩ | rfl | (simp [errW_none, errW_some] <;> rfl) | (simp [*, errW_none, errW_some] <;> rfl), by repeat (first | (with_reducible first | exact HB.out | apply below_alloc | apply pw_below_drewN | apply below_drew1) | exact HB.out)⟩
      · rw [if_neg c21] at H
        have c21b0 : (a1.toList == ([115, 111, 109, 101, 40, 119, 104, 101, 114, 101, 32, 40, 112, 95, 101, 102, 116, 32, 61, 61, 32, 97, 108, 108, 111, 119, 41, 41, 32, 38, 38, 32, 33, 115, 111, 109, 101, 40, 119, 104, 101, 114, 101, 32, 40, 112, 95, 101, 102, 116, 32, 61, 61, 32, 100, 101, 110, 121, 41, 41] : List UInt8)) = false := beq_eq_false_iff_ne.mpr c21
        have c21b1 : (a1.toList != ([115, 111, 109, 101, 40, 119, 104, 101, 114, 101, 32, 40, 112, 95, 101, 102, 116, 32, 61, 61, 32, 97, 108, 108, 111, 119, 41, 41, 32, 38, 38, 32, 33, 115, 111, 109, 101, 40, 119, 104, 101, 114, 101, 32, 40, 112, 95, 101, 102, 116, 32, 61, 61, 32, 100, 101, 110, 121, 41, 41] : List UInt8)) = true := bne_iff_ne.mpr c21
        have HC35 := Aside0.mk H
        clear H
        go_enter Try.func49, Try.ntmps49
        go_upto_if 91 with (fail)
        go_cut [91] (fun v91 wc => ∃ (kq : Nat) (x91_34 : Bool), v91 = .bool x91_34 ∧ Aside0 (effector_DefaultEffector_MergeEffects.j3 kq l2 l3 1 (-1) x91_34 = some (r1, r2, r3)) ∧ Aside0 (kq ≤ k) ∧ Aside0 (Below w.heap.size w wc))
        case first =>
          have H := HC35.out
          clear HC35
          by_cases c36 : a1.toList = ([112, 114, 105, 111, 114, 105, 116, 121, 40, 112, 95, 101, 102, 116, 41, 32, 124, 124, 32, 100, 101, 110, 121] : List UInt8)
          · rw [if_pos c36] at H
            have c36b0 : (a1.toList == ([112, 114, 105, 111, 114, 105, 116, 121, 40, 112, 95, 101, 102, 116, 41, 32, 124, 124, 32, 100, 101, 110, 121] : List UInt8)) = true := beq_iff_eq.mpr c36
            have c36b1 : (a1.toList != ([112, 114, 105, 111, 114, 105, 116, 121, 40, 112, 95, 101, 102, 116, 41, 32, 124, 124, 32, 100, 101, 110, 121] : List UInt8)) = false := bne_eq_false_iff_eq.mpr c36
            clear c36
            (first | rw [c36b0] | (simp only [i64_w, i32_w]; rw [c36b0]) | skip)
            have H' := Aside0.mk H
            clear H
            go_wp2
            go_meet
            case rel => exact ⟨_, ((a1.toList == ([112, 114, 105, 111, 114, 105, 116, 121, 40, 112, 95, 101, 102, 116, 41, 32, 124, 124, 32, 100, 101, 110, 121] : List UInt8))), (by first | rfl | (simp; done) | (simp [*]; done)), H', ⟨by first | omega | exact Nat.le_refl _⟩, ⟨by repeat (first | (with_reducible first | exact HB.out | apply below_alloc | apply pw_below_drewN | apply below_drew1) | exact HB.out)⟩⟩
          · rw [if_neg c36] at H
            have c36b0 : (a1.toList == ([112, 114, 105, 111, 114, 105, 116, 121, 40, 112, 95, 101, 102, 116, 41, 32, 124, 124, 32, 100, 101, 110, 121] : List UInt8)) = false := beq_eq_false_iff_ne.mpr c36
            have c36b1 : (a1.toList != ([112, 114, 105, 111, 114, 105, 116, 121, 40, 112, 95, 101, 102, 116, 41, 32, 124, 124, 32, 100, 101, 110, 121] : List UInt8)) = true := bne_iff_ne.mpr c36
            (first | rw [c36b0] | (simp only [i64_w, i32_w]; rw [c36b0]) | skip)
            have H' := Aside0.mk H
            clear H
            go_wp2
            go_meet
            case rel => exact ⟨_, ((a1.toList == ([115, 117, 98, 106, 101, 99, 116, 80, 114, 105, 111, 114, 105, 116, 121, 40, 112, 95, 101, 102, 116, 41, 32, 124, 124, 32, 100, 101, 110, 121] : List UInt8))), (by first | rfl | (simp; done) | (simp [*]; done)), H', ⟨by first | omega | exact Nat.le_refl _⟩, ⟨by repeat (first | (with_reducible first | exact HB.out | apply below_alloc | apply pw_below_drewN | apply below_drew1) | exact HB.out)⟩⟩
        case rest =>
          clear HC35
          try clear c1
          try clear p1
          try clear q1
          try clear hx1
          try clear c2
          try clear p2
          try clear c3
          try clear c4
          try clear p6
          try clear c7
          try clear c7b0
          try clear c7b1
          try clear c8
          try clear c8b0
          try clear c9
          try clear c9b0
          try clear c10
          try clear c10b0
          try clear c10b1
          try clear p10
          try clear q10
          try clear hx10
          try clear c11
          try clear c11b0
          try clear p11
          try clear q11
          try clear hx11
          try clear c12
          try clear c12b0
          try clear c12b1
          try clear c13
          try clear c13b0
          try clear c13b1
          try clear c15
          try clear c15b0
          try clear c16
          try clear c16b0
          try clear c17
          try clear c17b0
          try clear c17b1
          try clear c18
          try clear c18b0
          try clear c19
          try clear c20
          try clear c20b0
          try clear c20b1
          try clear c21
          try clear c21b0
          try clear c21b1
          try clear c23
          try clear c23b0
          try clear c24
          try clear c24b0
          try clear c25
          try clear c25b0
          try clear c25b1
          try clear c26
          try clear c26b0
          try clear c27
          try clear c28
          try clear c28b0
          try clear c29
          try clear c29b0
          try clear c30
          try clear c30b0
          try clear c31
          try clear c31b0
          try clear c32
          try clear c32b0
          try clear c33
          try clear c33b0
          try clear c33b1
          try clear c34
          try clear c34b0
          try clear c34b1
          try clear c36
          try clear c36b0
          try clear c36b1
          try clear hx103_0
          try clear hx104_0
          try clear hx105_0
          try clear hx106_0
          try clear hx107_0
          try clear hx108_0
          try clear hx109_0
          try clear hx110_0
          try clear p1
          try clear p10
          try clear p103
          try clear p104
          try clear p105
          try clear p106
          try clear p107
          try clear p108
          try clear p109
          try clear p110
          try clear p2
          try clear p6
          try clear q1
          try clear q10
          try clear q103
          try clear q104
          try clear q105
          try clear q106
          try clear q107
          try clear q108
          try clear q109
          try clear q110
          obtain ⟨kq, x91_34, rfl, HA, HJ34, HB⟩ := hcut
          cases kq with
          | zero => exact absurd HA.out (by simp [effector_DefaultEffector_MergeEffects.j3])
          | succ kj34 =>
            have H := HA.out
            clear HA
            simp only [effector_DefaultEffector_MergeEffects.j3] at H
            by_cases c37 : x91_34 = true
            · subst c37
              have H1 : (effector_DefaultEffector_MergeEffects.l1 kj34 l2 l3 1 (-1) (wrap64 ((l2.length : Int) - 1))) = some (r1, r2, r3) := by rw [if_pos rfl] at H; exact H
              clear H
              have H := H1
              clear H1
              have H' := Aside0.mk H
              clear H
              go_wp2
              go_loopg [15, 16, 19] kj34 (fun kq v15 v16 v19 w' => ∃ (x15_2 : Int) (x16_2 : Int) (x19_2 : Int), v15 = .int .i64 x15_2 ∧ v16 = .int .i64 x16_2 ∧ v19 = .int .i64 x19_2 ∧ Aside0 (effector_DefaultEffector_MergeEffects.l1 kq l2 l3 x15_2 x16_2 x19_2 = some (r1, r2, r3)) ∧ Aside0 (kq ≤ kj34) ∧ Aside0 (Below w.heap.size w w'))
              case atStart => exact ⟨(1), ((-1)), (wrap64 ((l2.length : Int) - 1)), (by first | rfl | (simp; done) | (simp [*]; done)), (by first | rfl | (simp; done) | (simp [*]; done)), (by first | rfl | (simp; done) | (simp [*]; done)), H', ⟨Nat.le_refl _⟩, ⟨by repeat (first | (with_reducible first | exact HB.out | apply below_alloc | apply pw_below_drewN | apply below_drew1) | exact HB.out)⟩⟩
              case round =>
                clear H'
                try clear c1
                try clear p1
                try clear q1
                try clear hx1
                try clear c2
                try clear p2
                try clear c3
                try clear c4
                try clear p6
                try clear c7
                try clear c7b0
                try clear c7b1
                try clear c8
                try clear c8b0
                try clear c9
                try clear c9b0
                try clear c10
                try clear c10b0
                try clear c10b1
                try clear p10
                try clear q10
                try clear hx10
                try clear c11
                try clear c11b0
                try clear p11
                try clear q11
                try clear hx11
                try clear c12
                try clear c12b0
                try clear c12b1
                try clear c13
                try clear c13b0
                try clear c13b1
                try clear c15
                try clear c15b0
                try clear c16
                try clear c16b0
                try clear c17
                try clear c17b0
                try clear c17b1
                try clear c18
                try clear c18b0
                try clear c19
                try clear c20
                try clear c20b0
                try clear c20b1
                try clear c21
                try clear c21b0
                try clear c21b1
                try clear c23
                try clear c23b0
                try clear c24
                try clear c24b0
                try clear c25
                try clear c25b0
                try clear c25b1
                try clear c26
                try clear c26b0
                try clear c27
                try clear c28
                try clear c28b0
                try clear c29
                try clear c29b0
                try clear c30
                try clear c30b0
                try clear c31
                try clear c31b0
                try clear c32
                try clear c32b0
                try clear c33
                try clear c33b0
                try clear c33b1
                try clear c34
                try clear c34b0
                try clear c34b1
                try clear c36
                try clear c36b0
                try clear c36b1
                try clear c37
                try clear hx103_0
                try clear hx104_0
                try clear hx105_0
                try clear hx106_0
                try clear hx107_0
                try clear hx108_0
                try clear hx109_0
                try clear hx110_0
                try clear p1
                try clear p10
                try clear p103
                try clear p104
                try clear p105
                try clear p106
                try clear p107
                try clear p108
                try clear p109
                try clear p11
                try clear p110
                try clear p2
                try clear p6
                try clear q1
                try clear q10
                try clear q103
                try clear q104
                try clear q105
                try clear q106
                try clear q107
                try clear q108
                try clear q109
                try clear q11
                try clear q110
                obtain ⟨x15_2, x16_2, x19_2, rfl, rfl, rfl, HA, HK2, HB⟩ := hrel
                cases gk with
                | zero => exact absurd HA.out (by simp [effector_DefaultEffector_MergeEffects.l1])
                | succ k2 =>
                  have H := HA.out
                  clear HA
                  simp only [effector_DefaultEffector_MergeEffects.l1] at H
                  by_cases c38 : x19_2 ≥ 0
                  · rw [if_pos c38] at H
                    have c38b0 : decide (0 ≤ x19_2) = true := decide_eq_true c38
                    clear c38
                    by_cases c39 : 0 ≤ x19_2
                    · rw [if_pos c39] at H
                      have c39b0 : decide (0 ≤ x19_2) = true := decide_eq_true c39
                      clear c39
                      by_cases c40 : x19_2 < (l3.length : Int)
                      · rw [if_pos c40] at H
                        have c40b0 : decide (x19_2 < (l3.length : Int)) = true := decide_eq_true c40
                        clear c40
                        by_cases c41 : (rd l3 x19_2) = 0
                        · rw [if_pos c41] at H
                          have c41b0 : ((rd l3 x19_2) == 0) = true := beq_iff_eq.mpr c41
                          have c41b1 : ((rd l3 x19_2) != 0) = false := bne_eq_false_iff_eq.mpr c41
                          clear c41
                          have H' := Aside0.mk H
                          clear H
                          have p111 : 0 ≤ (x19_2 : Int) := of_decide_eq_true (by first | (with_reducible assumption) | assumption)
                          have q111 : x19_2 < (l3.length : Int) := of_decide_eq_true (by first | (with_reducible assumption) | assumption)
                          obtain ⟨ad111, e111, hx111_0⟩ := at_flt HR3.out x19_2 p111 q111
                          cases e111
                          replace hx111_0 := (HB.out.cell (World.block_lt_of_cell? w _ hx111_0)).trans hx111_0
                          replace p111 := eq_true p111
                          replace q111 := eq_true q111
                          go_wp2
                          go_roundg k2
                          case measure => have := HJ34.out; have := HK2.out; omega
                          case rel => exact ⟨(x15_2), (x16_2), (wrap64 (x19_2 - 1)), (by first | rfl | (simp; done) | (simp [*]; done)), (by first | rfl | (simp; done) | (simp [*]; done)), (by first | rfl | (simp; done) | (simp [*]; done)), H', ⟨by have := HJ34.out; have := HK2.out; omega⟩, ⟨by repeat (first | (with_reducible first | exact HB.out | apply below_alloc | apply pw_below_drewN | apply below_drew1) | exact HB.out)⟩⟩
                        · rw [if_neg c41] at H
                          have c41b0 : ((rd l3 x19_2) == 0) = false := beq_eq_false_iff_ne.mpr c41
                          have c41b1 : ((rd l3 x19_2) != 0) = true := bne_iff_ne.mpr c41
                          by_cases c42 : x19_2 < (l2.length : Int)
                          · rw [if_pos c42] at H
                            have c42b0 : decide (x19_2 < (l2.length : Int)) = true := decide_eq_true c42
                            clear c42
                            by_cases c43 : (rd l2 x19_2) = 1
                            · rw [if_pos c43] at H
                              have c43b0 : ((rd l2 x19_2) == 1) = true := beq_iff_eq.mpr c43
                              have c43b1 : ((rd l2 x19_2) != 1) = false := bne_eq_false_iff_eq.mpr c43
                              clear c43
                              have H' := Aside0.mk H
                              clear H
                              have p111 : 0 ≤ (x19_2 : Int) := of_decide_eq_true (by first | (with_reducible assumption) | assumption)
                              have q111 : x19_2 < (l3.length : Int) := of_decide_eq_true (by first | (with_reducible assumption) | assumption)
                              obtain ⟨ad111, e111, hx111_0⟩ := at_flt HR3.out x19_2 p111 q111
                              cases e111
                              replace hx111_0 := (HB.out.cell (World.block_lt_of_cell? w _ hx111_0)).trans hx111_0
                              replace p111 := eq_true p111
                              replace q111 := eq_true q111
                              have p112 : 0 ≤ (x19_2 : Int) := of_decide_eq_true (by first | (with_reducible assumption) | assumption)
                              have q112 : x19_2 < (l2.length : Int) := of_decide_eq_true (by first | (with_reducible assumption) | assumption)
                              obtain ⟨ad112, e112, hx112_0⟩ := Kd.at_int HR2.out x19_2 p112 q112
                              cases e112
                              replace hx112_0 := (HB.out.cell (World.block_lt_of_cell? w _ hx112_0)).trans hx112_0
                              replace p112 := eq_true p112
                              replace q112 := eq_true q112
                              go_wp2
                              go_roundg k2
                              case measure => have := HJ34.out; have := HK2.out; omega
                              case rel => exact ⟨(x15_2), (x16_2), (wrap64 (x19_2 - 1)), (by first | rfl | (simp; done) | (simp [*]; done)), (by first | rfl | (simp; done) | (simp [*]; done)), (by first | rfl | (simp; done) | (simp [*]; done)), H', ⟨by have := HJ34.out; have := HK2.out; omega⟩, ⟨by repeat (first | (with_reducible first | exact HB.out | apply below_alloc | apply pw_below_drewN | apply below_drew1) | exact HB.out)⟩⟩
                            · rw [if_neg c43] at H
                              have c43b0 : ((rd l2 x19_2) == 1) = false := beq_eq_false_iff_ne.mpr c43
                              have c43b1 : ((rd l2 x19_2) != 1) = true := bne_iff_ne.mpr c43
                              by_cases c44 : (rd l2 x19_2) = 0
                              · rw [if_pos c44] at H
                                have c44b0 : ((rd l2 x19_2) == 0) = true := beq_iff_eq.mpr c44
                                have c44b1 : ((rd l2 x19_2) != 0) = false := bne_eq_false_iff_eq.mpr c44
                                clear c44
                                simp only [Option.some.injEq, Prod.mk.injEq] at H
                                obtain ⟨rfl, rfl, rfl⟩ := H
                                have p111 : 0 ≤ (x19_2 : Int) := of_decide_eq_true (by first | (with_reducible assumption) | assumption)
                                have q111 : x19_2 < (l3.length : Int) := of_decide_eq_true (by first | (with_reducible assumption) | assumption)
                                obtain ⟨ad111, e111, hx111_0⟩ := at_flt HR3.out x19_2 p111 q111
                                cases e111
                                replace hx111_0 := (HB.out.cell (World.block_lt_of_cell? w _ hx111_0)).trans hx111_0
                                replace p111 := eq_true p111
                                replace q111 := eq_true q111
                                have p112 : 0 ≤ (x19_2 : Int) := of_decide_eq_true (by first | (with_reducible assumption) | assumption)
                                have q112 : x19_2 < (l2.length : Int) := of_decide_eq_true (by first | (with_reducible assumption) | assumption)
                                obtain ⟨ad112, e112, hx112_0⟩ := Kd.at_int HR2.out x19_2 p112 q112
                                cases e112
                                replace hx112_0 := (HB.out.cell (World.block_lt_of_cell? w _ hx112_0)).trans hx112_0
                                replace p112 := eq_true p112
                                replace q112 := eq_true q112
                                have p113 : 0 ≤ (x19_2 : Int) := of_decide_eq_true (by first | (with_reducible assumption) | assumption)
                                have q113 : x19_2 < (l2.length : Int) := of_decide_eq_true (by first | (with_reducible assumption) | assumption)
                                obtain ⟨ad113, e113, hx113_0⟩ := Kd.at_int HR2.out x19_2 p113 q113
                                obtain rfl : ad112 = ad113 := (by injection e113)
                                replace hx113_0 := (HB.out.cell (World.block_lt_of_cell? w _ hx113_0)).trans hx113_0
                                replace p113 := eq_true p113
                                replace q113 := eq_true q113
                                go_wp2
                                go_ret3
                                exact ⟨by first | exact ⟨_, rfl, rfl⟩ | exact ⟨_, hev_, rfl⟩ | rfl | (simp [errW_none, errW_some] <;> rfl) | (simp [*, errW_none, errW_some] <;> rfl), by repeat (first | (with_reducible first | exact HB.out | apply below_alloc | apply pw_below_drewN | apply below_drew1) | exact HB.out)⟩
                              · rw [if_neg c44] at H
                                have c44b0 : ((rd l2 x19_2) == 0) = false := beq_eq_false_iff_ne.mpr c44
                                have c44b1 : ((rd l2 x19_2) != 0) = true := bne_iff_ne.mpr c44
                                simp only [Option.some.injEq, Prod.mk.injEq] at H
                                obtain ⟨rfl, rfl, rfl⟩ := H
                                have p111 : 0 ≤ (x19_2 : Int) := of_decide_eq_true (by first | (with_reducible assumption) | assumption)
                                have q111 : x19_2 < (l3.length : Int) := of_decide_eq_true (by first | (with_reducible assumption) | assumption)
                                obtain ⟨ad111, e111, hx111_0⟩ := at_flt HR3.out x19_2 p111 q111
                                cases e111
                                replace hx111_0 := (HB.out.cell (World.block_lt_of_cell? w _ hx111_0)).trans hx111_0
                                replace p111 := eq_true p111
                                replace q111 := eq_true q111
                                have p112 : 0 ≤ (x19_2 : Int) := of_decide_eq_true (by first | (with_reducible assumption) | assumption)
                                have q112 : x19_2 < (l2.length : Int) := of_decide_eq_true (by first | (with_reducible assumption) | assumption)
                                obtain ⟨ad112, e112, hx112_0⟩ := Kd.at_int HR2.out x19_2 p112 q112
                                cases e112
                                replace hx112_0 := (HB.out.cell (World.block_lt_of_cell? w _ hx112_0)).trans hx112_0
                                replace p112 := eq_true p112
                                replace q112 := eq_true q112
                                have p113 : 0 ≤ (x19_2 : Int) := of_decide_eq_true (by first | (with_reducible assumption) | assumption)
                                have q113 : x19_2 < (l2.length : Int) := of_decide_eq_true (by first | (with_reducible assumption) | assumption)
                                obtain ⟨ad113, e113, hx113_0⟩ := Kd.at_int HR2.out x19_2 p113 q113
                                obtain rfl : ad112 = ad113 := (by injection e113)
                                replace hx113_0 := (HB.out.cell (World.block_lt_of_cell? w _ hx113_0)).trans hx113_0
                                replace p113 := eq_true p113
                                replace q113 := eq_true q113
                                go_wp2
                                go_ret3
                                exact ⟨by first | exact ⟨_, rfl, rfl⟩ | exact ⟨_, hev_, rfl⟩ | rfl | (simp [errW_none, errW_some] <;> rfl) | (simp [*, errW_none, errW_some] <;> rfl), by repeat (first | (with_reducible first | exact HB.out | apply below_alloc | apply pw_below_drewN | apply below_drew1) | exact HB.out)⟩
                          · rw [if_neg c42] at H
                            exact absurd H (by simp)
                      · rw [if_neg c40] at H
                        exact absurd H (by simp)
                    · rw [if_neg c39] at H
                      exact absurd H (by simp)
                  · rw [if_neg c38] at H
                    have c38b0 : decide (0 ≤ x19_2) = false := decide_eq_false c38
                    clear c38
                    simp only [Option.some.injEq, Prod.mk.injEq] at H
                    obtain ⟨rfl, rfl, rfl⟩ := H
                    go_wp2
                    go_ret3
                    exact ⟨by first | exact ⟨_, rfl, rfl⟩ | exact ⟨_, hev_, rfl⟩ | rfl | (simp [errW_none, errW_some] <;> rfl) | (simp [*, errW_none, errW_some] <;> rfl), by repeat (first | (with_reducible first | exact HB.out | apply below_alloc | apply pw_below_drewN | apply below_drew1) | exact HB.out)⟩
            · replace c37 := Bool.eq_false_iff.mpr c37
              subst c37
              have H1 : ((errors_New.f (⟨#[117, 110, 115, 117, 112, 112, 111, 114, 116, 101, 100, 32, 101, 102, 102, 101, 99, 116]⟩ : ByteArray)).bind fun t114 => (some (2, (-1), t114))) = some (r1, r2, r3) := by rw [if_neg (show ¬ (false = true) by decide)] at H; exact H
              clear H
              have H := H1
              clear H1
              replace H := Option.bind_eq_some_iff.mp H
              obtain ⟨t114, A450, H⟩ := H
              replace H : (some (2, (-1), t114)) = some (r1, r2, r3) := H
              have A45 := Aside0.mk A450
              clear A450
              simp only [Option.some.injEq, Prod.mk.injEq] at H
              obtain ⟨rfl, rfl, rfl⟩ := H
              go_wp2_with (first | ((with_reducible refine gate_callee (f := 57) rfl ?_); refine goesL_ (some 21) rfl rfl Try.func57 (by kernel_rfl) rfl #[.string (⟨#[117, 110, 115, 117, 112, 112, 111, 114, 116, 101, 100, 32, 101, 102, 102, 101, 99, 116]⟩ : ByteArray)] rfl (by (try simp only [List.map_toArray, List.map_cons, List.map_nil]); first | done | rfl | (simp only [List.length_drop, List.length_take]; rfl)) ?_; (with_reducible refine (errors_New.calls (⟨#[117, 110, 115, 117, 112, 112, 111, 114, 116, 101, 100, 32, 101, 102, 102, 101, 99, 116]⟩ : ByteArray) t114 _ A45.out).mono ?_); rintro e w46 ⟨⟨ev_, hev_, rfl⟩, hb⟩; refine ⟨_, rfl, ?_⟩; have n0_ := Aside0.mk (below_step (by repeat (first | (with_reducible first | exact HB.out | apply below_alloc | apply pw_below_drewN | apply below_drew1) | exact HB.out)) hb); clear HB; have HB := n0_; clear n0_; (try clear hb); (try clear hb2); (try clear hk); (try clear hi); (try simp only [errW_none, errW_some])))
              go_ret3
              exact ⟨by first | exact ⟨_, rfl, rfl⟩ | exact ⟨_, hev_, rfl⟩ | rfl | (simp [errW_none, errW_some] <;> rfl) | (simp [*, errW_none, errW_some] <;> rfl), by repeat (first | (with_reducible first | exact HB.out | apply below_alloc | apply pw_below_drewN | apply below_drew1) | exact HB.out)⟩

end Go.Proofs.Ytdhmlcnlklcofaa.PFnMergeStranger
