/- The machine side of laws.FnMergeWhich: each function of this text answers what its Lean function answers (written for this claim by a program of this session over the kit's print; no condition beyond what each theorem says). -/
import Derived.Test.YtdhmlcnlklcofaaOFnMergeWhichx0
import Derived.Test.YtdhmlcnlklcofaaOFnMergeWhichx1
import Derived.Test.YtdhmlcnlklcofaaOFnMergeWhichx3
namespace Go.Proofs.Ytdhmlcnlklcofaa.PFnMergeWhich
open Go.RowKit Go.Proofs.YtdhmlcnlklcofaaW.PrintWords Go.Proofs.YtdhmlcnlklcofaaW.PrintLast Go.Proofs.YtdhmlcnlklcofaaW.PrintMore
attribute [local go_sem] max2_int min2_int max_two min_two max_three min_three max_four min_four   -- for this text's walks alone
set_option linter.unusedVariables false
set_option linter.unusedSimpArgs false

/-! ### laws_FnMergeWhich: function 13 -/
def laws_FnMergeWhich.j0 : Nat → Int → List Int → List Bool → Bool → Option (Bool)
  | 0, _, _, _, _ => none
  | k + 1, x0, x1, x2, x17 => if x17 = true then (some true) else ((laws_effects.f k x1 x2).bind fun t157 => (if t157 = true then ((laws_expression.f x0).bind fun t159 => ((laws_merged.f k t159 x1 x2).bind fun bt160 => (if bt160.2.2 = true then (if bt160.2.1 < (-1) then (some false) else (if bt160.2.1 ≥ (x1.length : Int) then (some false) else (if bt160.2.1 < 0 then ((laws_awakeMerge.f k).bind fun t163 => (some t163)) else (if 0 ≤ bt160.2.1 then (if bt160.2.1 < (x2.length : Int) then (if rdOf false x2 bt160.2.1 = true then (if bt160.2.1 < (x1.length : Int) then (if (rd x1 bt160.2.1) = bt160.1 then ((laws_awakeMerge.f k).bind fun t166 => (some t166)) else (some false)) else (none)) else (some false)) else (none)) else (none))))) else (some false)))) else ((laws_awakeMerge.f k).bind fun t158 => (some t158))))
def laws_FnMergeWhich.f (k : Nat) (a0 : Int) (l1 : List Int) (l2 : List Bool) : Option (Bool) := if (l1.length : Int) > 2147483647 then (laws_FnMergeWhich.j0 k a0 l1 l2 true) else (laws_FnMergeWhich.j0 k a0 l1 l2 (decide ((l2.length : Int) > 2147483647)))
theorem laws_FnMergeWhich.mono_l : ∀ k, (∀ y0 y1 y2 y3, LeO (laws_FnMergeWhich.j0 k y0 y1 y2 y3) (laws_FnMergeWhich.j0 (k + 1) y0 y1 y2 y3))
  | 0 => fun _ _ _ _ r h => by simp [laws_FnMergeWhich.j0] at h
  | k + 1 => by
    have ih0 := laws_FnMergeWhich.mono_l k
    · intro y0 y1 y2 y3
      unfold laws_FnMergeWhich.j0
      repeat' first
      | (with_reducible exact ih0 _ _ _ _)
      | (with_reducible exact laws_awakeMerge.mono _)
      | (with_reducible exact laws_effects.mono _ _ _)
      | (with_reducible exact laws_merged.mono _ _ _ _)
      | (with_reducible exact LeO.refl _)
      | (with_reducible exact LeO.none _)
      | (with_reducible refine LeO.ite ?_ ?_)
      | (with_reducible refine LeO.bind ?_ (fun _ => ?_))
      | exact ih0 _ _ _ _
      | exact laws_awakeMerge.mono _
      | exact laws_effects.mono _ _ _
      | exact laws_merged.mono _ _ _ _
      | exact LeO.none _
      | refine LeO.ite ?_ ?_
      | refine LeO.bind ?_ (fun _ => ?_)
theorem laws_FnMergeWhich.mono : ∀ a0 a1 a2 k, LeO (laws_FnMergeWhich.f k a0 a1 a2) (laws_FnMergeWhich.f (k + 1) a0 a1 a2) := by
  intro a0 a1 a2 k
  have ih0 := laws_FnMergeWhich.mono_l k
  unfold laws_FnMergeWhich.f
  repeat' first
      | (with_reducible exact ih0 _ _ _ _)
      | (with_reducible exact laws_awakeMerge.mono _)
      | (with_reducible exact laws_effects.mono _ _ _)
      | (with_reducible exact laws_merged.mono _ _ _ _)
      | (with_reducible exact LeO.refl _)
      | (with_reducible exact LeO.none _)
      | (with_reducible refine LeO.ite ?_ ?_)
      | (with_reducible refine LeO.bind ?_ (fun _ => ?_))
      | exact ih0 _ _ _ _
      | exact laws_awakeMerge.mono _
      | exact laws_effects.mono _ _ _
      | exact laws_merged.mono _ _ _ _
      | exact LeO.none _
      | refine LeO.ite ?_ ?_
      | refine LeO.bind ?_ (fun _ => ?_)
set_option maxHeartbeats 8000000 in
set_option maxRecDepth 100000 in
theorem laws_FnMergeWhich.calls (k : Nat) (a0 : Int) (A1 : Option Addr) (c1 : Nat) (l1 : List Int) (A2 : Option Addr) (c2 : Nat) (l2 : List Bool) (r : Bool) (w : World) (hr1 : Kd.C (Kd.int .i64) w A1 l1.length l1) (hc1 : l1.length ≤ c1) (hr2 : Kd.C Kd.bool w A2 l2.length l2) (hc2 : l2.length ≤ c2) (h : laws_FnMergeWhich.f k a0 l1 l2 = some r) :
    Calls Try.prog 13 #[.int .i64 a0, .slice A1 l1.length c1, .slice A2 l2.length c2] w fun e w' => e = .returned (.bool r) ∧ Below w.heap.size w w' := by
  have HR1 := Aside0.mk hr1
  have HC1 := Aside0.mk hc1
  clear hr1 hc1
  have HR2 := Aside0.mk hr2
  have HC2 := Aside0.mk hc2
  clear hr2 hc2
  have HB := Aside0.mk (Below.refl w.heap.size w)
  have H : (if (l1.length : Int) > 2147483647 then (laws_FnMergeWhich.j0 k a0 l1 l2 true) else (laws_FnMergeWhich.j0 k a0 l1 l2 (decide ((l2.length : Int) > 2147483647)))) = some r := h
  clear h
  have HC4 := Aside0.mk H
  clear H
  go_enter Try.func13, Try.ntmps13
  go_upto_region 1 with (fail)
  go_cut [17] (fun v17 wc => ∃ (kq : Nat) (x17_3 : Bool), v17 = .bool x17_3 ∧ Aside0 (laws_FnMergeWhich.j0 kq a0 l1 l2 x17_3 = some r) ∧ Aside0 (kq ≤ k) ∧ Aside0 (Below w.heap.size w wc))
  case first =>
    have H := HC4.out
    clear HC4
    by_cases c5 : (l1.length : Int) > 2147483647
    · rw [if_pos c5] at H
      have c5b0 : decide (2147483647 < (l1.length : Int)) = true := decide_eq_true c5
      have c5b1 : decide (2147483647 < l1.length) = true := decide_eq_true (by omega)
      clear c5
      (first | rw [c5b0] | (simp only [i64_w, i32_w]; rw [c5b0]) | skip)
      have H' := Aside0.mk H
      clear H
      go_wp2
      go_meet
      case rel => exact ⟨_, (true), (by first | rfl | (simp; done) | (simp [*]; done)), H', ⟨by first | omega | exact Nat.le_refl _⟩, ⟨by repeat (first | (with_reducible first | exact HB.out | apply below_alloc | apply pw_below_drewN | apply below_drew1) | exact HB.out)⟩⟩
    · rw [if_neg c5] at H
      have c5b0 : decide (2147483647 < (l1.length : Int)) = false := decide_eq_false c5
      have c5b1 : decide (2147483647 < l1.length) = false := decide_eq_false (by omega)
      clear c5
      (first | rw [c5b0] | (simp only [i64_w, i32_w]; rw [c5b0]) | skip)
      have H' := Aside0.mk H
      clear H
      go_wp2
      go_meet
      case rel => exact ⟨_, (decide ((l2.length : Int) > 2147483647)), (by first | rfl | (simp; done) | (simp [*]; done)), H', ⟨by first | omega | exact Nat.le_refl _⟩, ⟨by repeat (first | (with_reducible first | exact HB.out | apply below_alloc | apply pw_below_drewN | apply below_drew1) | exact HB.out)⟩⟩
  case rest =>
    clear HC4
    try clear c1
    try clear c2
    try clear p2
    try clear c5
    try clear c5b0
    try clear c5b1
    obtain ⟨kq, x17_3, rfl, HA, HJ3, HB⟩ := hcut
    cases kq with
    | zero => exact absurd HA.out (by simp [laws_FnMergeWhich.j0])
    | succ kj3 =>
      have H := HA.out
      clear HA
      simp only [laws_FnMergeWhich.j0] at H
      by_cases c6 : x17_3 = true
      · subst c6
        have H1 : (some true) = some r := by rw [if_pos rfl] at H; exact H
        clear H
        have H := H1
        clear H1
        obtain rfl := Option.some.inj H
        go_wp2
        go_ret
        exact ⟨by first | rfl | (simp [errW_none, errW_some] <;> rfl) | (simp [*, errW_none, errW_some] <;> rfl), by repeat (first | (with_reducible first | exact HB.out | apply below_alloc | apply pw_below_drewN | apply below_drew1) | exact HB.out)⟩
      · replace c6 := Bool.eq_false_iff.mpr c6
        subst c6
        have H1 : ((laws_effects.f kj3 l1 l2).bind fun t157 => (if t157 = true then ((laws_expression.f a0).bind fun t159 => ((laws_merged.f kj3 t159 l1 l2).bind fun bt160 => (if bt160.2.2 = true then (if bt160.2.1 < (-1) then (some false) else (if bt160.2.1 ≥ (l1.length : Int) then (some false) else (if bt160.2.1 < 0 then ((laws_awakeMerge.f kj3).bind fun t163 => (some t163)) else (if 0 ≤ bt160.2.1 then (if bt160.2.1 < (l2.length : Int) then (if rdOf false l2 bt160.2.1 = true then (if bt160.2.1 < (l1.length : Int) then (if (rd l1 bt160.2.1) = bt160.1 then ((laws_awakeMerge.f kj3).bind fun t166 => (some t166)) else (some false)) else (none)) else (some false)) else (none)) else (none))))) else (some false)))) else ((laws_awakeMerge.f kj3).bind fun t158 => (some t158)))) = some r := by rw [if_neg (show ¬ (false = true) by decide)] at H; exact H
        clear H
        have H := H1
        clear H1
        replace H := Option.bind_eq_some_iff.mp H
        obtain ⟨t157, A70, H⟩ := H
        replace H : (if t157 = true then ((laws_expression.f a0).bind fun t159 => ((laws_merged.f kj3 t159 l1 l2).bind fun bt160 => (if bt160.2.2 = true then (if bt160.2.1 < (-1) then (some false) else (if bt160.2.1 ≥ (l1.length : Int) then (some false) else (if bt160.2.1 < 0 then ((laws_awakeMerge.f kj3).bind fun t163 => (some t163)) else (if 0 ≤ bt160.2.1 then (if bt160.2.1 < (l2.length : Int) then (if rdOf false l2 bt160.2.1 = true then (if bt160.2.1 < (l1.length : Int) then (if (rd l1 bt160.2.1) = bt160.1 then ((laws_awakeMerge.f kj3).bind fun t166 => (some t166)) else (some false)) else (none)) else (some false)) else (none)) else (none))))) else (some false)))) else ((laws_awakeMerge.f kj3).bind fun t158 => (some t158))) = some r := H
        have A7 := Aside0.mk A70
        clear A70
        by_cases c8 : t157 = true
        · subst c8
          have H1 : ((laws_expression.f a0).bind fun t159 => ((laws_merged.f kj3 t159 l1 l2).bind fun bt160 => (if bt160.2.2 = true then (if bt160.2.1 < (-1) then (some false) else (if bt160.2.1 ≥ (l1.length : Int) then (some false) else (if bt160.2.1 < 0 then ((laws_awakeMerge.f kj3).bind fun t163 => (some t163)) else (if 0 ≤ bt160.2.1 then (if bt160.2.1 < (l2.length : Int) then (if rdOf false l2 bt160.2.1 = true then (if bt160.2.1 < (l1.length : Int) then (if (rd l1 bt160.2.1) = bt160.1 then ((laws_awakeMerge.f kj3).bind fun t166 => (some t166)) else (some false)) else (none)) else (some false)) else (none)) else (none))))) else (some false)))) = some r := by rw [if_pos rfl] at H; exact H
          clear H
          have H := H1
          clear H1
          replace H := Option.bind_eq_some_iff.mp H
          obtain ⟨t159, A90, H⟩ := H
          replace H : ((laws_merged.f kj3 t159 l1 l2).bind fun bt160 => (if bt160.2.2 = true then (if bt160.2.1 < (-1) then (some false) else (if bt160.2.1 ≥ (l1.length : Int) then (some false) else (if bt160.2.1 < 0 then ((laws_awakeMerge.f kj3).bind fun t163 => (some t163)) else (if 0 ≤ bt160.2.1 then (if bt160.2.1 < (l2.length : Int) then (if rdOf false l2 bt160.2.1 = true then (if bt160.2.1 < (l1.length : Int) then (if (rd l1 bt160.2.1) = bt160.1 then ((laws_awakeMerge.f kj3).bind fun t166 => (some t166)) else (some false)) else (none)) else (some false)) else (none)) else (none))))) else (some false))) = some r := H
          have A9 := Aside0.mk A90
          clear A90
          replace H := Option.bind_eq_some_iff.mp H
          obtain ⟨⟨t160, t161, t162⟩, A100, H⟩ := H
          replace H : (if t162 = true then (if t161 < (-1) then (some false) else (if t161 ≥ (l1.length : Int) then (some false) else (if t161 < 0 then ((laws_awakeMerge.f kj3).bind fun t163 => (some t163)) else (if 0 ≤ t161 then (if t161 < (l2.length : Int) then (if rdOf false l2 t161 = true then (if t161 < (l1.length : Int) then (if (rd l1 t161) = t160 then ((laws_awakeMerge.f kj3).bind fun t166 => (some t166)) else (some false)) else (none)) else (some false)) else (none)) else (none))))) else (some false)) = some r := H
          have A10 := Aside0.mk A100
          clear A100
          by_cases c11 : t162 = true
          · subst c11
            have H1 : (if t161 < (-1) then (some false) else (if t161 ≥ (l1.length : Int) then (some false) else (if t161 < 0 then ((laws_awakeMerge.f kj3).bind fun t163 => (some t163)) else (if 0 ≤ t161 then (if t161 < (l2.length : Int) then (if rdOf false l2 t161 = true then (if t161 < (l1.length : Int) then (if (rd l1 t161) = t160 then ((laws_awakeMerge.f kj3).bind fun t166 => (some t166)) else (some false)) else (none)) else (some false)) else (none)) else (none))))) = some r := by rw [if_pos rfl] at H; exact H
            clear H
            have H := H1
            clear H1
            by_cases c12 : t161 < (-1)
            · rw [if_pos c12] at H
              have c12b0 : decide (t161 < (-1)) = true := decide_eq_true c12
              clear c12
              obtain rfl := Option.some.inj H
              go_wp2_with (first | ((with_reducible refine gate_callee (f := 28) rfl ?_); refine goesL_ (some 20) rfl rfl Try.func28 (by kernel_rfl) rfl #[.slice A1 l1.length c1, .slice A2 l2.length c2] rfl (by (try simp only [List.map_toArray, List.map_cons, List.map_nil]); first | done | rfl | (simp only [List.length_drop, List.length_take]; rfl)) ?_; (with_reducible refine (laws_effects.calls kj3 _ _ l1 _ _ l2 true _ ?side1 ?side2 ?side3 ?side4 A7.out).mono ?_); (case side1 => repeat (first | exact (Kd.C_below HR1.out HB.out) | (with_reducible refine Kd.C_alloc ?_ _) | (with_reducible refine Kd.C_drewN ?_ _) | (with_reducible refine Kd.C_drew ?_))); (case side2 => exact HC1.out); (case side3 => repeat (first | exact (Kd.C_below HR2.out HB.out) | (with_reducible refine Kd.C_alloc ?_ _) | (with_reducible refine Kd.C_drewN ?_ _) | (with_reducible refine Kd.C_drew ?_))); (case side4 => exact HC2.out); rintro e w' ⟨rfl, ⟨nd, rfl⟩⟩; refine ⟨_, rfl, ?_⟩) | ((with_reducible refine gate_callee (f := 31) rfl ?_); refine goesL_ (some 25) rfl rfl Try.func31 (by kernel_rfl) rfl #[.int .i64 a0] rfl (by (try simp only [List.map_toArray, List.map_cons, List.map_nil]); first | done | rfl | (simp only [List.length_drop, List.length_take]; rfl)) ?_; (with_reducible refine (laws_expression.calls a0 t159 _ A9.out).mono ?_); rintro e w13 ⟨rfl, hb⟩; refine ⟨_, rfl, ?_⟩; have n0_ := Aside0.mk (below_step (by repeat (first | (with_reducible first | exact HB.out | apply below_alloc | apply pw_below_drewN | apply below_drew1) | exact HB.out)) hb); clear HB; have HB := n0_; clear n0_; (try clear hb); (try clear hb2); (try clear hk); (try clear hi)) | ((with_reducible refine gate_callee (f := 32) rfl ?_); refine goesL_ (some 28) rfl rfl Try.func32 (by kernel_rfl) rfl #[.string t159, .slice A1 l1.length c1, .slice A2 l2.length c2] rfl (by (try simp only [List.map_toArray, List.map_cons, List.map_nil]); first | done | rfl | (simp only [List.length_drop, List.length_take]; rfl)) ?_; (with_reducible refine (laws_merged.calls kj3 t159 _ _ l1 _ _ l2 t160 t161 true _ ?side1 ?side2 ?side3 ?side4 A10.out).mono ?_); (case side1 => repeat (first | exact (Kd.C_below HR1.out HB.out) | (with_reducible refine Kd.C_alloc ?_ _) | (with_reducible refine Kd.C_drewN ?_ _) | (with_reducible refine Kd.C_drew ?_))); (case side2 => exact HC1.out); (case side3 => repeat (first | exact (Kd.C_below HR2.out HB.out) | (with_reducible refine Kd.C_alloc ?_ _) | (with_reducible refine Kd.C_drewN ?_ _) | (with_reducible refine Kd.C_drew ?_))); (case side4 => exact HC2.out); rintro e w14 ⟨rfl, hb⟩; refine ⟨_, rfl, ?_⟩; have n0_ := Aside0.mk (below_step (by repeat (first | (with_reducible first | exact HB.out | apply below_alloc | apply pw_below_drewN | apply below_drew1) | exact HB.out)) hb); clear HB; have HB := n0_; clear n0_; (try clear hb); (try clear hb2); (try clear hk); (try clear hi)))
              go_ret
              exact ⟨by first | rfl | (simp [errW_none, errW_some] <;> rfl) | (simp [*, errW_none, errW_some] <;> rfl), by repeat (first | (with_reducible first | exact HB.out | apply below_alloc | apply pw_below_drewN | apply below_drew1) | exact HB.out)⟩
            · rw [if_neg c12] at H
              have c12b0 : decide (t161 < (-1)) = false := decide_eq_false c12
              clear c12
              by_cases c15 : t161 ≥ (l1.length : Int)
              · rw [if_pos c15] at H
                have c15b0 : decide ((l1.length : Int) ≤ t161) = true := decide_eq_true c15
                clear c15
                obtain rfl := Option.some.inj H
                go_wp2_with (first | ((with_reducible refine gate_callee (f := 28) rfl ?_); refine goesL_ (some 20) rfl rfl Try.func28 (by kernel_rfl) rfl #[.slice A1 l1.length c1, .slice A2 l2.length c2] rfl (by (try simp only [List.map_toArray, List.map_cons, List.map_nil]); first | done | rfl | (simp only [List.length_drop, List.length_take]; rfl)) ?_; (with_reducible refine (laws_effects.calls kj3 _ _ l1 _ _ l2 true _ ?side1 ?side2 ?side3 ?side4 A7.out).mono ?_); (case side1 => repeat (first | exact (Kd.C_below HR1.out HB.out) | (with_reducible refine Kd.C_alloc ?_ _) | (with_reducible refine Kd.C_drewN ?_ _) | (with_reducible refine Kd.C_drew ?_))); (case side2 => exact HC1.out); (case side3 => repeat (first | exact (Kd.C_below HR2.out HB.out) | (with_reducible refine Kd.C_alloc ?_ _) | (with_reducible refine Kd.C_drewN ?_ _) | (with_reducible refine Kd.C_drew ?_))); (case side4 => exact HC2.out); rintro e w' ⟨rfl, ⟨nd, rfl⟩⟩; refine ⟨_, rfl, ?_⟩) | ((with_reducible refine gate_callee (f := 31) rfl ?_); refine goesL_ (some 25) rfl rfl Try.func31 (by kernel_rfl) rfl #[.int .i64 a0] rfl (by (try simp only [List.map_toArray, List.map_cons, List.map_nil]); first | done | rfl | (simp only [List.length_drop, List.length_take]; rfl)) ?_; (with_reducible refine (laws_expression.calls a0 t159 _ A9.out).mono ?_); rintro e w16 ⟨rfl, hb⟩; refine ⟨_, rfl, ?_⟩; have n0_ := Aside0.mk (below_step (by repeat (first | (with_reducible first | exact HB.out | apply below_alloc | apply pw_below_drewN | apply below_drew1) | exact HB.out)) hb); clear HB; have HB := n0_; clear n0_; (try clear hb); (try clear hb2); (try clear hk); (try clear hi)) | ((with_reducible refine gate_callee (f := 32) rfl ?_); refine goesL_ (some 28) rfl rfl Try.func32 (by kernel_rfl) rfl #[.string t159, .slice A1 l1.length c1, .slice A2 l2.length c2] rfl (by (try simp only [List.map_toArray, List.map_cons, List.map_nil]); first | done | rfl | (simp only [List.length_drop, List.length_take]; rfl)) ?_; (with_reducible refine (laws_merged.calls kj3 t159 _ _ l1 _ _ l2 t160 t161 true _ ?side1 ?side2 ?side3 ?side4 A10.out).mono ?_); (case side1 => repeat (first | exact (Kd.C_below HR1.out HB.out) | (with_reducible refine Kd.C_alloc ?_ _) | (with_reducible refine Kd.C_drewN ?_ _) | (with_reducible refine Kd.C_drew ?_))); (case side2 => exact HC1.out); (case side3 => repeat (first | exact (Kd.C_below HR2.out HB.out) | (with_reducible refine Kd.C_alloc ?_ _) | (with_reducible refine Kd.C_drewN ?_ _) | (with_reducible refine Kd.C_drew ?_))); (case side4 => exact HC2.out); rintro e w17 ⟨rfl, hb⟩; refine ⟨_, rfl, ?_⟩; have n0_ := Aside0.mk (below_step (by repeat (first | (with_reducible first | exact HB.out | apply below_alloc | apply pw_below_drewN | apply below_drew1) | exact HB.out)) hb); clear HB; have HB := n0_; clear n0_; (try clear hb); (try clear hb2); (try clear hk); (try clear hi)))
                go_ret
                exact ⟨by first | rfl | (simp [errW_none, errW_some] <;> rfl) | (simp [*, errW_none, errW_some] <;> rfl), by repeat (first | (with_reducible first | exact HB.out | apply below_alloc | apply pw_below_drewN | apply below_drew1) | exact HB.out)⟩
              · rw [if_neg c15] at H
                have c15b0 : decide ((l1.length : Int) ≤ t161) = false := decide_eq_false c15
                clear c15
                by_cases c18 : t161 < 0
                · rw [if_pos c18] at H
                  have c18b0 : decide (t161 < 0) = true := decide_eq_true c18
                  clear c18
                  replace H := Option.bind_eq_some_iff.mp H
                  obtain ⟨t163, A190, H⟩ := H
                  replace H : (some t163) = some r := H
                  have A19 := Aside0.mk A190
                  clear A190
                  obtain rfl := Option.some.inj H
                  go_wp2_with (first | ((with_reducible refine gate_callee (f := 28) rfl ?_); refine goesL_ (some 20) rfl rfl Try.func28 (by kernel_rfl) rfl #[.slice A1 l1.length c1, .slice A2 l2.length c2] rfl (by (try simp only [List.map_toArray, List.map_cons, List.map_nil]); first | done | rfl | (simp only [List.length_drop, List.length_take]; rfl)) ?_; (with_reducible refine (laws_effects.calls kj3 _ _ l1 _ _ l2 true _ ?side1 ?side2 ?side3 ?side4 A7.out).mono ?_); (case side1 => repeat (first | exact (Kd.C_below HR1.out HB.out) | (with_reducible refine Kd.C_alloc ?_ _) | (with_reducible refine Kd.C_drewN ?_ _) | (with_reducible refine Kd.C_drew ?_))); (case side2 => exact HC1.out); (case side3 => repeat (first | exact (Kd.C_below HR2.out HB.out) | (with_reducible refine Kd.C_alloc ?_ _) | (with_reducible refine Kd.C_drewN ?_ _) | (with_reducible refine Kd.C_drew ?_))); (case side4 => exact HC2.out); rintro e w' ⟨rfl, ⟨nd, rfl⟩⟩; refine ⟨_, rfl, ?_⟩) | ((with_reducible refine gate_callee (f := 31) rfl ?_); refine goesL_ (some 25) rfl rfl Try.func31 (by kernel_rfl) rfl #[.int .i64 a0] rfl (by (try simp only [List.map_toArray, List.map_cons, List.map_nil]); first | done | rfl | (simp only [List.length_drop, List.length_take]; rfl)) ?_; (with_reducible refine (laws_expression.calls a0 t159 _ A9.out).mono ?_); rintro e w20 ⟨rfl, hb⟩; refine ⟨_, rfl, ?_⟩; have n0_ := Aside0.mk (below_step (by repeat (first | (with_reducible first | exact HB.out | apply below_alloc | apply pw_below_drewN | apply below_drew1) | exact HB.out)) hb); clear HB; have HB := n0_; clear n0_; (try clear hb); (try clear hb2); (try clear hk); (try clear hi)) | ((with_reducible refine gate_callee (f := 32) rfl ?_); refine goesL_ (some 28) rfl rfl Try.func32 (by kernel_rfl) rfl #[.string t159, .slice A1 l1.length c1, .slice A2 l2.length c2] rfl (by (try simp only [List.map_toArray, List.map_cons, List.map_nil]); first | done | rfl | (simp only [List.length_drop, List.length_take]; rfl)) ?_; (with_reducible refine (laws_merged.calls kj3 t159 _ _ l1 _ _ l2 t160 t161 true _ ?side1 ?side2 ?side3 ?side4 A10.out).mono ?_); (case side1 => repeat (first | exact (Kd.C_below HR1.out HB.out) | (with_reducible refine Kd.C_alloc ?_ _) | (with_reducible refine Kd.C_drewN ?_ _) | (with_reducible refine Kd.C_drew ?_))); (case side2 => exact HC1.out); (case side3 => repeat (first | exact (Kd.C_below HR2.out HB.out) | (with_reducible refine Kd.C_alloc ?_ _) | (with_reducible refine Kd.C_drewN ?_ _) | (with_reducible refine Kd.C_drew ?_))); (case side4 => exact HC2.out); rintro e w21 ⟨rfl, hb⟩; refine ⟨_, rfl, ?_⟩; have n0_ := Aside0.mk (below_step (by repeat (first | (with_reducible first | exact HB.out | apply below_alloc | apply pw_below_drewN | apply below_drew1) | exact HB.out)) hb); clear HB; have HB := n0_; clear n0_; (try clear hb); (try clear hb2); (try clear hk); (try clear hi)) | (go_at_call 29; (with_reducible refine (laws_awakeMerge.calls kj3  t163 _ A19.out).mono ?_); rintro e w22 ⟨rfl, hb⟩; have n0_ := Aside0.mk (below_step (by repeat (first | (with_reducible first | exact HB.out | apply below_alloc | apply pw_below_drewN | apply below_drew1) | exact HB.out)) hb); clear HB; have HB := n0_; clear n0_; (try clear hb); (try clear hb2); (try clear hk); (try clear hi)))
                  go_ret
                  exact ⟨by first | rfl | (simp [errW_none, errW_some] <;> rfl) | (simp [*, errW_none, errW_some] <;> rfl), by repeat (first | (with_reducible first | exact HB.out | apply below_alloc | apply pw_below_drewN | apply below_drew1) | exact HB.out)⟩
                · rw [if_neg c18] at H
                  have c18b0 : decide (t161 < 0) = false := decide_eq_false c18
                  clear c18
                  by_cases c23 : 0 ≤ t161
                  · rw [if_pos c23] at H
                    have c23b0 : decide (0 ≤ t161) = true := decide_eq_true c23
                    clear c23
                    by_cases c24 : t161 < (l2.length : Int)
                    · rw [if_pos c24] at H
                      have c24b0 : decide (t161 < (l2.length : Int)) = true := decide_eq_true c24
                      clear c24
                      obtain ⟨bq25, hbq25⟩ : ∃ b_ : Bool, b_ = (rdOf false l2 t161) := ⟨_, rfl⟩
                      replace H : (if bq25 = true then (if t161 < (l1.length : Int) then (if (rd l1 t161) = t160 then ((laws_awakeMerge.f kj3).bind fun t166 => (some t166)) else (some false)) else (none)) else (some false)) = some r := by rw [← hbq25] at H; exact H
                      have Nbq25 := Aside0.mk hbq25
                      clear hbq25
                      by_cases c26 : bq25 = true
                      · subst c26
                        have H1 : (if t161 < (l1.length : Int) then (if (rd l1 t161) = t160 then ((laws_awakeMerge.f kj3).bind fun t166 => (some t166)) else (some false)) else (none)) = some r := by rw [if_pos rfl] at H; exact H
                        clear H
                        have H := H1
                        clear H1
                        by_cases c27 : t161 < (l1.length : Int)
                        · rw [if_pos c27] at H
                          have c27b0 : decide (t161 < (l1.length : Int)) = true := decide_eq_true c27
                          clear c27
                          by_cases c28 : (rd l1 t161) = t160
                          · rw [if_pos c28] at H
                            have c28b0 : ((rd l1 t161) == t160) = true := beq_iff_eq.mpr c28
                            have c28b1 : ((rd l1 t161) != t160) = false := bne_eq_false_iff_eq.mpr c28
                            clear c28
                            replace H := Option.bind_eq_some_iff.mp H
                            obtain ⟨t166, A290, H⟩ := H
                            replace H : (some t166) = some r := H
                            have A29 := Aside0.mk A290
                            clear A290
                            obtain rfl := Option.some.inj H
                            go_wp2_with (first | ((with_reducible refine gate_callee (f := 28) rfl ?_); refine goesL_ (some 20) rfl rfl Try.func28 (by kernel_rfl) rfl #[.slice A1 l1.length c1, .slice A2 l2.length c2] rfl (by (try simp only [List.map_toArray, List.map_cons, List.map_nil]); first | done | rfl | (simp only [List.length_drop, List.length_take]; rfl)) ?_; (with_reducible refine (laws_effects.calls kj3 _ _ l1 _ _ l2 true _ ?side1 ?side2 ?side3 ?side4 A7.out).mono ?_); (case side1 => repeat (first | exact (Kd.C_below HR1.out HB.out) | (with_reducible refine Kd.C_alloc ?_ _) | (with_reducible refine Kd.C_drewN ?_ _) | (with_reducible refine Kd.C_drew ?_))); (case side2 => exact HC1.out); (case side3 => repeat (first | exact (Kd.C_below HR2.out HB.out) | (with_reducible refine Kd.C_alloc ?_ _) | (with_reducible refine Kd.C_drewN ?_ _) | (with_reducible refine Kd.C_drew ?_))); (case side4 => exact HC2.out); rintro e w' ⟨rfl, ⟨nd, rfl⟩⟩; refine ⟨_, rfl, ?_⟩) | ((with_reducible refine gate_callee (f := 31) rfl ?_); refine goesL_ (some 25) rfl rfl Try.func31 (by kernel_rfl) rfl #[.int .i64 a0] rfl (by (try simp only [List.map_toArray, List.map_cons, List.map_nil]); first | done | rfl | (simp only [List.length_drop, List.length_take]; rfl)) ?_; (with_reducible refine (laws_expression.calls a0 t159 _ A9.out).mono ?_); rintro e w30 ⟨rfl, hb⟩; refine ⟨_, rfl, ?_⟩; have n0_ := Aside0.mk (below_step (by repeat (first | (with_reducible first | exact HB.out | apply below_alloc | apply pw_below_drewN | apply below_drew1) | exact HB.out)) hb); clear HB; have HB := n0_; clear n0_; (try clear hb); (try clear hb2); (try clear hk); (try clear hi)) | ((with_reducible refine gate_callee (f := 32) rfl ?_); refine goesL_ (some 28) rfl rfl Try.func32 (by kernel_rfl) rfl #[.string t159, .slice A1 l1.length c1, .slice A2 l2.length c2] rfl (by (try simp only [List.map_toArray, List.map_cons, List.map_nil]); first | done | rfl | (simp only [List.length_drop, List.length_take]; rfl)) ?_; (with_reducible refine (laws_merged.calls kj3 t159 _ _ l1 _ _ l2 t160 t161 true _ ?side1 ?side2 ?side3 ?side4 A10.out).mono ?_); (case side1 => repeat (first | exact (Kd.C_below HR1.out HB.out) | (with_reducible refine Kd.C_alloc ?_ _) | (with_reducible refine Kd.C_drewN ?_ _) | (with_reducible refine Kd.C_drew ?_))); (case side2 => exact HC1.out); (case side3 => repeat (first | exact (Kd.C_below HR2.out HB.out) | (with_reducible refine Kd.C_alloc ?_ _) | (with_reducible refine Kd.C_drewN ?_ _) | (with_reducible refine Kd.C_drew ?_))); (case side4 => exact HC2.out); rintro e w31 ⟨rfl, hb⟩; refine ⟨_, rfl, ?_⟩; have n0_ := Aside0.mk (below_step (by repeat (first | (with_reducible first | exact HB.out | apply below_alloc | apply pw_below_drewN | apply below_drew1) | exact HB.out)) hb); clear HB; have HB := n0_; clear n0_; (try clear hb); (try clear hb2); (try clear hk); (try clear hi); have p164 : 0 ≤ (t161 : Int) := of_decide_eq_true (by first | (with_reducible assumption) | assumption); have q164 : t161 < (l2.length : Int) := of_decide_eq_true (by first | (with_reducible assumption) | assumption); obtain ⟨ad164, e164, hx164_0⟩ := Kd.at_bool HR2.out t161 p164 q164; (try rw [← Nbq25.out] at hx164_0); cases e164; replace hx164_0 := (HB.out.cell (World.block_lt_of_cell? w _ hx164_0)).trans hx164_0; replace p164 := eq_true p164; replace q164 := eq_true q164; have p165 : 0 ≤ (t161 : Int) := of_decide_eq_true (by first | (with_reducible assumption) | assumption); have q165 : t161 < (l1.length : Int) := of_decide_eq_true (by first | (with_reducible assumption) | assumption); obtain ⟨ad165, e165, hx165_0⟩ := Kd.at_int HR1.out t161 p165 q165; cases e165; replace hx165_0 := (HB.out.cell (World.block_lt_of_cell? w _ hx165_0)).trans hx165_0; replace p165 := eq_true p165; replace q165 := eq_true q165) | (go_at_call 29; (with_reducible refine (laws_awakeMerge.calls kj3  t166 _ A29.out).mono ?_); rintro e w32 ⟨rfl, hb⟩; have n0_ := Aside0.mk (below_step (by repeat (first | (with_reducible first | exact HB.out | apply below_alloc | apply pw_below_drewN | apply below_drew1) | exact HB.out)) hb); clear HB; have HB := n0_; clear n0_; (try clear hb); (try clear hb2); (try clear hk); (try clear hi)))
                            go_ret
                            exact ⟨by first | rfl | (simp [errW_none, errW_some] <;> rfl) | (simp [*, errW_none, errW_some] <;> rfl), by repeat (first | (with_reducible first | exact HB.out | apply below_alloc | apply pw_below_drewN | apply below_drew1) | exact HB.out)⟩
                          · rw [if_neg c28] at H
                            have c28b0 : ((rd l1 t161) == t160) = false := beq_eq_false_iff_ne.mpr c28
                            have c28b1 : ((rd l1 t161) != t160) = true := bne_iff_ne.mpr c28
                            obtain rfl := Option.some.inj H
                            go_wp2_with (first | ((with_reducible refine gate_callee (f := 28) rfl ?_); refine goesL_ (some 20) rfl rfl Try.func28 (by kernel_rfl) rfl #[.slice A1 l1.length c1, .slice A2 l2.length c2] rfl (by (try simp only [List.map_toArray, List.map_cons, List.map_nil]); first | done | rfl | (simp only [List.length_drop, List.length_take]; rfl)) ?_; (with_reducible refine (laws_effects.calls kj3 _ _ l1 _ _ l2 true _ ?side1 ?side2 ?side3 ?side4 A7.out).mono ?_); (case side1 => repeat (first | exact (Kd.C_below HR1.out HB.out) | (with_reducible refine Kd.C_alloc ?_ _) | (with_reducible refine Kd.C_drewN ?_ _) | (with_reducible refine Kd.C_drew ?_))); (case side2 => exact HC1.out); (case side3 => repeat (first | exact (Kd.C_below HR2.out HB.out) | (with_reducible refine Kd.C_alloc ?_ _) | (with_reducible refine Kd.C_drewN ?_ _) | (with_reducible refine Kd.C_drew ?_))); (case side4 => exact HC2.out); rintro e w' ⟨rfl, ⟨nd, rfl⟩⟩; refine ⟨_, rfl, ?_⟩) | ((with_reducible refine gate_callee (f := 31) rfl ?_); refine goesL_ (some 25) rfl rfl Try.func31 (by kernel_rfl) rfl #[.int .i64 a0] rfl (by (try simp only [List.map_toArray, List.map_cons, List.map_nil]); first | done | rfl | (simp only [List.length_drop, List.length_take]; rfl)) ?_; (with_reducible refine (laws_expression.calls a0 t159 _ A9.out).mono ?_); rintro e w33 ⟨rfl, hb⟩; refine ⟨_, rfl, ?_⟩; have n0_ := Aside0.mk (below_step (by repeat (first | (with_reducible first | exact HB.out | apply below_alloc | apply pw_below_drewN | apply below_drew1) | exact HB.out)) hb); clear HB; have HB := n0_; clear n0_; (try clear hb); (try clear hb2); (try clear hk); (try clear hi)) | ((with_reducible refine gate_callee (f := 32) rfl ?_); refine goesL_ (some 28) rfl rfl Try.func32 (by kernel_rfl) rfl #[.string t159, .slice A1 l1.length c1, .slice A2 l2.length c2] rfl (by (try simp only [List.map_toArray, List.map_cons, List.map_nil]); first | done | rfl | (simp only [List.length_drop, List.length_take]; rfl)) ?_; (with_reducible refine (laws_merged.calls kj3 t159 _ _ l1 _ _ l2 t160 t161 true _ ?side1 ?side2 ?side3 ?side4 A10.out).mono ?_); (case side1 => repeat (first | exact (Kd.C_below HR1.out HB.out) | (with_reducible refine Kd.C_alloc ?_ _) | (with_reducible refine Kd.C_drewN ?_ _) | (with_reducible refine Kd.C_drew ?_))); (case side2 => exact HC1.out); (case side3 => repeat (first | exact (Kd.C_below HR2.out HB.out) | (with_reducible refine Kd.C_alloc ?_ _) | (with_reducible refine Kd.C_drewN ?_ _) | (with_reducible refine Kd.C_drew ?_))); (case side4 => exact HC2.out); rintro e w34 ⟨rfl, hb⟩; refine ⟨_, rfl, ?_⟩; have n0_ := Aside0.mk (below_step (by repeat (first | (with_reducible first | exact HB.out | apply below_alloc | apply pw_below_drewN | apply below_drew1) | exact HB.out)) hb); clear HB; have HB := n0_; clear n0_; (try clear hb); (try clear hb2); (try clear hk); (try clear hi); have p164 : 0 ≤ (t161 : Int) := of_decide_eq_true (by first | (with_reducible assumption) | assumption); have q164 : t161 < (l2.length : Int) := of_decide_eq_true (by first | (with_reducible assumption) | assumption); obtain ⟨ad164, e164, hx164_0⟩ := Kd.at_bool HR2.out t161 p164 q164; (try rw [← Nbq25.out] at hx164_0); cases e164; replace hx164_0 := (HB.out.cell (World.block_lt_of_cell? w _ hx164_0)).trans hx164_0; replace p164 := eq_true p164; replace q164 := eq_true q164; have p165 : 0 ≤ (t161 : Int) := of_decide_eq_true (by first | (with_reducible assumption) | assumption); have q165 : t161 < (l1.length : Int) := of_decide_eq_true (by first | (with_reducible assumption) | assumption); obtain ⟨ad165, e165, hx165_0⟩ := Kd.at_int HR1.out t161 p165 q165; cases e165; replace hx165_0 := (HB.out.cell (World.block_lt_of_cell? w _ hx165_0)).trans hx165_0; replace p165 := eq_true p165; replace q165 := eq_true q165))
                            go_ret
                            exact ⟨by first | rfl | (simp [errW_none, errW_some] <;> rfl) | (simp [*, errW_none, errW_some] <;> rfl), by repeat (first | (with_reducible first | exact HB.out | apply below_alloc | apply pw_below_drewN | apply below_drew1) | exact HB.out)⟩
                        · rw [if_neg c27] at H
                          exact absurd H (by simp)
                      · replace c26 := Bool.eq_false_iff.mpr c26
                        subst c26
                        have H1 : (some false) = some r := by rw [if_neg (show ¬ (false = true) by decide)] at H; exact H
                        clear H
                        have H := H1
                        clear H1
                        obtain rfl := Option.some.inj H
                        go_wp2_with (first | ((with_reducible refine gate_callee (f := 28) rfl ?_); refine goesL_ (some 20) rfl rfl Try.func28 (by kernel_rfl) rfl #[.slice A1 l1.length c1, .slice A2 l2.length c2] rfl (by (try simp only [List.map_toArray, List.map_cons, List.map_nil]); first | done | rfl | (simp only [List.length_drop, List.length_take]; rfl)) ?_; (with_reducible refine (laws_effects.calls kj3 _ _ l1 _ _ l2 true _ ?side1 ?side2 ?side3 ?side4 A7.out).mono ?_); (case side1 => repeat (first | exact (Kd.C_below HR1.out HB.out) | (with_reducible refine Kd.C_alloc ?_ _) | (with_reducible refine Kd.C_drewN ?_ _) | (with_reducible refine Kd.C_drew ?_))); (case side2 => exact HC1.out); (case side3 => repeat (first | exact (Kd.C_below HR2.out HB.out) | (with_reducible refine Kd.C_alloc ?_ _) | (with_reducible refine Kd.C_drewN ?_ _) | (with_reducible refine Kd.C_drew ?_))); (case side4 => exact HC2.out); rintro e w' ⟨rfl, ⟨nd, rfl⟩⟩; refine ⟨_, rfl, ?_⟩) | ((with_reducible refine gate_callee (f := 31) rfl ?_); refine goesL_ (some 25) rfl rfl Try.func31 (by kernel_rfl) rfl #[.int .i64 a0] rfl (by (try simp only [List.map_toArray, List.map_cons, List.map_nil]); first | done | rfl | (simp only [List.length_drop, List.length_take]; rfl)) ?_; (with_reducible refine (laws_expression.calls a0 t159 _ A9.out).mono ?_); rintro e w35 ⟨rfl, hb⟩; refine ⟨_, rfl, ?_⟩; have n0_ := Aside0.mk (below_step (by repeat (first | (with_reducible first | exact HB.out | apply below_alloc | apply pw_below_drewN | apply below_drew1) | exact HB.out)) hb); clear HB; have HB := n0_; clear n0_; (try clear hb); (try clear hb2); (try clear hk); (try clear hi)) | ((with_reducible refine gate_callee (f := 32) rfl ?_); refine goesL_ (some 28) rfl rfl Try.func32 (by kernel_rfl) rfl #[.string t159, .slice A1 l1.length c1, .slice A2 l2.length c2] rfl (by (try simp only [List.map_toArray, List.map_cons, List.map_nil]); first | done | rfl | (simp only [List.length_drop, List.length_take]; rfl)) ?_; (with_reducible refine (laws_merged.calls kj3 t159 _ _ l1 _ _ l2 t160 t161 true _ ?side1 ?side2 ?side3 ?side4 A10.out).mono ?_); (case side1 => repeat (first | exact (Kd.C_below HR1.out HB.out) | (with_reducible refine Kd.C_alloc ?_ _) | (with_reducible refine Kd.C_drewN ?_ _) | (with_reducible refine Kd.C_drew ?_))); (case side2 => exact HC1.out); (case side3 => repeat (first | exact (Kd.C_below HR2.out HB.out) | (with_reducible refine Kd.C_alloc ?_ _) | (with_reducible refine Kd.C_drewN ?_ _) | (with_reducible refine Kd.C_drew ?_))); (case side4 => exact HC2.out); rintro e w36 ⟨rfl, hb⟩; refine ⟨_, rfl, ?_⟩; have n0_ := Aside0.mk (below_step (by repeat (first | (with_reducible first | exact HB.out | apply below_alloc | apply pw_below_drewN | apply below_drew1) | exact HB.out)) hb); clear HB; have HB := n0_; clear n0_; (try clear hb); (try clear hb2); (try clear hk); (try clear hi); have p164 : 0 ≤ (t161 : Int) := of_decide_eq_true (by first | (with_reducible assumption) | assumption); have q164 : t161 < (l2.length : Int) := of_decide_eq_true (by first | (with_reducible assumption) | assumption); obtain ⟨ad164, e164, hx164_0⟩ := Kd.at_bool HR2.out t161 p164 q164; (try rw [← Nbq25.out] at hx164_0); cases e164; replace hx164_0 := (HB.out.cell (World.block_lt_of_cell? w _ hx164_0)).trans hx164_0; replace p164 := eq_true p164; replace q164 := eq_true q164))
                        go_ret
                        exact ⟨by first | rfl | (simp [errW_none, errW_some] <;> rfl) | (simp [*, errW_none, errW_some] <;> rfl), by repeat (first | (with_reducible first | exact HB.out | apply below_alloc | apply pw_below_drewN | apply below_drew1) | exact HB.out)⟩
                    · rw [if_neg c24] at H
                      exact absurd H (by simp)
                  · rw [if_neg c23] at H
                    exact absurd H (by simp)
          · replace c11 := Bool.eq_false_iff.mpr c11
            subst c11
            have H1 : (some false) = some r := by rw [if_neg (show ¬ (false = true) by decide)] at H; exact H
            clear H
            have H := H1
            clear H1
            obtain rfl := Option.some.inj H
            go_wp2_with (first | ((with_reducible refine gate_callee (f := 28) rfl ?_); refine goesL_ (some 20) rfl rfl Try.func28 (by kernel_rfl) rfl #[.slice A1 l1.length c1, .slice A2 l2.length c2] rfl (by (try simp only [List.map_toArray, List.map_cons, List.map_nil]); first | done | rfl | (simp only [List.length_drop, List.length_take]; rfl)) ?_; (with_reducible refine (laws_effects.calls kj3 _ _ l1 _ _ l2 true _ ?side1 ?side2 ?side3 ?side4 A7.out).mono ?_); (case side1 => repeat (first | exact (Kd.C_below HR1.out HB.out) | (with_reducible refine Kd.C_alloc ?_ _) | (with_reducible refine Kd.C_drewN ?_ _) | (with_reducible refine Kd.C_drew ?_))); (case side2 => exact HC1.out); (case side3 => repeat (first | exact (Kd.C_below HR2.out HB.out) | (with_reducible refine Kd.C_alloc ?_ _) | (with_reducible refine Kd.C_drewN ?_ _) | (with_reducible refine Kd.C_drew ?_))); (case side4 => exact HC2.out); rintro e w' ⟨rfl, ⟨nd, rfl⟩⟩; refine ⟨_, rfl, ?_⟩) | ((with_reducible refine gate_callee (f := 31) rfl ?_); refine goesL_ (some 25) rfl rfl Try.func31 (by kernel_rfl) rfl #[.int .i64 a0] rfl (by (try simp only [List.map_toArray, List.map_cons, List.map_nil]); first | done | rfl | (simp only [List.length_drop, List.length_take]; rfl)) ?_; (with_reducible refine (laws_expression.calls a0 t159 _ A9.out).mono ?_); rintro e w37 ⟨rfl, hb⟩; refine ⟨_, rfl, ?_⟩; have n0_ := Aside0.mk (below_step (by repeat (first | (with_reducible first | exact HB.out | apply below_alloc | apply pw_below_drewN | apply below_drew1) | exact HB.out)) hb); clear HB; have HB := n0_; clear n0_; (try clear hb); (try clear hb2); (try clear hk); (try clear hi)) | ((with_reducible refine gate_callee (f := 32) rfl ?_); refine goesL_ (some 28) rfl rfl Try.func32 (by kernel_rfl) rfl #[.string t159, .slice A1 l1.length c1, .slice A2 l2.length c2] rfl (by (try simp only [List.map_toArray, List.map_cons, List.map_nil]); first | done | rfl | (simp only [List.length_drop, List.length_take]; rfl)) ?_; (with_reducible refine (laws_merged.calls kj3 t159 _ _ l1 _ _ l2 t160 t161 false _ ?side1 ?side2 ?side3 ?side4 A10.out).mono ?_); (case side1 => repeat (first | exact (Kd.C_below HR1.out HB.out) | (with_reducible refine Kd.C_alloc ?_ _) | (with_reducible refine Kd.C_drewN ?_ _) | (with_reducible refine Kd.C_drew ?_))); (case side2 => exact HC1.out); (case side3 => repeat (first | exact (Kd.C_below HR2.out HB.out) | (with_reducible refine Kd.C_alloc ?_ _) | (with_reducible refine Kd.C_drewN ?_ _) | (with_reducible refine Kd.C_drew ?_))); (case side4 => exact HC2.out); rintro e w38 ⟨rfl, hb⟩; refine ⟨_, rfl, ?_⟩; have n0_ := Aside0.mk (below_step (by repeat (first | (with_reducible first | exact HB.out | apply below_alloc | apply pw_below_drewN | apply below_drew1) | exact HB.out)) hb); clear HB; have HB := n0_; clear n0_; (try clear hb); (try clear hb2); (try clear hk); (try clear hi)))
            go_ret
            exact ⟨by first | rfl | (simp [errW_none, errW_some] <;> rfl) | (simp [*, errW_none, errW_some] <;> rfl), by repeat (first | (with_reducible first | exact HB.out | apply below_alloc | apply pw_below_drewN | apply below_drew1) | exact HB.out)⟩
        · replace c8 := Bool.eq_false_iff.mpr c8
          subst c8
          have H1 : ((laws_awakeMerge.f kj3).bind fun t158 => (some t158)) = some r := by rw [if_neg (show ¬ (false = true) by decide)] at H; exact H
          clear H
          have H := H1
          clear H1
          replace H := Option.bind_eq_some_iff.mp H
          obtain ⟨t158, A390, H⟩ := H
          replace H : (some t158) = some r := H
          have A39 := Aside0.mk A390
          clear A390
          obtain rfl := Option.some.inj H
          go_wp2_with (first | ((with_reducible refine gate_callee (f := 28) rfl ?_); refine goesL_ (some 20) rfl rfl Try.func28 (by kernel_rfl) rfl #[.slice A1 l1.length c1, .slice A2 l2.length c2] rfl (by (try simp only [List.map_toArray, List.map_cons, List.map_nil]); first | done | rfl | (simp only [List.length_drop, List.length_take]; rfl)) ?_; (with_reducible refine (laws_effects.calls kj3 _ _ l1 _ _ l2 false _ ?side1 ?side2 ?side3 ?side4 A7.out).mono ?_); (case side1 => repeat (first | exact (Kd.C_below HR1.out HB.out) | (with_reducible refine Kd.C_alloc ?_ _) | (with_reducible refine Kd.C_drewN ?_ _) | (with_reducible refine Kd.C_drew ?_))); (case side2 => exact HC1.out); (case side3 => repeat (first | exact (Kd.C_below HR2.out HB.out) | (with_reducible refine Kd.C_alloc ?_ _) | (with_reducible refine Kd.C_drewN ?_ _) | (with_reducible refine Kd.C_drew ?_))); (case side4 => exact HC2.out); rintro e w' ⟨rfl, ⟨nd, rfl⟩⟩; refine ⟨_, rfl, ?_⟩) | ((with_reducible refine gate_callee (f := 29) rfl ?_); refine goesL_ (some 22) rfl rfl Try.func29 (by kernel_rfl) rfl #[] rfl (by (try simp only [List.map_toArray, List.map_cons, List.map_nil]); first | done | rfl | (simp only [List.length_drop, List.length_take]; rfl)) ?_; (with_reducible refine (laws_awakeMerge.calls kj3  t158 _ A39.out).mono ?_); rintro e w40 ⟨rfl, hb⟩; refine ⟨_, rfl, ?_⟩; have n0_ := Aside0.mk (below_step (by repeat (first | (with_reducible first | exact HB.out | apply below_alloc | apply pw_below_drewN | apply below_drew1) | exact HB.out)) hb); clear HB; have HB := n0_; clear n0_; (try clear hb); (try clear hb2); (try clear hk); (try clear hi)))
          go_ret
          exact ⟨by first | rfl | (simp [errW_none, errW_some] <;> rfl) | (simp [*, errW_none, errW_some] <;> rfl), by repeat (first | (with_reducible first | exact HB.out | apply below_alloc | apply pw_below_drewN | apply below_drew1) | exact HB.out)⟩

end Go.Proofs.Ytdhmlcnlklcofaa.PFnMergeWhich
