/- The machine side of laws.FnMergeIdle: each function of this text answers what its Lean function answers (written for this claim by a program of this session over the kit's print; no condition beyond what each theorem says). -/
import Derived.Test.YtdhmlcnlklcofaaOFnMergeIdlex0
import Derived.Test.YtdhmlcnlklcofaaOFnMergeIdlex1
import Derived.Test.YtdhmlcnlklcofaaOFnMergeIdlex3
namespace Go.Proofs.Ytdhmlcnlklcofaa.PFnMergeIdle
open Go.RowKit Go.Proofs.YtdhmlcnlklcofaaW.PrintWords Go.Proofs.YtdhmlcnlklcofaaW.PrintLast Go.Proofs.YtdhmlcnlklcofaaW.PrintMore
attribute [local go_sem] max2_int min2_int max_two min_two max_three min_three max_four min_four   -- for this text's walks alone
set_option linter.unusedVariables false
set_option linter.unusedSimpArgs false

/-! ### laws_FnMergeIdle: function 11 -/
mutual
def laws_FnMergeIdle.j0 : Nat → Int → Int → Bool → List Int → List Bool → Bool → Option (Bool)
  | 0, _, _, _, _, _, _ => none
  | k + 1, x0, x1, x2, x3, x4, x28 => if x28 = true then (some true) else ((laws_effects.f k x3 x4).bind fun t157 => (if t157 = true then (laws_FnMergeIdle.j1 k x0 x1 x2 x3 x4 (decide ((x3.length : Int) > 19))) else (laws_FnMergeIdle.j1 k x0 x1 x2 x3 x4 true)))
def laws_FnMergeIdle.j1 : Nat → Int → Int → Bool → List Int → List Bool → Bool → Option (Bool)
  | 0, _, _, _, _, _, _ => none
  | k + 1, x0, x1, x2, x3, x4, x37 => if x37 = true then ((laws_awakeMerge.f k).bind fun t158 => (some t158)) else (if (IntKind.u64.wrap (wrap64 ((x3.length : Int) + 1))) = 0 then (none) else (if x2 = true then (laws_FnMergeIdle.j2 k x0 x2 x3 x4 (wrap64 (Int.tmod (IntKind.u64.wrap (x1)) (IntKind.u64.wrap (wrap64 ((x3.length : Int) + 1))))) 1) else (laws_FnMergeIdle.j2 k x0 x2 x3 x4 (wrap64 (Int.tmod (IntKind.u64.wrap (x1)) (IntKind.u64.wrap (wrap64 ((x3.length : Int) + 1))))) (wrap64 (Int.tmod (IntKind.u64.wrap (wrap64 (Int.tdiv x1 7))) 3)))))
def laws_FnMergeIdle.j2 : Nat → Int → Bool → List Int → List Bool → Int → Int → Option (Bool)
  | 0, _, _, _, _, _, _ => none
  | k + 1, x0, x2, x3, x4, x11, x12 => (some (([] : List Int) : List Int)).bind fun y159 => (if 0 ≤ x11 then (if x11 ≤ (x3.length : Int) then (if y159.length + (x3.take (x11 : Int).toNat).length < 17592186044416 then ((some (y159 ++ (x3.take (x11 : Int).toNat) : List Int)).bind fun y163 => ((some (([x12] : List Int) : List Int)).bind fun y166 => (if y163.length + y166.length < 17592186044416 then ((some (y163 ++ y166 : List Int)).bind fun y169 => (if y169.length + (x3.drop (x11 : Int).toNat).length < 17592186044416 then ((some (([] : List Bool) : List Bool)).bind fun y176 => (if x11 ≤ (x4.length : Int) then (if y176.length + (x4.take (x11 : Int).toNat).length < 140737488355328 then ((some (y176 ++ (x4.take (x11 : Int).toNat) : List Bool)).bind fun y180 => ((some (([x2] : List Bool) : List Bool)).bind fun y183 => (if y180.length + y183.length < 140737488355328 then ((some (y180 ++ y183 : List Bool)).bind fun y186 => (if y186.length + (x4.drop (x11 : Int).toNat).length < 140737488355328 then ((laws_expression.f x0).bind fun t193 => ((laws_merged.f k t193 x3 x4).bind fun bt194 => ((laws_expression.f x0).bind fun t197 => ((laws_merged.f k t197 (y169 ++ (x3.drop (x11 : Int).toNat)) (y186 ++ (x4.drop (x11 : Int).toNat))).bind fun bt198 => (if bt194.2.2 = true then (if bt198.2.2 = true then (if ((bt194.1 == 0) == (bt198.1 == 0)) = true then ((laws_awakeMerge.f k).bind fun t201 => (some t201)) else (some false)) else (some false)) else (some false)))))) else (none))) else (none)))) else (none)) else (none))) else (none))) else (none)))) else (none)) else (none)) else (none))
end
def laws_FnMergeIdle.f (k : Nat) (a0 : Int) (a1 : Int) (a2 : Bool) (l3 : List Int) (l4 : List Bool) : Option (Bool) := if (l3.length : Int) > 2147483647 then (laws_FnMergeIdle.j0 k a0 a1 a2 l3 l4 true) else (laws_FnMergeIdle.j0 k a0 a1 a2 l3 l4 (decide ((l4.length : Int) > 2147483647)))
theorem laws_FnMergeIdle.mono_l : ∀ k, (∀ y0 y1 y2 y3 y4 y5, LeO (laws_FnMergeIdle.j0 k y0 y1 y2 y3 y4 y5) (laws_FnMergeIdle.j0 (k + 1) y0 y1 y2 y3 y4 y5)) ∧ (∀ y0 y1 y2 y3 y4 y5, LeO (laws_FnMergeIdle.j1 k y0 y1 y2 y3 y4 y5) (laws_FnMergeIdle.j1 (k + 1) y0 y1 y2 y3 y4 y5)) ∧ (∀ y0 y1 y2 y3 y4 y5, LeO (laws_FnMergeIdle.j2 k y0 y1 y2 y3 y4 y5) (laws_FnMergeIdle.j2 (k + 1) y0 y1 y2 y3 y4 y5))
  | 0 => ⟨fun _ _ _ _ _ _ r h => by simp [laws_FnMergeIdle.j0] at h, fun _ _ _ _ _ _ r h => by simp [laws_FnMergeIdle.j1] at h, fun _ _ _ _ _ _ r h => by simp [laws_FnMergeIdle.j2] at h⟩
  | k + 1 => by
    obtain ⟨ih0, ih1, ih2⟩ := laws_FnMergeIdle.mono_l k
    refine ⟨?_, ?_, ?_⟩
    · intro y0 y1 y2 y3 y4 y5
      unfold laws_FnMergeIdle.j0
      repeat' first
      | (with_reducible exact ih0 _ _ _ _ _ _)
      | (with_reducible exact ih1 _ _ _ _ _ _)
      | (with_reducible exact ih2 _ _ _ _ _ _)
      | (with_reducible exact laws_awakeMerge.mono _)
      | (with_reducible exact laws_effects.mono _ _ _)
      | (with_reducible exact laws_merged.mono _ _ _ _)
      | (with_reducible exact LeO.refl _)
      | (with_reducible exact LeO.none _)
      | (with_reducible refine LeO.ite ?_ ?_)
      | (with_reducible refine LeO.bind ?_ (fun _ => ?_))
      | exact ih0 _ _ _ _ _ _
      | exact ih1 _ _ _ _ _ _
      | exact ih2 _ _ _ _ _ _
      | exact laws_awakeMerge.mono _
      | exact laws_effects.mono _ _ _
      | exact laws_merged.mono _ _ _ _
      | exact LeO.none _
      | refine LeO.ite ?_ ?_
      | refine LeO.bind ?_ (fun _ => ?_)
    · intro y0 y1 y2 y3 y4 y5
      unfold laws_FnMergeIdle.j1
      repeat' first
      | (with_reducible exact ih0 _ _ _ _ _ _)
      | (with_reducible exact ih1 _ _ _ _ _ _)
      | (with_reducible exact ih2 _ _ _ _ _ _)
      | (with_reducible exact laws_awakeMerge.mono _)
      | (with_reducible exact laws_effects.mono _ _ _)
      | (with_reducible exact laws_merged.mono _ _ _ _)
      | (with_reducible exact LeO.refl _)
      | (with_reducible exact LeO.none _)
      | (with_reducible refine LeO.ite ?_ ?_)
      | (with_reducible refine LeO.bind ?_ (fun _ => ?_))
      | exact ih0 _ _ _ _ _ _
      | exact ih1 _ _ _ _ _ _
      | exact ih2 _ _ _ _ _ _
      | exact laws_awakeMerge.mono _
      | exact laws_effects.mono _ _ _
      | exact laws_merged.mono _ _ _ _
      | exact LeO.none _
      | refine LeO.ite ?_ ?_
      | refine LeO.bind ?_ (fun _ => ?_)
    · intro y0 y1 y2 y3 y4 y5
      unfold laws_FnMergeIdle.j2
      repeat' first
      | (with_reducible exact ih0 _ _ _ _ _ _)
      | (with_reducible exact ih1 _ _ _ _ _ _)
      | (with_reducible exact ih2 _ _ _ _ _ _)
      | (with_reducible exact laws_awakeMerge.mono _)
      | (with_reducible exact laws_effects.mono _ _ _)
      | (with_reducible exact laws_merged.mono _ _ _ _)
      | (with_reducible exact LeO.refl _)
      | (with_reducible exact LeO.none _)
      | (with_reducible refine LeO.ite ?_ ?_)
      | (with_reducible refine LeO.bind ?_ (fun _ => ?_))
      | exact ih0 _ _ _ _ _ _
      | exact ih1 _ _ _ _ _ _
      | exact ih2 _ _ _ _ _ _
      | exact laws_awakeMerge.mono _
      | exact laws_effects.mono _ _ _
      | exact laws_merged.mono _ _ _ _
      | exact LeO.none _
      | refine LeO.ite ?_ ?_
      | refine LeO.bind ?_ (fun _ => ?_)
theorem laws_FnMergeIdle.mono : ∀ a0 a1 a2 a3 a4 k, LeO (laws_FnMergeIdle.f k a0 a1 a2 a3 a4) (laws_FnMergeIdle.f (k + 1) a0 a1 a2 a3 a4) := by
  intro a0 a1 a2 a3 a4 k
  obtain ⟨ih0, ih1, ih2⟩ := laws_FnMergeIdle.mono_l k
  unfold laws_FnMergeIdle.f
  repeat' first
      | (with_reducible exact ih0 _ _ _ _ _ _)
      | (with_reducible exact ih1 _ _ _ _ _ _)
      | (with_reducible exact ih2 _ _ _ _ _ _)
      | (with_reducible exact laws_awakeMerge.mono _)
      | (with_reducible exact laws_effects.mono _ _ _)
      | (with_reducible exact laws_merged.mono _ _ _ _)
      | (with_reducible exact LeO.refl _)
      | (with_reducible exact LeO.none _)
      | (with_reducible refine LeO.ite ?_ ?_)
      | (with_reducible refine LeO.bind ?_ (fun _ => ?_))
      | exact ih0 _ _ _ _ _ _
      | exact ih1 _ _ _ _ _ _
      | exact ih2 _ _ _ _ _ _
      | exact laws_awakeMerge.mono _
      | exact laws_effects.mono _ _ _
      | exact laws_merged.mono _ _ _ _
      | exact LeO.none _
      | refine LeO.ite ?_ ?_
      | refine LeO.bind ?_ (fun _ => ?_)
def laws_FnMergeIdle.T9 : Bool × List (List Nat × List Nat) := (true, [([], []), ([], []), ([], []), ([1, 2], [1, 2]), ([0, 3], [0, 3]), ([], []), ([5], [5]), ([4, 6, 4], [4, 6]), ([], []), ([], []), ([8, 9], [8, 9]), ([7, 10, 7], [7, 10]), ([11, 11, 0, 1, 2, 3, 4, 5, 6, 7, 8, 9, 10, 11], [11])])
def laws_FnMergeIdle.B9 : List Nat := [0, 0, 0, 6, 15, 0, 32, 127, 0, 0, 768, 2047, 4095]
theorem laws_FnMergeIdle.tab9 : rtab .any (opsOf Try.f11 9) = laws_FnMergeIdle.T9 := by kernel_rfl
theorem laws_FnMergeIdle.bits9 : waitsOk laws_FnMergeIdle.T9.2 laws_FnMergeIdle.B9 = true := by kernel_rfl
def laws_FnMergeIdle.T10 : Bool × List (List Nat × List Nat) := (true, [([], []), ([], []), ([], []), ([1, 2], [1, 2]), ([0, 3], [0, 3]), ([], []), ([5], [5]), ([4, 6, 4], [4, 6]), ([], []), ([], []), ([8, 9], [8, 9]), ([7, 10, 7], [7, 10]), ([11, 11, 0, 1, 2, 3, 4, 5, 6, 7, 8, 9, 10, 11], [11])])
def laws_FnMergeIdle.B10 : List Nat := [0, 0, 0, 6, 15, 0, 32, 127, 0, 0, 768, 2047, 4095]
theorem laws_FnMergeIdle.tab10 : rtab .any (opsOf Try.f11 10) = laws_FnMergeIdle.T10 := by kernel_rfl
theorem laws_FnMergeIdle.bits10 : waitsOk laws_FnMergeIdle.T10.2 laws_FnMergeIdle.B10 = true := by kernel_rfl
set_option maxHeartbeats 8000000 in
set_option maxRecDepth 100000 in
theorem laws_FnMergeIdle.calls (k : Nat) (a0 : Int) (a1 : Int) (a2 : Bool) (A3 : Option Addr) (c3 : Nat) (l3 : List Int) (A4 : Option Addr) (c4 : Nat) (l4 : List Bool) (r : Bool) (w : World) (hr3 : Kd.C (Kd.int .i64) w A3 l3.length l3) (hc3 : l3.length ≤ c3) (hr4 : Kd.C Kd.bool w A4 l4.length l4) (hc4 : l4.length ≤ c4) (h : laws_FnMergeIdle.f k a0 a1 a2 l3 l4 = some r) :
    Calls Try.prog 11 #[.int .i64 a0, .int .i64 a1, .bool a2, .slice A3 l3.length c3, .slice A4 l4.length c4] w fun e w' => e = .returned (.bool r) ∧ Below w.heap.size w w' := by
  have HR3 := Aside0.mk hr3
  have HC3 := Aside0.mk hc3
  clear hr3 hc3
  have HR4 := Aside0.mk hr4
  have HC4 := Aside0.mk hc4
  clear hr4 hc4
  have HB := Aside0.mk (Below.refl w.heap.size w)
  have H : (if (l3.length : Int) > 2147483647 then (laws_FnMergeIdle.j0 k a0 a1 a2 l3 l4 true) else (laws_FnMergeIdle.j0 k a0 a1 a2 l3 l4 (decide ((l4.length : Int) > 2147483647)))) = some r := h
  clear h
  have HC6 := Aside0.mk H
  clear H
  go_enter Try.func11, Try.ntmps11
  go_upto_region 1 with (fail)
  go_cut [28] (fun v28 wc => ∃ (kq : Nat) (x28_5 : Bool), v28 = .bool x28_5 ∧ Aside0 (laws_FnMergeIdle.j0 kq a0 a1 a2 l3 l4 x28_5 = some r) ∧ Aside0 (kq ≤ k) ∧ Aside0 (Below w.heap.size w wc))
  case first =>
    have H := HC6.out
    clear HC6
    by_cases c7 : (l3.length : Int) > 2147483647
    · rw [if_pos c7] at H
      have c7b0 : decide (2147483647 < (l3.length : Int)) = true := decide_eq_true c7
      have c7b1 : decide (2147483647 < l3.length) = true := decide_eq_true (by omega)
      clear c7
      (first | rw [c7b0] | (simp only [i64_w, i32_w]; rw [c7b0]) | skip)
      have H' := Aside0.mk H
      clear H
      go_wp2
      go_meet
      case rel => exact ⟨_, (true), (by first | rfl | (simp; done) | (simp [*]; done)), H', ⟨by first | omega | exact Nat.le_refl _⟩, ⟨by repeat (first | (with_reducible first | exact HB.out | apply below_alloc | apply pw_below_drewN | apply below_drew1) | exact HB.out)⟩⟩
    · rw [if_neg c7] at H
      have c7b0 : decide (2147483647 < (l3.length : Int)) = false := decide_eq_false c7
      have c7b1 : decide (2147483647 < l3.length) = false := decide_eq_false (by omega)
      clear c7
      (first | rw [c7b0] | (simp only [i64_w, i32_w]; rw [c7b0]) | skip)
      have H' := Aside0.mk H
      clear H
      go_wp2
      go_meet
      case rel => exact ⟨_, (decide ((l4.length : Int) > 2147483647)), (by first | rfl | (simp; done) | (simp [*]; done)), H', ⟨by first | omega | exact Nat.le_refl _⟩, ⟨by repeat (first | (with_reducible first | exact HB.out | apply below_alloc | apply pw_below_drewN | apply below_drew1) | exact HB.out)⟩⟩
  case rest =>
    clear HC6
    try clear c1
    try clear p2
    try clear c3
    try clear c4
    try clear c7
    try clear c7b0
    try clear c7b1
    obtain ⟨kq, x28_5, rfl, HA, HJ5, HB⟩ := hcut
    cases kq with
    | zero => exact absurd HA.out (by simp [laws_FnMergeIdle.j0])
    | succ kj5 =>
      have H := HA.out
      clear HA
      simp only [laws_FnMergeIdle.j0] at H
      by_cases c8 : x28_5 = true
      · subst c8
        have H1 : (some true) = some r := by rw [if_pos rfl] at H; exact H
        clear H
        have H := H1
        clear H1
        obtain rfl := Option.some.inj H
        go_wp2
        go_ret
        exact ⟨by first | rfl | (simp [errW_none, errW_some] <;> rfl) | (simp [*, errW_none, errW_some] <;> rfl), by repeat (first | (with_reducible first | exact HB.out | apply below_alloc | apply pw_below_drewN | apply below_drew1) | exact HB.out)⟩
      · replace c8 := Bool.eq_false_iff.mpr c8
        subst c8
        have H1 : ((laws_effects.f kj5 l3 l4).bind fun t157 => (if t157 = true then (laws_FnMergeIdle.j1 kj5 a0 a1 a2 l3 l4 (decide ((l3.length : Int) > 19))) else (laws_FnMergeIdle.j1 kj5 a0 a1 a2 l3 l4 true))) = some r := by rw [if_neg (show ¬ (false = true) by decide)] at H; exact H
        clear H
        have H := H1
        clear H1
        have HC9 := Aside0.mk H
        clear H
        go_upto_region 3 with (fail)
        go_cut [37] (fun v37 wc => ∃ (kq : Nat) (x37_8 : Bool), v37 = .bool x37_8 ∧ Aside0 (laws_FnMergeIdle.j1 kq a0 a1 a2 l3 l4 x37_8 = some r) ∧ Aside0 (kq ≤ kj5) ∧ Aside0 (Below w.heap.size w wc))
        case first =>
          have H := HC9.out
          clear HC9
          replace H := Option.bind_eq_some_iff.mp H
          obtain ⟨t157, A100, H⟩ := H
          replace H : (if t157 = true then (laws_FnMergeIdle.j1 kj5 a0 a1 a2 l3 l4 (decide ((l3.length : Int) > 19))) else (laws_FnMergeIdle.j1 kj5 a0 a1 a2 l3 l4 true)) = some r := H
          have A10 := Aside0.mk A100
          clear A100
          by_cases c11 : t157 = true
          · subst c11
            have H1 : (laws_FnMergeIdle.j1 kj5 a0 a1 a2 l3 l4 (decide ((l3.length : Int) > 19))) = some r := by rw [if_pos rfl] at H; exact H
            clear H
            have H := H1
            clear H1
            have H' := Aside0.mk H
            clear H
            go_wp2_with (first | ((with_reducible refine gate_callee (f := 28) rfl ?_); refine goesL_ (some 31) rfl rfl Try.func28 (by kernel_rfl) rfl #[.slice A3 l3.length c3, .slice A4 l4.length c4] rfl (by (try simp only [List.map_toArray, List.map_cons, List.map_nil]); first | done | rfl | (simp only [List.length_drop, List.length_take]; rfl)) ?_; (with_reducible refine (laws_effects.calls kj5 _ _ l3 _ _ l4 true _ ?side1 ?side2 ?side3 ?side4 A10.out).mono ?_); (case side1 => repeat (first | exact (Kd.C_below HR3.out HB.out) | (with_reducible refine Kd.C_alloc ?_ _) | (with_reducible refine Kd.C_drewN ?_ _) | (with_reducible refine Kd.C_drew ?_))); (case side2 => exact HC3.out); (case side3 => repeat (first | exact (Kd.C_below HR4.out HB.out) | (with_reducible refine Kd.C_alloc ?_ _) | (with_reducible refine Kd.C_drewN ?_ _) | (with_reducible refine Kd.C_drew ?_))); (case side4 => exact HC4.out); rintro e w' ⟨rfl, ⟨nd, rfl⟩⟩; refine ⟨_, rfl, ?_⟩))
            go_meet
            case rel => exact ⟨_, (decide ((l3.length : Int) > 19)), (by first | rfl | (simp; done) | (simp [*]; done)), H', ⟨by have := HJ5.out; first | omega | exact Nat.le_refl _⟩, ⟨by repeat (first | (with_reducible first | exact HB.out | apply below_alloc | apply pw_below_drewN | apply below_drew1) | exact HB.out)⟩⟩
          · replace c11 := Bool.eq_false_iff.mpr c11
            subst c11
            have H1 : (laws_FnMergeIdle.j1 kj5 a0 a1 a2 l3 l4 true) = some r := by rw [if_neg (show ¬ (false = true) by decide)] at H; exact H
            clear H
            have H := H1
            clear H1
            have H' := Aside0.mk H
            clear H
            go_wp2_with (first | ((with_reducible refine gate_callee (f := 28) rfl ?_); refine goesL_ (some 31) rfl rfl Try.func28 (by kernel_rfl) rfl #[.slice A3 l3.length c3, .slice A4 l4.length c4] rfl (by (try simp only [List.map_toArray, List.map_cons, List.map_nil]); first | done | rfl | (simp only [List.length_drop, List.length_take]; rfl)) ?_; (with_reducible refine (laws_effects.calls kj5 _ _ l3 _ _ l4 false _ ?side1 ?side2 ?side3 ?side4 A10.out).mono ?_); (case side1 => repeat (first | exact (Kd.C_below HR3.out HB.out) | (with_reducible refine Kd.C_alloc ?_ _) | (with_reducible refine Kd.C_drewN ?_ _) | (with_reducible refine Kd.C_drew ?_))); (case side2 => exact HC3.out); (case side3 => repeat (first | exact (Kd.C_below HR4.out HB.out) | (with_reducible refine Kd.C_alloc ?_ _) | (with_reducible refine Kd.C_drewN ?_ _) | (with_reducible refine Kd.C_drew ?_))); (case side4 => exact HC4.out); rintro e w' ⟨rfl, ⟨nd, rfl⟩⟩; refine ⟨_, rfl, ?_⟩))
            go_meet
            case rel => exact ⟨_, (true), (by first | rfl | (simp; done) | (simp [*]; done)), H', ⟨by have := HJ5.out; first | omega | exact Nat.le_refl _⟩, ⟨by repeat (first | (with_reducible first | exact HB.out | apply below_alloc | apply pw_below_drewN | apply below_drew1) | exact HB.out)⟩⟩
        case rest =>
          clear HC9
          try clear c1
          try clear c2
          try clear p2
          try clear c3
          try clear c4
          try clear c7
          try clear c7b0
          try clear c7b1
          try clear c8
          try clear c11
          try clear p2
          obtain ⟨kq, x37_8, rfl, HA, HJ8, HB⟩ := hcut
          cases kq with
          | zero => exact absurd HA.out (by simp [laws_FnMergeIdle.j1])
          | succ kj8 =>
            have H := HA.out
            clear HA
            simp only [laws_FnMergeIdle.j1] at H
            by_cases c12 : x37_8 = true
            · subst c12
              have H1 : ((laws_awakeMerge.f kj8).bind fun t158 => (some t158)) = some r := by rw [if_pos rfl] at H; exact H
              clear H
              have H := H1
              clear H1
              replace H := Option.bind_eq_some_iff.mp H
              obtain ⟨t158, A130, H⟩ := H
              replace H : (some t158) = some r := H
              have A13 := Aside0.mk A130
              clear A130
              obtain rfl := Option.some.inj H
              go_wp2_with (first | ((with_reducible refine gate_callee (f := 29) rfl ?_); refine goesL_ (some 38) rfl rfl Try.func29 (by kernel_rfl) rfl #[] rfl (by (try simp only [List.map_toArray, List.map_cons, List.map_nil]); first | done | rfl | (simp only [List.length_drop, List.length_take]; rfl)) ?_; (with_reducible refine (laws_awakeMerge.calls kj8  t158 _ A13.out).mono ?_); rintro e w14 ⟨rfl, hb⟩; refine ⟨_, rfl, ?_⟩; have n0_ := Aside0.mk (below_step (by repeat (first | (with_reducible first | exact HB.out | apply below_alloc | apply pw_below_drewN | apply below_drew1) | exact HB.out)) hb); clear HB; have HB := n0_; clear n0_; (try clear hb); (try clear hb2); (try clear hk); (try clear hi)))
              go_ret
              exact ⟨by first | rfl | (simp [errW_none, errW_some] <;> rfl) | (simp [*, errW_none, errW_some] <;> rfl), by repeat (first | (with_reducible first | exact HB.out | apply below_alloc | apply pw_below_drewN | apply below_drew1) | exact HB.out)⟩
            · replace c12 := Bool.eq_false_iff.mpr c12
              subst c12
              have H1 : (if (IntKind.u64.wrap (wrap64 ((l3.length : Int) + 1))) = 0 then (none) else (if a2 = true then (laws_FnMergeIdle.j2 kj8 a0 a2 l3 l4 (wrap64 (Int.tmod (IntKind.u64.wrap (a1)) (IntKind.u64.wrap (wrap64 ((l3.length : Int) + 1))))) 1) else (laws_FnMergeIdle.j2 kj8 a0 a2 l3 l4 (wrap64 (Int.tmod (IntKind.u64.wrap (a1)) (IntKind.u64.wrap (wrap64 ((l3.length : Int) + 1))))) (wrap64 (Int.tmod (IntKind.u64.wrap (wrap64 (Int.tdiv a1 7))) 3))))) = some r := by rw [if_neg (show ¬ (false = true) by decide)] at H; exact H
              clear H
              have H := H1
              clear H1
              by_cases c15 : (IntKind.u64.wrap (wrap64 ((l3.length : Int) + 1))) = 0
              · rw [if_pos c15] at H
                exact absurd H (by simp)
              · rw [if_neg c15] at H
                have c15b0 : ((IntKind.u64.wrap (wrap64 ((l3.length : Int) + 1))) == 0) = false := beq_eq_false_iff_ne.mpr c15
                have c15b1 : ((IntKind.u64.wrap (wrap64 ((l3.length : Int) + 1))) != 0) = true := bne_iff_ne.mpr c15
                have HC16 := Aside0.mk H
                clear H
                go_upto_if 48 with (fail)
                go_cut [12] (fun v12 wc => ∃ (kq : Nat) (x12_15 : Int), v12 = .int .i64 x12_15 ∧ Aside0 (laws_FnMergeIdle.j2 kq a0 a2 l3 l4 (wrap64 (Int.tmod (IntKind.u64.wrap (a1)) (IntKind.u64.wrap (wrap64 ((l3.length : Int) + 1))))) x12_15 = some r) ∧ Aside0 (kq ≤ kj8) ∧ Aside0 (Below w.heap.size w wc))
                case first =>
                  have H := HC16.out
                  clear HC16
                  by_cases c17 : a2 = true
                  · subst c17
                    have H1 : (laws_FnMergeIdle.j2 kj8 a0 true l3 l4 (wrap64 (Int.tmod (IntKind.u64.wrap (a1)) (IntKind.u64.wrap (wrap64 ((l3.length : Int) + 1))))) 1) = some r := by rw [if_pos rfl] at H; exact H
                    clear H
                    have H := H1
                    clear H1
                    have H' := Aside0.mk H
                    clear H
                    go_wp2
                    go_meet
                    case rel => exact ⟨_, (1), (by first | rfl | (simp; done) | (simp [*]; done)), H', ⟨by have := HJ5.out; have := HJ8.out; first | omega | exact Nat.le_refl _⟩, ⟨by repeat (first | (with_reducible first | exact HB.out | apply below_alloc | apply pw_below_drewN | apply below_drew1) | exact HB.out)⟩⟩
                  · replace c17 := Bool.eq_false_iff.mpr c17
                    subst c17
                    have H1 : (laws_FnMergeIdle.j2 kj8 a0 false l3 l4 (wrap64 (Int.tmod (IntKind.u64.wrap (a1)) (IntKind.u64.wrap (wrap64 ((l3.length : Int) + 1))))) (wrap64 (Int.tmod (IntKind.u64.wrap (wrap64 (Int.tdiv a1 7))) 3))) = some r := by rw [if_neg (show ¬ (false = true) by decide)] at H; exact H
                    clear H
                    have H := H1
                    clear H1
                    have H' := Aside0.mk H
                    clear H
                    go_wp2
                    go_meet
                    case rel => exact ⟨_, (wrap64 (Int.tmod (IntKind.u64.wrap (wrap64 (Int.tdiv a1 7))) 3)), (by first | rfl | (simp; done) | (simp [*]; done)), H', ⟨by have := HJ5.out; have := HJ8.out; first | omega | exact Nat.le_refl _⟩, ⟨by repeat (first | (with_reducible first | exact HB.out | apply below_alloc | apply pw_below_drewN | apply below_drew1) | exact HB.out)⟩⟩
                case rest =>
                  clear HC16
                  try clear c1
                  try clear c2
                  try clear p2
                  try clear c3
                  try clear c4
                  try clear p6
                  try clear c7
                  try clear c7b0
                  try clear c7b1
                  try clear c8
                  try clear c11
                  try clear c12
                  try clear c15
                  try clear c15b0
                  try clear c15b1
                  try clear c17
                  try clear p2
                  obtain ⟨kq, x12_15, rfl, HA, HJ15, HB⟩ := hcut
                  cases kq with
                  | zero => exact absurd HA.out (by simp [laws_FnMergeIdle.j2])
                  | succ kj15 =>
                    have H := HA.out
                    clear HA
                    simp only [laws_FnMergeIdle.j2] at H
                    obtain ⟨y159, hy159⟩ : ∃ y_ : List Int, y_ = (([] : List Int)) := ⟨_, rfl⟩
                    replace H : (if 0 ≤ (wrap64 (Int.tmod (IntKind.u64.wrap (a1)) (IntKind.u64.wrap (wrap64 ((l3.length : Int) + 1))))) then (if (wrap64 (Int.tmod (IntKind.u64.wrap (a1)) (IntKind.u64.wrap (wrap64 ((l3.length : Int) + 1))))) ≤ (l3.length : Int) then (if y159.length + (l3.take ((wrap64 (Int.tmod (IntKind.u64.wrap (a1)) (IntKind.u64.wrap (wrap64 ((l3.length : Int) + 1))))) : Int).toNat).length < 17592186044416 then ((some (y159 ++ (l3.take ((wrap64 (Int.tmod (IntKind.u64.wrap (a1)) (IntKind.u64.wrap (wrap64 ((l3.length : Int) + 1))))) : Int).toNat) : List Int)).bind fun y163 => ((some (([x12_15] : List Int) : List Int)).bind fun y166 => (if y163.length + y166.length < 17592186044416 then ((some (y163 ++ y166 : List Int)).bind fun y169 => (if y169.length + (l3.drop ((wrap64 (Int.tmod (IntKind.u64.wrap (a1)) (IntKind.u64.wrap (wrap64 ((l3.length : Int) + 1))))) : Int).toNat).length < 17592186044416 then ((some (([] : List Bool) : List Bool)).bind fun y176 => (if (wrap64 (Int.tmod (IntKind.u64.wrap (a1)) (IntKind.u64.wrap (wrap64 ((l3.length : Int) + 1))))) ≤ (l4.length : Int) then (if y176.length + (l4.take ((wrap64 (Int.tmod (IntKind.u64.wrap (a1)) (IntKind.u64.wrap (wrap64 ((l3.length : Int) + 1))))) : Int).toNat).length < 140737488355328 then ((some (y176 ++ (l4.take ((wrap64 (Int.tmod (IntKind.u64.wrap (a1)) (IntKind.u64.wrap (wrap64 ((l3.length : Int) + 1))))) : Int).toNat) : List Bool)).bind fun y180 => ((some (([a2] : List Bool) : List Bool)).bind fun y183 => (if y180.length + y183.length < 140737488355328 then ((some (y180 ++ y183 : List Bool)).bind fun y186 => (if y186.length + (l4.drop ((wrap64 (Int.tmod (IntKind.u64.wrap (a1)) (IntKind.u64.wrap (wrap64 ((l3.length : Int) + 1))))) : Int).toNat).length < 140737488355328 then ((laws_expression.f a0).bind fun t193 => ((laws_merged.f kj15 t193 l3 l4).bind fun bt194 => ((laws_expression.f a0).bind fun t197 => ((laws_merged.f kj15 t197 (y169 ++ (l3.drop ((wrap64 (Int.tmod (IntKind.u64.wrap (a1)) (IntKind.u64.wrap (wrap64 ((l3.length : Int) + 1))))) : Int).toNat)) (y186 ++ (l4.drop ((wrap64 (Int.tmod (IntKind.u64.wrap (a1)) (IntKind.u64.wrap (wrap64 ((l3.length : Int) + 1))))) : Int).toNat))).bind fun bt198 => (if bt194.2.2 = true then (if bt198.2.2 = true then (if ((bt194.1 == 0) == (bt198.1 == 0)) = true then ((laws_awakeMerge.f kj15).bind fun t201 => (some t201)) else (some false)) else (some false)) else (some false)))))) else (none))) else (none)))) else (none)) else (none))) else (none))) else (none)))) else (none)) else (none)) else (none)) = some r := by first | (rw [hy159]; with_reducible exact H) | (have H2_ := (Option.bind_some _ _).symm.trans H; rw [hy159]; with_reducible exact H2_) | (have H2_ := (Option.bind_some _ _).symm.trans H; with_reducible exact H2_) | with_reducible exact H | (rw [hy159]; exact H) | exact H
                    have Ny159 := Aside0.mk hy159
                    clear hy159
                    obtain ⟨ji18, hji18⟩ : ∃ j_ : Int, (wrap64 (Int.tmod (IntKind.u64.wrap (a1)) (IntKind.u64.wrap (wrap64 ((l3.length : Int) + 1))))) = j_ := ⟨_, rfl⟩
                    replace H : (if 0 ≤ (ji18) then (if (ji18) ≤ (l3.length : Int) then (if y159.length + (l3.take ((ji18) : Int).toNat).length < 17592186044416 then ((some (y159 ++ (l3.take ((ji18) : Int).toNat) : List Int)).bind fun y163 => ((some (([x12_15] : List Int) : List Int)).bind fun y166 => (if y163.length + y166.length < 17592186044416 then ((some (y163 ++ y166 : List Int)).bind fun y169 => (if y169.length + (l3.drop ((ji18) : Int).toNat).length < 17592186044416 then ((some (([] : List Bool) : List Bool)).bind fun y176 => (if (ji18) ≤ (l4.length : Int) then (if y176.length + (l4.take ((ji18) : Int).toNat).length < 140737488355328 then ((some (y176 ++ (l4.take ((ji18) : Int).toNat) : List Bool)).bind fun y180 => ((some (([a2] : List Bool) : List Bool)).bind fun y183 => (if y180.length + y183.length < 140737488355328 then ((some (y180 ++ y183 : List Bool)).bind fun y186 => (if y186.length + (l4.drop ((ji18) : Int).toNat).length < 140737488355328 then ((laws_expression.f a0).bind fun t193 => ((laws_merged.f kj15 t193 l3 l4).bind fun bt194 => ((laws_expression.f a0).bind fun t197 => ((laws_merged.f kj15 t197 (y169 ++ (l3.drop ((ji18) : Int).toNat)) (y186 ++ (l4.drop ((ji18) : Int).toNat))).bind fun bt198 => (if bt194.2.2 = true then (if bt198.2.2 = true then (if ((bt194.1 == 0) == (bt198.1 == 0)) = true then ((laws_awakeMerge.f kj15).bind fun t201 => (some t201)) else (some false)) else (some false)) else (some false)))))) else (none))) else (none)))) else (none)) else (none))) else (none))) else (none)))) else (none)) else (none)) else (none)) = some r := by first | (rw [hji18] at H; exact H) | (simp only [hji18] at H ⊢; exact H)
                    have hji18w : (IntKind.i64.wrap (Int.tmod (IntKind.u64.wrap (a1)) (IntKind.u64.wrap (wrap64 ((l3.length : Int) + 1))))) = ji18 := (i64_w _).trans hji18
                    by_cases c19 : 0 ≤ (ji18)
                    · rw [if_pos c19] at H
                      have c19b0 := eq_true c19
                      have c19b1 : decide (0 ≤ (ji18)) = true := decide_eq_true c19
                      clear c19
                      by_cases c20 : (ji18) ≤ (l3.length : Int)
                      · rw [if_pos c20] at H
                        have c20b0 := eq_true c20
                        have c20b1 : decide ((ji18) ≤ (l3.length : Int)) = true := decide_eq_true c20
                        clear c20
                        by_cases c21 : y159.length + (l3.take ((ji18) : Int).toNat).length < 17592186044416
                        · rw [if_pos c21] at H
                          have LMc21 := Aside0.mk c21
                          clear c21
                          obtain ⟨y163, hy163⟩ : ∃ y_ : List Int, y_ = (y159 ++ (l3.take ((ji18) : Int).toNat)) := ⟨_, rfl⟩
                          replace H : ((some (([x12_15] : List Int) : List Int)).bind fun y166 => (if y163.length + y166.length < 17592186044416 then ((some (y163 ++ y166 : List Int)).bind fun y169 => (if y169.length + (l3.drop ((ji18) : Int).toNat).length < 17592186044416 then ((some (([] : List Bool) : List Bool)).bind fun y176 => (if (ji18) ≤ (l4.length : Int) then (if y176.length + (l4.take ((ji18) : Int).toNat).length < 140737488355328 then ((some (y176 ++ (l4.take ((ji18) : Int).toNat) : List Bool)).bind fun y180 => ((some (([a2] : List Bool) : List Bool)).bind fun y183 => (if y180.length + y183.length < 140737488355328 then ((some (y180 ++ y183 : List Bool)).bind fun y186 => (if y186.length + (l4.drop ((ji18) : Int).toNat).length < 140737488355328 then ((laws_expression.f a0).bind fun t193 => ((laws_merged.f kj15 t193 l3 l4).bind fun bt194 => ((laws_expression.f a0).bind fun t197 => ((laws_merged.f kj15 t197 (y169 ++ (l3.drop ((ji18) : Int).toNat)) (y186 ++ (l4.drop ((ji18) : Int).toNat))).bind fun bt198 => (if bt194.2.2 = true then (if bt198.2.2 = true then (if ((bt194.1 == 0) == (bt198.1 == 0)) = true then ((laws_awakeMerge.f kj15).bind fun t201 => (some t201)) else (some false)) else (some false)) else (some false)))))) else (none))) else (none)))) else (none)) else (none))) else (none))) else (none))) = some r := by first | (rw [hy163]; with_reducible exact H) | (have H2_ := (Option.bind_some _ _).symm.trans H; rw [hy163]; with_reducible exact H2_) | (have H2_ := (Option.bind_some _ _).symm.trans H; with_reducible exact H2_) | with_reducible exact H | (rw [hy163]; exact H) | exact H
                          have Ny163 := Aside0.mk hy163
                          clear hy163
                          obtain ⟨y166, hy166⟩ : ∃ y_ : List Int, y_ = (([x12_15] : List Int)) := ⟨_, rfl⟩
                          replace H : (if y163.length + y166.length < 17592186044416 then ((some (y163 ++ y166 : List Int)).bind fun y169 => (if y169.length + (l3.drop ((ji18) : Int).toNat).length < 17592186044416 then ((some (([] : List Bool) : List Bool)).bind fun y176 => (if (ji18) ≤ (l4.length : Int) then (if y176.length + (l4.take ((ji18) : Int).toNat).length < 140737488355328 then ((some (y176 ++ (l4.take ((ji18) : Int).toNat) : List Bool)).bind fun y180 => ((some (([a2] : List Bool) : List Bool)).bind fun y183 => (if y180.length + y183.length < 140737488355328 then ((some (y180 ++ y183 : List Bool)).bind fun y186 => (if y186.length + (l4.drop ((ji18) : Int).toNat).length < 140737488355328 then ((laws_expression.f a0).bind fun t193 => ((laws_merged.f kj15 t193 l3 l4).bind fun bt194 => ((laws_expression.f a0).bind fun t197 => ((laws_merged.f kj15 t197 (y169 ++ (l3.drop ((ji18) : Int).toNat)) (y186 ++ (l4.drop ((ji18) : Int).toNat))).bind fun bt198 => (if bt194.2.2 = true then (if bt198.2.2 = true then (if ((bt194.1 == 0) == (bt198.1 == 0)) = true then ((laws_awakeMerge.f kj15).bind fun t201 => (some t201)) else (some false)) else (some false)) else (some false)))))) else (none))) else (none)))) else (none)) else (none))) else (none))) else (none)) = some r := by first | (rw [hy166]; with_reducible exact H) | (have H2_ := (Option.bind_some _ _).symm.trans H; rw [hy166]; with_reducible exact H2_) | (have H2_ := (Option.bind_some _ _).symm.trans H; with_reducible exact H2_) | with_reducible exact H | (rw [hy166]; exact H) | exact H
                          have Ny166 := Aside0.mk hy166
                          clear hy166
                          by_cases c22 : y163.length + y166.length < 17592186044416
                          · rw [if_pos c22] at H
                            have LMc22 := Aside0.mk c22
                            clear c22
                            obtain ⟨y169, hy169⟩ : ∃ y_ : List Int, y_ = (y163 ++ y166) := ⟨_, rfl⟩
                            replace H : (if y169.length + (l3.drop ((ji18) : Int).toNat).length < 17592186044416 then ((some (([] : List Bool) : List Bool)).bind fun y176 => (if (ji18) ≤ (l4.length : Int) then (if y176.length + (l4.take ((ji18) : Int).toNat).length < 140737488355328 then ((some (y176 ++ (l4.take ((ji18) : Int).toNat) : List Bool)).bind fun y180 => ((some (([a2] : List Bool) : List Bool)).bind fun y183 => (if y180.length + y183.length < 140737488355328 then ((some (y180 ++ y183 : List Bool)).bind fun y186 => (if y186.length + (l4.drop ((ji18) : Int).toNat).length < 140737488355328 then ((laws_expression.f a0).bind fun t193 => ((laws_merged.f kj15 t193 l3 l4).bind fun bt194 => ((laws_expression.f a0).bind fun t197 => ((laws_merged.f kj15 t197 (y169 ++ (l3.drop ((ji18) : Int).toNat)) (y186 ++ (l4.drop ((ji18) : Int).toNat))).bind fun bt198 => (if bt194.2.2 = true then (if bt198.2.2 = true then (if ((bt194.1 == 0) == (bt198.1 == 0)) = true then ((laws_awakeMerge.f kj15).bind fun t201 => (some t201)) else (some false)) else (some false)) else (some false)))))) else (none))) else (none)))) else (none)) else (none))) else (none)) = some r := by first | (rw [hy169]; with_reducible exact H) | (have H2_ := (Option.bind_some _ _).symm.trans H; rw [hy169]; with_reducible exact H2_) | (have H2_ := (Option.bind_some _ _).symm.trans H; with_reducible exact H2_) | with_reducible exact H | (rw [hy169]; exact H) | exact H
                            have Ny169 := Aside0.mk hy169
                            clear hy169
                            have c23b0 := eq_true (of_decide_eq_true (by first | (with_reducible assumption) | assumption) : 0 ≤ (ji18))
                            have c24b0 := eq_true (of_decide_eq_true (by first | (with_reducible assumption) | assumption) : (ji18) ≤ (l3.length : Int))
                            by_cases c25 : y169.length + (l3.drop ((ji18) : Int).toNat).length < 17592186044416
                            · rw [if_pos c25] at H
                              have LMc25 := Aside0.mk c25
                              clear c25
                              obtain ⟨y173, hy173⟩ : ∃ y_ : List Int, y_ = (y169 ++ (l3.drop ((ji18) : Int).toNat)) := ⟨_, rfl⟩
                              replace H : ((some (([] : List Bool) : List Bool)).bind fun y176 => (if (ji18) ≤ (l4.length : Int) then (if y176.length + (l4.take ((ji18) : Int).toNat).length < 140737488355328 then ((some (y176 ++ (l4.take ((ji18) : Int).toNat) : List Bool)).bind fun y180 => ((some (([a2] : List Bool) : List Bool)).bind fun y183 => (if y180.length + y183.length < 140737488355328 then ((some (y180 ++ y183 : List Bool)).bind fun y186 => (if y186.length + (l4.drop ((ji18) : Int).toNat).length < 140737488355328 then ((laws_expression.f a0).bind fun t193 => ((laws_merged.f kj15 t193 l3 l4).bind fun bt194 => ((laws_expression.f a0).bind fun t197 => ((laws_merged.f kj15 t197 y173 (y186 ++ (l4.drop ((ji18) : Int).toNat))).bind fun bt198 => (if bt194.2.2 = true then (if bt198.2.2 = true then (if ((bt194.1 == 0) == (bt198.1 == 0)) = true then ((laws_awakeMerge.f kj15).bind fun t201 => (some t201)) else (some false)) else (some false)) else (some false)))))) else (none))) else (none)))) else (none)) else (none))) = some r := by first | (rw [hy173]; with_reducible exact H) | (have H2_ := (Option.bind_some _ _).symm.trans H; rw [hy173]; with_reducible exact H2_) | (have H2_ := (Option.bind_some _ _).symm.trans H; with_reducible exact H2_) | with_reducible exact H | (rw [hy173]; exact H) | exact H
                              have Ny173 := Aside0.mk hy173
                              clear hy173
                              obtain ⟨y176, hy176⟩ : ∃ y_ : List Bool, y_ = (([] : List Bool)) := ⟨_, rfl⟩
                              replace H : (if (ji18) ≤ (l4.length : Int) then (if y176.length + (l4.take ((ji18) : Int).toNat).length < 140737488355328 then ((some (y176 ++ (l4.take ((ji18) : Int).toNat) : List Bool)).bind fun y180 => ((some (([a2] : List Bool) : List Bool)).bind fun y183 => (if y180.length + y183.length < 140737488355328 then ((some (y180 ++ y183 : List Bool)).bind fun y186 => (if y186.length + (l4.drop ((ji18) : Int).toNat).length < 140737488355328 then ((laws_expression.f a0).bind fun t193 => ((laws_merged.f kj15 t193 l3 l4).bind fun bt194 => ((laws_expression.f a0).bind fun t197 => ((laws_merged.f kj15 t197 y173 (y186 ++ (l4.drop ((ji18) : Int).toNat))).bind fun bt198 => (if bt194.2.2 = true then (if bt198.2.2 = true then (if ((bt194.1 == 0) == (bt198.1 == 0)) = true then ((laws_awakeMerge.f kj15).bind fun t201 => (some t201)) else (some false)) else (some false)) else (some false)))))) else (none))) else (none)))) else (none)) else (none)) = some r := by first | (rw [hy176]; with_reducible exact H) | (have H2_ := (Option.bind_some _ _).symm.trans H; rw [hy176]; with_reducible exact H2_) | (have H2_ := (Option.bind_some _ _).symm.trans H; with_reducible exact H2_) | with_reducible exact H | (rw [hy176]; exact H) | exact H
                              have Ny176 := Aside0.mk hy176
                              clear hy176
                              have c26b0 := eq_true (of_decide_eq_true (by first | (with_reducible assumption) | assumption) : 0 ≤ (ji18))
                              by_cases c27 : (ji18) ≤ (l4.length : Int)
                              · rw [if_pos c27] at H
                                have c27b0 := eq_true c27
                                have c27b1 : decide ((ji18) ≤ (l4.length : Int)) = true := decide_eq_true c27
                                clear c27
                                by_cases c28 : y176.length + (l4.take ((ji18) : Int).toNat).length < 140737488355328
                                · rw [if_pos c28] at H
                                  have LMc28 := Aside0.mk c28
                                  clear c28
                                  obtain ⟨y180, hy180⟩ : ∃ y_ : List Bool, y_ = (y176 ++ (l4.take ((ji18) : Int).toNat)) := ⟨_, rfl⟩
                                  replace H : ((some (([a2] : List Bool) : List Bool)).bind fun y183 => (if y180.length + y183.length < 140737488355328 then ((some (y180 ++ y183 : List Bool)).bind fun y186 => (if y186.length + (l4.drop ((ji18) : Int).toNat).length < 140737488355328 then ((laws_expression.f a0).bind fun t193 => ((laws_merged.f kj15 t193 l3 l4).bind fun bt194 => ((laws_expression.f a0).bind fun t197 => ((laws_merged.f kj15 t197 y173 (y186 ++ (l4.drop ((ji18) : Int).toNat))).bind fun bt198 => (if bt194.2.2 = true then (if bt198.2.2 = true then (if ((bt194.1 == 0) == (bt198.1 == 0)) = true then ((laws_awakeMerge.f kj15).bind fun t201 => (some t201)) else (some false)) else (some false)) else (some false)))))) else (none))) else (none))) = some r := by first | (rw [hy180]; with_reducible exact H) | (have H2_ := (Option.bind_some _ _).symm.trans H; rw [hy180]; with_reducible exact H2_) | (have H2_ := (Option.bind_some _ _).symm.trans H; with_reducible exact H2_) | with_reducible exact H | (rw [hy180]; exact H) | exact H
                                  have Ny180 := Aside0.mk hy180
                                  clear hy180
                                  obtain ⟨y183, hy183⟩ : ∃ y_ : List Bool, y_ = (([a2] : List Bool)) := ⟨_, rfl⟩
                                  replace H : (if y180.length + y183.length < 140737488355328 then ((some (y180 ++ y183 : List Bool)).bind fun y186 => (if y186.length + (l4.drop ((ji18) : Int).toNat).length < 140737488355328 then ((laws_expression.f a0).bind fun t193 => ((laws_merged.f kj15 t193 l3 l4).bind fun bt194 => ((laws_expression.f a0).bind fun t197 => ((laws_merged.f kj15 t197 y173 (y186 ++ (l4.drop ((ji18) : Int).toNat))).bind fun bt198 => (if bt194.2.2 = true then (if bt198.2.2 = true then (if ((bt194.1 == 0) == (bt198.1 == 0)) = true then ((laws_awakeMerge.f kj15).bind fun t201 => (some t201)) else (some false)) else (some false)) else (some false)))))) else (none))) else (none)) = some r := by first | (rw [hy183]; with_reducible exact H) | (have H2_ := (Option.bind_some _ _).symm.trans H; rw [hy183]; with_reducible exact H2_) | (have H2_ := (Option.bind_some _ _).symm.trans H; with_reducible exact H2_) | with_reducible exact H | (rw [hy183]; exact H) | exact H
                                  have Ny183 := Aside0.mk hy183
                                  clear hy183
                                  by_cases c29 : y180.length + y183.length < 140737488355328
                                  · rw [if_pos c29] at H
                                    have LMc29 := Aside0.mk c29
                                    clear c29
                                    obtain ⟨y186, hy186⟩ : ∃ y_ : List Bool, y_ = (y180 ++ y183) := ⟨_, rfl⟩
                                    replace H : (if y186.length + (l4.drop ((ji18) : Int).toNat).length < 140737488355328 then ((laws_expression.f a0).bind fun t193 => ((laws_merged.f kj15 t193 l3 l4).bind fun bt194 => ((laws_expression.f a0).bind fun t197 => ((laws_merged.f kj15 t197 y173 (y186 ++ (l4.drop ((ji18) : Int).toNat))).bind fun bt198 => (if bt194.2.2 = true then (if bt198.2.2 = true then (if ((bt194.1 == 0) == (bt198.1 == 0)) = true then ((laws_awakeMerge.f kj15).bind fun t201 => (some t201)) else (some false)) else (some false)) else (some false)))))) else (none)) = some r := by first | (rw [hy186]; with_reducible exact H) | (have H2_ := (Option.bind_some _ _).symm.trans H; rw [hy186]; with_reducible exact H2_) | (have H2_ := (Option.bind_some _ _).symm.trans H; with_reducible exact H2_) | with_reducible exact H | (rw [hy186]; exact H) | exact H
                                    have Ny186 := Aside0.mk hy186
                                    clear hy186
                                    have c30b0 := eq_true (of_decide_eq_true (by first | (with_reducible assumption) | assumption) : 0 ≤ (ji18))
                                    have c31b0 := eq_true (of_decide_eq_true (by first | (with_reducible assumption) | assumption) : (ji18) ≤ (l4.length : Int))
                                    by_cases c32 : y186.length + (l4.drop ((ji18) : Int).toNat).length < 140737488355328
                                    · rw [if_pos c32] at H
                                      have LMc32 := Aside0.mk c32
                                      clear c32
                                      obtain ⟨y190, hy190⟩ : ∃ y_ : List Bool, y_ = (y186 ++ (l4.drop ((ji18) : Int).toNat)) := ⟨_, rfl⟩
                                      replace H : ((laws_expression.f a0).bind fun t193 => ((laws_merged.f kj15 t193 l3 l4).bind fun bt194 => ((laws_expression.f a0).bind fun t197 => ((laws_merged.f kj15 t197 y173 y190).bind fun bt198 => (if bt194.2.2 = true then (if bt198.2.2 = true then (if ((bt194.1 == 0) == (bt198.1 == 0)) = true then ((laws_awakeMerge.f kj15).bind fun t201 => (some t201)) else (some false)) else (some false)) else (some false)))))) = some r := by first | (rw [hy190]; with_reducible exact H) | (have H2_ := (Option.bind_some _ _).symm.trans H; rw [hy190]; with_reducible exact H2_) | (have H2_ := (Option.bind_some _ _).symm.trans H; with_reducible exact H2_) | with_reducible exact H | (rw [hy190]; exact H) | exact H
                                      have Ny190 := Aside0.mk hy190
                                      clear hy190
                                      replace H := Option.bind_eq_some_iff.mp H
                                      obtain ⟨t193, A330, H⟩ := H
                                      replace H : ((laws_merged.f kj15 t193 l3 l4).bind fun bt194 => ((laws_expression.f a0).bind fun t197 => ((laws_merged.f kj15 t197 y173 y190).bind fun bt198 => (if bt194.2.2 = true then (if bt198.2.2 = true then (if ((bt194.1 == 0) == (bt198.1 == 0)) = true then ((laws_awakeMerge.f kj15).bind fun t201 => (some t201)) else (some false)) else (some false)) else (some false))))) = some r := H
                                      have A33 := Aside0.mk A330
                                      clear A330
                                      replace H := Option.bind_eq_some_iff.mp H
                                      obtain ⟨⟨t194, t195, t196⟩, A340, H⟩ := H
                                      replace H : ((laws_expression.f a0).bind fun t197 => ((laws_merged.f kj15 t197 y173 y190).bind fun bt198 => (if t196 = true then (if bt198.2.2 = true then (if ((t194 == 0) == (bt198.1 == 0)) = true then ((laws_awakeMerge.f kj15).bind fun t201 => (some t201)) else (some false)) else (some false)) else (some false)))) = some r := H
                                      have A34 := Aside0.mk A340
                                      clear A340
                                      replace H := Option.bind_eq_some_iff.mp H
                                      obtain ⟨t197, A350, H⟩ := H
                                      replace H : ((laws_merged.f kj15 t197 y173 y190).bind fun bt198 => (if t196 = true then (if bt198.2.2 = true then (if ((t194 == 0) == (bt198.1 == 0)) = true then ((laws_awakeMerge.f kj15).bind fun t201 => (some t201)) else (some false)) else (some false)) else (some false))) = some r := H
                                      have A35 := Aside0.mk A350
                                      clear A350
                                      replace H := Option.bind_eq_some_iff.mp H
                                      obtain ⟨⟨t198, t199, t200⟩, A360, H⟩ := H
                                      replace H : (if t196 = true then (if t200 = true then (if ((t194 == 0) == (t198 == 0)) = true then ((laws_awakeMerge.f kj15).bind fun t201 => (some t201)) else (some false)) else (some false)) else (some false)) = some r := H
                                      have A36 := Aside0.mk A360
                                      clear A360
                                      try go_wp2
                                      have n0_ := Aside0.mk (below_drew1 HB.out)
                                      clear HB
                                      have HB := n0_
                                      clear n0_
                                      obtain ⟨i042, hi042, _, hsz42, _⟩ := info_parts info3
                                      obtain ⟨hcut42, hA42, hC42⟩ := print_take_of (P := Try.prog) (Value.int .i64) 0 39 3 .i64 Try.underlying39 hi042 hsz42 A3 c3 l3 (ji18) (of_decide_eq_true (by first | (with_reducible assumption) | assumption)) (of_decide_eq_true (by first | (with_reducible assumption) | assumption)) HC3.out
                                      have HR162 := Aside0.mk (Kd.C_of_reads (h1 := fun _ => rfl) (hA42 _ (Kd.reads_of_C HR3.out)))
                                      have HC162 := Aside0.mk hC42
                                      clear hA42 hC42 hi042 hsz42
                                      obtain ⟨i043, hi043, _, hsz43, _⟩ := info_parts info3
                                      obtain ⟨A43, hcut43, hA43, hC43⟩ := print_drop_of (P := Try.prog) (Value.int .i64) 0 39 3 .i64 Try.underlying39 hi043 hsz43 A3 c3 l3 (ji18) (of_decide_eq_true (by first | (with_reducible assumption) | assumption)) (of_decide_eq_true (by first | (with_reducible assumption) | assumption)) HC3.out
                                      have HR172 := Aside0.mk (Kd.C_of_reads (h1 := fun _ => rfl) (hA43 _ (Kd.reads_of_C HR3.out)))
                                      have HC172 := Aside0.mk hC43
                                      clear hA43 hC43 hi043 hsz43
                                      refine start_ (n := 13) (S := fun w' => True) (ds := []) #[false, false, false, false, false, false, false, false, false, false, false, false, false] (by kernel_rfl) rfl rfl trivial (fun hHeld => ?_); refine with_tabW laws_FnMergeIdle.tab9 laws_FnMergeIdle.bits9 (fun HT_ HW_ => ?_)
                                      generalize wc.drew = w41 at HB HR162 HR172 hHeld ⊢
                                      refine pure_ (i := 1) (N := some 55) (v := ?_) (a' := ?_) #[false, true, false, false, false, false, false, false, false, false, false, false, false] rfl rfl (any_of HT_.out (by kernel_rfl)) (fun _ _ _ h => h) (Or.inl ⟨by rfl, ?_⟩) ?_ ?_
                                      rotate_left
                                      · intro w'
                                        go_simp
                                        with_reducible rfl
                                      rotate_left
                                      · simp only [Act.put, List.setIfInBounds_toArray, List.set_cons_zero, List.set_cons_succ, i64_w, i32_w]
                                        rfl
                                      refine pure_ (i := 2) (N := some 56) (v := ?_) (a' := ?_) #[false, true, true, false, false, false, false, false, false, false, false, false, false] rfl rfl (any_of HT_.out (by kernel_rfl)) (fun _ _ _ h => h) (Or.inl ⟨by rfl, ?_⟩) ?_ ?_
                                      rotate_left
                                      · intro w'
                                        go_simp
                                        with_reducible rfl
                                      rotate_left
                                      · simp only [Act.put, List.setIfInBounds_toArray, List.set_cons_zero, List.set_cons_succ, i64_w, i32_w]
                                        rfl
                                      refine pure_ (i := 3) (N := some 57) (v := ?_) (a' := ?_) #[false, true, true, true, false, false, false, false, false, false, false, false, false] rfl rfl (any_of HT_.out (by kernel_rfl)) (fun _ _ _ h => h) (Or.inl ⟨by rfl, ?_⟩) ?_ ?_
                                      rotate_left
                                      · intro w'
                                        go_simp
                                        with_reducible rfl
                                      rotate_left
                                      · simp only [Act.put, List.setIfInBounds_toArray, List.set_cons_zero, List.set_cons_succ, i64_w, i32_w]
                                        rfl
                                      refine pure_ (i := 5) (N := some 59) (v := ?_) (a' := ?_) #[false, true, true, true, false, true, false, false, false, false, false, false, false] rfl rfl (any_of HT_.out (by kernel_rfl)) (fun _ _ _ h => h) (Or.inl ⟨by rfl, ?_⟩) ?_ ?_
                                      rotate_left
                                      · intro w'
                                        go_simp
                                        with_reducible rfl
                                      rotate_left
                                      · simp only [Act.put, List.setIfInBounds_toArray, List.set_cons_zero, List.set_cons_succ, i64_w, i32_w]
                                        rfl
                                      refine pure_ (i := 8) (N := some 62) (v := ?_) (a' := ?_) #[false, true, true, true, false, true, false, false, true, false, false, false, false] rfl rfl (any_of HT_.out (by kernel_rfl)) (fun _ _ _ h => h) (Or.inl ⟨by rfl, ?_⟩) ?_ ?_
                                      rotate_left
                                      · intro w'
                                        go_simp
                                        with_reducible rfl
                                      rotate_left
                                      · simp only [Act.put, List.setIfInBounds_toArray, List.set_cons_zero, List.set_cons_succ, i64_w, i32_w]
                                        rfl
                                      refine pure_ (i := 9) (N := some 63) (v := ?_) (a' := ?_) #[false, true, true, true, false, true, false, false, true, true, false, false, false] rfl rfl (any_of HT_.out (by kernel_rfl)) (fun _ _ _ h => h) (Or.inl ⟨by rfl, ?_⟩) ?_ ?_
                                      rotate_left
                                      · intro w'
                                        go_simp
                                        with_reducible rfl
                                      rotate_left
                                      · simp only [Act.put, List.setIfInBounds_toArray, List.set_cons_zero, List.set_cons_succ, i64_w, i32_w]
                                        rfl
                                      refine pure_ (i := 10) (N := some 64) (v := ?_) (a' := ?_) #[false, true, true, true, false, true, false, false, true, true, true, false, false] rfl rfl (any_of HT_.out (by kernel_rfl)) (fun _ _ _ h => h) (Or.inl ⟨by rfl, ?_⟩) ?_ ?_
                                      rotate_left
                                      · intro w'
                                        go_simp
                                        with_reducible rfl
                                      rotate_left
                                      · simp only [Act.put, List.setIfInBounds_toArray, List.set_cons_zero, List.set_cons_succ, i64_w, i32_w]
                                        rfl
                                      refine join_ (σ := Value × Value × Value) 3 #[true, true, true, true, true, true, true, false, true, true, true, false, false] (fun s_ => [(54, s_.1), (58, s_.2.1), (60, s_.2.2)]) (fun s_ w' => (Kd.R (Kd.int .i64) 3 w' w.heap.size (fun k_ => some k_ ≠ (s_.2.2 : Value).ownBlock) s_.2.1 y163) ∧ (Kd.R (Kd.int .i64) 3 w' w.heap.size (fun k_ => some k_ ≠ (s_.2.1 : Value).ownBlock) s_.2.2 y166) ∧ (Below w.heap.size w w')) ?_ ?_
                                      rotate_left
                                      · intro hCont
                                        refine two_ (i := 0) (j := 6) (Ni := some 54) (Nj := some 60) #[true, true, true, true, false, true, false, false, true, true, true, false, false] #[false, true, true, true, false, true, true, false, true, true, true, false, false] rfl rfl rfl rfl (two_of HT_.out (by kernel_rfl)) (by decide) (by decide) (fun K hK => ?_) (fun K hK => ?_)
                                        · skip
                                          refine Kd.R_lit_step (Kd.int .i64) _ 3 ?hg (N := 54) ?hd (xs := ([] : List Int)) (inner := []) (ok := fun _ => True) (okp := fun _ => True) ?hr ?hp (fun _ hk => hk) trivial (Below.refl _ _) (Nat.le_refl _) (by simp) ?_; (case hd => rfl); (case hg => rfl); (case hr => first | (go_simp; done) | (go_simp; rfl)); (case hp => exact (Reps.none _ _))
                                          intro v160 w44 ho45 hb hg_ hnew_
                                          clear hg_ hnew_
                                          (first | rw [← Ny159.out] at ho45 | (simp only [Int.reduceToNat] at ho45; rw [← Ny159.out] at ho45))
                                          have n0_ := Aside0.mk (Kd.R_lower ho45 (below_size (by repeat (first | (with_reducible first | exact HB.out | apply below_alloc | apply pw_below_drewN | apply below_drew1) | exact HB.out))))
                                          have n1_ := Aside0.mk (below_step (by repeat (first | (with_reducible first | exact HB.out | apply below_alloc | apply pw_below_drewN | apply below_drew1) | exact HB.out)) hb)
                                          clear HB
                                          have HO161 := n0_
                                          have HB := n1_
                                          clear n0_ n1_
                                          clear hb ho45
                                          refine hK.out _ _ trivial (fun hHeld => ?_)
                                          clear hK K
                                          refine norm_ (a' := ?_) ?_ ?_
                                          rotate_left
                                          · show Act.put _ (some 54) _ = _
                                            simp only [Act.put, List.setIfInBounds_toArray, List.set_cons_zero, List.set_cons_succ, i64_w, i32_w]
                                            rfl
                                          refine two_ (i := 4) (j := 6) (Ni := some 58) (Nj := some 60) #[true, true, true, true, true, true, false, false, true, true, true, false, false] #[true, true, true, true, false, true, true, false, true, true, true, false, false] rfl rfl rfl rfl (two_of HT_.out (by kernel_rfl)) (by decide) (by decide) (fun K hK => ?_) (fun K hK => ?_)
                                          · skip
                                            refine Kd.R_append_rows_step (Kd.int .i64) (w0 := w) w.heap.size (by rfl) (.tmp 54) (.tmp 57) 39 3 (.int .i64 0) 8 rfl Try.underlying39 info3 rfl (by decide) (by omega) v160 y159 (l3.take ((ji18) : Int).toNat) _ _ _ (fun _ => True) (fun _ => False) rfl rfl ?aO ?aR (fun _ _ h => h) (fun _ h => h.elim) ?aF ?aB ?aS ?aL ?_
                                            (case aR => first | (refine cutlen_ (show (l3.take ((ji18) : Int).toNat).length = (ji18).toNat from (by rw [List.length_take]; have h_ : ((ji18) : Int) ≤ (l3.length : Int) := of_decide_eq_true (by first | (with_reducible assumption) | assumption); omega)) ?_; repeat (first | exact (Kd.C_below HR162.out HB.out) | (with_reducible refine Kd.C_alloc ?_ _) | (with_reducible refine Kd.C_drewN ?_ _) | (with_reducible refine Kd.C_drew ?_)); done) | (rw [← show (l3.take ((ji18) : Int).toNat).length = (ji18).toNat from (by rw [List.length_take]; have h_ : ((ji18) : Int) ≤ (l3.length : Int) := of_decide_eq_true (by first | (with_reducible assumption) | assumption); omega)]; repeat (first | exact (Kd.C_below HR162.out HB.out) | (with_reducible refine Kd.C_alloc ?_ _) | (with_reducible refine Kd.C_drewN ?_ _) | (with_reducible refine Kd.C_drew ?_))) | (repeat (first | exact (Kd.C_below HR162.out HB.out) | (with_reducible refine Kd.C_alloc ?_ _) | (with_reducible refine Kd.C_drewN ?_ _) | (with_reducible refine Kd.C_drew ?_))))
                                            (case aB => exact (by repeat (first | (with_reducible first | exact HB.out | apply below_alloc | apply pw_below_drewN | apply below_drew1) | exact HB.out)))
                                            (case aF => exact (fun _ _ => trivial))
                                            (case aO => exact (by (with_reducible repeat (first | apply Kd.R_alloc | apply Kd.R_drewN | apply Kd.R_drew)); exact HO161.out))
                                            (case aS => exact (below_size (by repeat (first | (with_reducible first | exact HB.out | apply below_alloc | apply pw_below_drewN | apply below_drew1) | exact HB.out))))
                                            (case aL => have := LMc21.out; have hlx_ := (show (l3.take ((ji18) : Int).toNat).length = (ji18).toNat from (by rw [List.length_take]; have h_ : ((ji18) : Int) ≤ (l3.length : Int) := of_decide_eq_true (by first | (with_reducible assumption) | assumption); omega)); omega)
                                            intro v164 w46 ho hb hg hat
                                            rw [← Ny163.out] at ho
                                            have n0_ := Aside0.mk (hb)
                                            have n1_ := Aside0.mk (ho)
                                            clear HB
                                            clear HO161
                                            have HB := n0_
                                            have HO165 := n1_
                                            clear n0_ n1_
                                            clear ho hb hg hat
                                            refine hK.out _ _ trivial (fun hHeld => ?_)
                                            clear hK K
                                            refine norm_ (a' := ?_) ?_ ?_
                                            rotate_left
                                            · show Act.put _ (some 58) _ = _
                                              simp only [Act.put, List.setIfInBounds_toArray, List.set_cons_zero, List.set_cons_succ, i64_w, i32_w]
                                              rfl
                                            refine one_ (i := 6) (N := some 60) #[true, true, true, true, true, true, true, false, true, true, true, false, false] rfl rfl (one_of HT_.out (by kernel_rfl)) (by decide) (fun K hK => ?_)
                                            refine Kd.R_lit_step (Kd.int .i64) _ 3 ?hg (N := 60) ?hd (xs := ([x12_15] : List Int)) (inner := [.int .i64 x12_15]) (ok := fun _ => True) (okp := fun _ => True) ?hr ?hp (fun _ hk => hk) trivial (Below.refl _ _) (Nat.le_refl _) (by simp) ?_; (case hd => rfl); (case hg => rfl); (case hr => first | (go_simp; done) | (go_simp; rfl)); (case hp => exact (Reps.one (show Kd.M (Kd.int .i64) _ _ _ x12_15 [.int .i64 x12_15] from rfl) (Reps.none _ _)))
                                            intro v167 w47 ho48 hb hg_ hnew_
                                            clear hg_ hnew_
                                            (first | rw [← Ny166.out] at ho48 | (simp only [Int.reduceToNat] at ho48; rw [← Ny166.out] at ho48))
                                            have n0_ := Aside0.mk (Kd.R_elder' (by (with_reducible repeat (first | apply Kd.R_alloc | apply Kd.R_drewN | apply Kd.R_drew)); exact HO165.out) (Kd.R_base ho48) hb)
                                            have n1_ := Aside0.mk (Kd.R_lower (Kd.R_new' ho48 (Kd.R_lt (by (with_reducible repeat (first | apply Kd.R_alloc | apply Kd.R_drewN | apply Kd.R_drew)); exact HO165.out))) (below_size (by repeat (first | (with_reducible first | exact HB.out | apply below_alloc | apply pw_below_drewN | apply below_drew1) | exact HB.out))))
                                            have n2_ := Aside0.mk (below_step (by repeat (first | (with_reducible first | exact HB.out | apply below_alloc | apply pw_below_drewN | apply below_drew1) | exact HB.out)) hb)
                                            clear HO165
                                            clear HB
                                            have HO165 := n0_
                                            have HO168 := n1_
                                            have HB := n2_
                                            clear n0_ n1_ n2_
                                            clear hb ho48
                                            refine hK.out _ _ trivial (fun hHeld => ?_)
                                            clear hK K
                                            refine norm_ (a' := ?_) ?_ ?_
                                            rotate_left
                                            · show Act.put _ (some 60) _ = _
                                              simp only [Act.put, List.setIfInBounds_toArray, List.set_cons_zero, List.set_cons_succ, i64_w, i32_w]
                                              rfl
                                            exact norm_ (by simp only [putAll, Act.put, List.setIfInBounds_toArray, List.set_cons_zero, List.set_cons_succ]) (hCont (v160, v164, v167) _ ⟨(by (with_reducible repeat (first | apply Kd.R_alloc | apply Kd.R_drewN | apply Kd.R_drew)); exact Kd.R_mono HO165.out (fun _ hk => hk.2)), (by (with_reducible repeat (first | apply Kd.R_alloc | apply Kd.R_drewN | apply Kd.R_drew)); exact Kd.R_mono HO168.out (fun _ hk => hk.2)), (by repeat (first | (with_reducible first | exact HB.out | apply below_alloc | apply pw_below_drewN | apply below_drew1) | exact HB.out))⟩)
                                          · skip
                                            refine Kd.R_lit_step (Kd.int .i64) _ 3 ?hg (N := 60) ?hd (xs := ([x12_15] : List Int)) (inner := [.int .i64 x12_15]) (ok := fun _ => True) (okp := fun _ => True) ?hr ?hp (fun _ hk => hk) trivial (Below.refl _ _) (Nat.le_refl _) (by simp) ?_; (case hd => rfl); (case hg => rfl); (case hr => first | (go_simp; done) | (go_simp; rfl)); (case hp => exact (Reps.one (show Kd.M (Kd.int .i64) _ _ _ x12_15 [.int .i64 x12_15] from rfl) (Reps.none _ _)))
                                            intro v167 w46 ho47 hb hg_ hnew_
                                            clear hg_ hnew_
                                            (first | rw [← Ny166.out] at ho47 | (simp only [Int.reduceToNat] at ho47; rw [← Ny166.out] at ho47))
                                            have n0_ := Aside0.mk (Kd.R_elder' (by (with_reducible repeat (first | apply Kd.R_alloc | apply Kd.R_drewN | apply Kd.R_drew)); exact HO161.out) (Kd.R_base ho47) hb)
                                            have n1_ := Aside0.mk (Kd.R_lower (Kd.R_new' ho47 (Kd.R_lt (by (with_reducible repeat (first | apply Kd.R_alloc | apply Kd.R_drewN | apply Kd.R_drew)); exact HO161.out))) (below_size (by repeat (first | (with_reducible first | exact HB.out | apply below_alloc | apply pw_below_drewN | apply below_drew1) | exact HB.out))))
                                            have n2_ := Aside0.mk (below_step (by repeat (first | (with_reducible first | exact HB.out | apply below_alloc | apply pw_below_drewN | apply below_drew1) | exact HB.out)) hb)
                                            clear HO161
                                            clear HB
                                            have HO161 := n0_
                                            have HO168 := n1_
                                            have HB := n2_
                                            clear n0_ n1_ n2_
                                            clear hb ho47
                                            refine hK.out _ _ trivial (fun hHeld => ?_)
                                            clear hK K
                                            refine norm_ (a' := ?_) ?_ ?_
                                            rotate_left
                                            · show Act.put _ (some 60) _ = _
                                              simp only [Act.put, List.setIfInBounds_toArray, List.set_cons_zero, List.set_cons_succ, i64_w, i32_w]
                                              rfl
                                            refine one_ (i := 4) (N := some 58) #[true, true, true, true, true, true, true, false, true, true, true, false, false] rfl rfl (one_of HT_.out (by kernel_rfl)) (by decide) (fun K hK => ?_)
                                            refine Kd.R_append_rows_step (Kd.int .i64) (w0 := w) w.heap.size (by rfl) (.tmp 54) (.tmp 57) 39 3 (.int .i64 0) 8 rfl Try.underlying39 info3 rfl (by decide) (by omega) v160 y159 (l3.take ((ji18) : Int).toNat) _ _ _ (fun k_ => some k_ ≠ (v167 : Value).ownBlock) (fun _ => False) rfl rfl ?aO ?aR (fun _ _ h => h) (fun _ h => h.elim) ?aF ?aB ?aS ?aL ?_
                                            (case aR => first | (refine cutlen_ (show (l3.take ((ji18) : Int).toNat).length = (ji18).toNat from (by rw [List.length_take]; have h_ : ((ji18) : Int) ≤ (l3.length : Int) := of_decide_eq_true (by first | (with_reducible assumption) | assumption); omega)) ?_; repeat (first | exact (Kd.C_below HR162.out HB.out) | (with_reducible refine Kd.C_alloc ?_ _) | (with_reducible refine Kd.C_drewN ?_ _) | (with_reducible refine Kd.C_drew ?_)); done) | (rw [← show (l3.take ((ji18) : Int).toNat).length = (ji18).toNat from (by rw [List.length_take]; have h_ : ((ji18) : Int) ≤ (l3.length : Int) := of_decide_eq_true (by first | (with_reducible assumption) | assumption); omega)]; repeat (first | exact (Kd.C_below HR162.out HB.out) | (with_reducible refine Kd.C_alloc ?_ _) | (with_reducible refine Kd.C_drewN ?_ _) | (with_reducible refine Kd.C_drew ?_))) | (repeat (first | exact (Kd.C_below HR162.out HB.out) | (with_reducible refine Kd.C_alloc ?_ _) | (with_reducible refine Kd.C_drewN ?_ _) | (with_reducible refine Kd.C_drew ?_))))
                                            (case aB => exact (by repeat (first | (with_reducible first | exact HB.out | apply below_alloc | apply pw_below_drewN | apply below_drew1) | exact HB.out)))
                                            (case aF => exact (fun k_ hk => Kd.fresh' (Kd.R_lt (by (with_reducible repeat (first | apply Kd.R_alloc | apply Kd.R_drewN | apply Kd.R_drew)); exact HO168.out)) k_ hk))
                                            (case aO => exact (by (with_reducible repeat (first | apply Kd.R_alloc | apply Kd.R_drewN | apply Kd.R_drew)); exact Kd.R_mono HO161.out (fun _ hk => hk.2)))
                                            (case aS => exact (below_size (by repeat (first | (with_reducible first | exact HB.out | apply below_alloc | apply pw_below_drewN | apply below_drew1) | exact HB.out))))
                                            (case aL => have := LMc21.out; have hlx_ := (show (l3.take ((ji18) : Int).toNat).length = (ji18).toNat from (by rw [List.length_take]; have h_ : ((ji18) : Int) ≤ (l3.length : Int) := of_decide_eq_true (by first | (with_reducible assumption) | assumption); omega)); omega)
                                            intro v164 w48 ho hb hg hat
                                            rw [← Ny163.out] at ho
                                            have n0_ := Aside0.mk (Kd.R_after (ok := (fun _ => True)) (by (with_reducible repeat (first | apply Kd.R_alloc | apply Kd.R_drewN | apply Kd.R_drew)); exact HO168.out) hg hat)
                                            have n1_ := Aside0.mk (hb)
                                            have n2_ := Aside0.mk (ho)
                                            clear HO168
                                            clear HB
                                            clear HO161
                                            have HO168 := n0_
                                            have HB := n1_
                                            have HO165 := n2_
                                            clear n0_ n1_ n2_
                                            clear ho hb hg hat
                                            refine hK.out _ _ trivial (fun hHeld => ?_)
                                            clear hK K
                                            refine norm_ (a' := ?_) ?_ ?_
                                            rotate_left
                                            · show Act.put _ (some 58) _ = _
                                              simp only [Act.put, List.setIfInBounds_toArray, List.set_cons_zero, List.set_cons_succ, i64_w, i32_w]
                                              rfl
                                            exact norm_ (by simp only [putAll, Act.put, List.setIfInBounds_toArray, List.set_cons_zero, List.set_cons_succ]) (hCont (v160, v164, v167) _ ⟨(by (with_reducible repeat (first | apply Kd.R_alloc | apply Kd.R_drewN | apply Kd.R_drew)); exact HO165.out), (by (with_reducible repeat (first | apply Kd.R_alloc | apply Kd.R_drewN | apply Kd.R_drew)); exact Kd.R_mono HO168.out (fun _ hk => hk.2)), (by repeat (first | (with_reducible first | exact HB.out | apply below_alloc | apply pw_below_drewN | apply below_drew1) | exact HB.out))⟩)
                                        · skip
                                          refine Kd.R_lit_step (Kd.int .i64) _ 3 ?hg (N := 60) ?hd (xs := ([x12_15] : List Int)) (inner := [.int .i64 x12_15]) (ok := fun _ => True) (okp := fun _ => True) ?hr ?hp (fun _ hk => hk) trivial (Below.refl _ _) (Nat.le_refl _) (by simp) ?_; (case hd => rfl); (case hg => rfl); (case hr => first | (go_simp; done) | (go_simp; rfl)); (case hp => exact (Reps.one (show Kd.M (Kd.int .i64) _ _ _ x12_15 [.int .i64 x12_15] from rfl) (Reps.none _ _)))
                                          intro v167 w44 ho45 hb hg_ hnew_
                                          clear hg_ hnew_
                                          (first | rw [← Ny166.out] at ho45 | (simp only [Int.reduceToNat] at ho45; rw [← Ny166.out] at ho45))
                                          have n0_ := Aside0.mk (Kd.R_lower ho45 (below_size (by repeat (first | (with_reducible first | exact HB.out | apply below_alloc | apply pw_below_drewN | apply below_drew1) | exact HB.out))))
                                          have n1_ := Aside0.mk (below_step (by repeat (first | (with_reducible first | exact HB.out | apply below_alloc | apply pw_below_drewN | apply below_drew1) | exact HB.out)) hb)
                                          clear HB
                                          have HO168 := n0_
                                          have HB := n1_
                                          clear n0_ n1_
                                          clear hb ho45
                                          refine hK.out _ _ trivial (fun hHeld => ?_)
                                          clear hK K
                                          refine norm_ (a' := ?_) ?_ ?_
                                          rotate_left
                                          · show Act.put _ (some 60) _ = _
                                            simp only [Act.put, List.setIfInBounds_toArray, List.set_cons_zero, List.set_cons_succ, i64_w, i32_w]
                                            rfl
                                          refine one_ (i := 0) (N := some 54) #[true, true, true, true, false, true, true, false, true, true, true, false, false] rfl rfl (one_of HT_.out (by kernel_rfl)) (by decide) (fun K hK => ?_)
                                          refine Kd.R_lit_step (Kd.int .i64) _ 3 ?hg (N := 54) ?hd (xs := ([] : List Int)) (inner := []) (ok := fun _ => True) (okp := fun _ => True) ?hr ?hp (fun _ hk => hk) trivial (Below.refl _ _) (Nat.le_refl _) (by simp) ?_; (case hd => rfl); (case hg => rfl); (case hr => first | (go_simp; done) | (go_simp; rfl)); (case hp => exact (Reps.none _ _))
                                          intro v160 w46 ho47 hb hg_ hnew_
                                          clear hg_ hnew_
                                          (first | rw [← Ny159.out] at ho47 | (simp only [Int.reduceToNat] at ho47; rw [← Ny159.out] at ho47))
                                          have n0_ := Aside0.mk (Kd.R_elder' (by (with_reducible repeat (first | apply Kd.R_alloc | apply Kd.R_drewN | apply Kd.R_drew)); exact HO168.out) (Kd.R_base ho47) hb)
                                          have n1_ := Aside0.mk (Kd.R_lower (Kd.R_new' ho47 (Kd.R_lt (by (with_reducible repeat (first | apply Kd.R_alloc | apply Kd.R_drewN | apply Kd.R_drew)); exact HO168.out))) (below_size (by repeat (first | (with_reducible first | exact HB.out | apply below_alloc | apply pw_below_drewN | apply below_drew1) | exact HB.out))))
                                          have n2_ := Aside0.mk (below_step (by repeat (first | (with_reducible first | exact HB.out | apply below_alloc | apply pw_below_drewN | apply below_drew1) | exact HB.out)) hb)
                                          clear HO168
                                          clear HB
                                          have HO168 := n0_
                                          have HO161 := n1_
                                          have HB := n2_
                                          clear n0_ n1_ n2_
                                          clear hb ho47
                                          refine hK.out _ _ trivial (fun hHeld => ?_)
                                          clear hK K
                                          refine norm_ (a' := ?_) ?_ ?_
                                          rotate_left
                                          · show Act.put _ (some 54) _ = _
                                            simp only [Act.put, List.setIfInBounds_toArray, List.set_cons_zero, List.set_cons_succ, i64_w, i32_w]
                                            rfl
                                          refine one_ (i := 4) (N := some 58) #[true, true, true, true, true, true, true, false, true, true, true, false, false] rfl rfl (one_of HT_.out (by kernel_rfl)) (by decide) (fun K hK => ?_)
                                          refine Kd.R_append_rows_step (Kd.int .i64) (w0 := w) w.heap.size (by rfl) (.tmp 54) (.tmp 57) 39 3 (.int .i64 0) 8 rfl Try.underlying39 info3 rfl (by decide) (by omega) v160 y159 (l3.take ((ji18) : Int).toNat) _ _ _ (fun k_ => some k_ ≠ (v167 : Value).ownBlock) (fun _ => False) rfl rfl ?aO ?aR (fun _ _ h => h) (fun _ h => h.elim) ?aF ?aB ?aS ?aL ?_
                                          (case aR => first | (refine cutlen_ (show (l3.take ((ji18) : Int).toNat).length = (ji18).toNat from (by rw [List.length_take]; have h_ : ((ji18) : Int) ≤ (l3.length : Int) := of_decide_eq_true (by first | (with_reducible assumption) | assumption); omega)) ?_; repeat (first | exact (Kd.C_below HR162.out HB.out) | (with_reducible refine Kd.C_alloc ?_ _) | (with_reducible refine Kd.C_drewN ?_ _) | (with_reducible refine Kd.C_drew ?_)); done) | (rw [← show (l3.take ((ji18) : Int).toNat).length = (ji18).toNat from (by rw [List.length_take]; have h_ : ((ji18) : Int) ≤ (l3.length : Int) := of_decide_eq_true (by first | (with_reducible assumption) | assumption); omega)]; repeat (first | exact (Kd.C_below HR162.out HB.out) | (with_reducible refine Kd.C_alloc ?_ _) | (with_reducible refine Kd.C_drewN ?_ _) | (with_reducible refine Kd.C_drew ?_))) | (repeat (first | exact (Kd.C_below HR162.out HB.out) | (with_reducible refine Kd.C_alloc ?_ _) | (with_reducible refine Kd.C_drewN ?_ _) | (with_reducible refine Kd.C_drew ?_))))
                                          (case aB => exact (by repeat (first | (with_reducible first | exact HB.out | apply below_alloc | apply pw_below_drewN | apply below_drew1) | exact HB.out)))
                                          (case aF => exact (fun k_ hk => Kd.fresh' (Kd.R_lt (by (with_reducible repeat (first | apply Kd.R_alloc | apply Kd.R_drewN | apply Kd.R_drew)); exact HO168.out)) k_ hk))
                                          (case aO => exact (by (with_reducible repeat (first | apply Kd.R_alloc | apply Kd.R_drewN | apply Kd.R_drew)); exact Kd.R_mono HO161.out (fun _ hk => hk.2)))
                                          (case aS => exact (below_size (by repeat (first | (with_reducible first | exact HB.out | apply below_alloc | apply pw_below_drewN | apply below_drew1) | exact HB.out))))
                                          (case aL => have := LMc21.out; have hlx_ := (show (l3.take ((ji18) : Int).toNat).length = (ji18).toNat from (by rw [List.length_take]; have h_ : ((ji18) : Int) ≤ (l3.length : Int) := of_decide_eq_true (by first | (with_reducible assumption) | assumption); omega)); omega)
                                          intro v164 w48 ho hb hg hat
                                          rw [← Ny163.out] at ho
                                          have n0_ := Aside0.mk (Kd.R_after (ok := (fun _ => True)) (by (with_reducible repeat (first | apply Kd.R_alloc | apply Kd.R_drewN | apply Kd.R_drew)); exact HO168.out) hg hat)
                                          have n1_ := Aside0.mk (hb)
                                          have n2_ := Aside0.mk (ho)
                                          clear HO168
                                          clear HB
                                          clear HO161
                                          have HO168 := n0_
                                          have HB := n1_
                                          have HO165 := n2_
                                          clear n0_ n1_ n2_
                                          clear ho hb hg hat
                                          refine hK.out _ _ trivial (fun hHeld => ?_)
                                          clear hK K
                                          refine norm_ (a' := ?_) ?_ ?_
                                          rotate_left
                                          · show Act.put _ (some 58) _ = _
                                            simp only [Act.put, List.setIfInBounds_toArray, List.set_cons_zero, List.set_cons_succ, i64_w, i32_w]
                                            rfl
                                          exact norm_ (by simp only [putAll, Act.put, List.setIfInBounds_toArray, List.set_cons_zero, List.set_cons_succ]) (hCont (v160, v164, v167) _ ⟨(by (with_reducible repeat (first | apply Kd.R_alloc | apply Kd.R_drewN | apply Kd.R_drew)); exact HO165.out), (by (with_reducible repeat (first | apply Kd.R_alloc | apply Kd.R_drewN | apply Kd.R_drew)); exact Kd.R_mono HO168.out (fun _ hk => hk.2)), (by repeat (first | (with_reducible first | exact HB.out | apply below_alloc | apply pw_below_drewN | apply below_drew1) | exact HB.out))⟩)
                                      rintro ⟨v160, v164, v167⟩ w49 ⟨h0_, h1_, h2_⟩
                                      have n0_ : Aside0 (Kd.R (Kd.int .i64) 3 w49 w.heap.size (fun k_ => some k_ ≠ (v167 : Value).ownBlock) v164 y163) := ⟨h0_⟩
                                      have n1_ : Aside0 (Kd.R (Kd.int .i64) 3 w49 w.heap.size (fun k_ => some k_ ≠ (v164 : Value).ownBlock) v167 y166) := ⟨h1_⟩
                                      have n2_ : Aside0 (Below w.heap.size w w49) := ⟨h2_⟩
                                      clear HB
                                      clear h0_ h1_ h2_
                                      have HO165 := n0_
                                      have HO168 := n1_
                                      have HB := n2_
                                      clear n0_ n1_ n2_
                                      have hHeld := trivial
                                      obtain ⟨Ao51, co51, eo51⟩ := Kd.R_slice HO168.out
                                      (first | subst eo51 | (injection eo51 with f1_ f2_ f3_; have f4_ := f1_.symm; have f5_ := f3_.symm; clear f1_ f2_ f3_; subst f4_; subst f5_))
                                      refine norm_ (a' := ?_) ?_ ?_
                                      rotate_left
                                      · simp only [putAll, Act.put, List.setIfInBounds_toArray, List.set_cons_zero, List.set_cons_succ]
                                        rfl
                                      refine one_ (i := 7) (N := some 61) #[true, true, true, true, true, true, true, true, true, true, true, false, false] rfl rfl (one_of HT_.out (by kernel_rfl)) (by decide) (fun K hK => ?_)
                                      refine Kd.R_append_rows_step (Kd.int .i64) (w0 := w) w.heap.size (by rfl) (.tmp 58) (.tmp 60) 39 3 (.int .i64 0) 8 rfl Try.underlying39 info3 rfl (by decide) (by omega) v164 y163 y166 _ _ _ (fun k_ => some k_ ≠ (.slice Ao51 y166.length co51 : Value).ownBlock) (fun _ => False) rfl rfl ?aO ?aR (fun _ _ h => h) (fun _ h => h.elim) ?aF ?aB ?aS ?aL ?_
                                      (case aR => repeat (first | exact (Kd.R_reads' HO168.out).2.2 | (with_reducible refine Kd.C_alloc ?_ _) | (with_reducible refine Kd.C_drewN ?_ _) | (with_reducible refine Kd.C_drew ?_)))
                                      (case aB => exact (by repeat (first | (with_reducible first | exact HB.out | apply below_alloc | apply pw_below_drewN | apply below_drew1) | exact HB.out)))
                                      (case aF => exact (fun k_ hk => Kd.fresh' (Kd.R_lt (by (with_reducible repeat (first | apply Kd.R_alloc | apply Kd.R_drewN | apply Kd.R_drew)); exact HO168.out)) k_ hk))
                                      (case aO => exact (by (with_reducible repeat (first | apply Kd.R_alloc | apply Kd.R_drewN | apply Kd.R_drew)); exact HO165.out))
                                      (case aS => exact (below_size (by repeat (first | (with_reducible first | exact HB.out | apply below_alloc | apply pw_below_drewN | apply below_drew1) | exact HB.out))))
                                      (case aL => have := LMc22.out; omega)
                                      intro v170 w50 ho hb hg hat
                                      rw [← Ny169.out] at ho
                                      have n0_ := Aside0.mk (Kd.R_after (ok := (fun _ => True)) (by (with_reducible repeat (first | apply Kd.R_alloc | apply Kd.R_drewN | apply Kd.R_drew)); exact Kd.R_mono HO168.out (fun _ hk => ⟨trivial, hk⟩)) hg hat)
                                      have n1_ := Aside0.mk (hb)
                                      have n2_ := Aside0.mk (ho)
                                      clear HO168
                                      clear HB
                                      clear HO165
                                      have HO168 := n0_
                                      have HB := n1_
                                      have HO171 := n2_
                                      clear n0_ n1_ n2_
                                      clear ho hb hg hat
                                      refine hK.out _ _ trivial (fun hHeld => ?_)
                                      clear hK K
                                      refine norm_ (a' := ?_) ?_ ?_
                                      rotate_left
                                      · show Act.put _ (some 61) _ = _
                                        simp only [Act.put, List.setIfInBounds_toArray, List.set_cons_zero, List.set_cons_succ, i64_w, i32_w]
                                        rfl
                                      refine one_ (i := 11) (N := some 65) #[true, true, true, true, true, true, true, true, true, true, true, true, false] rfl rfl (one_of HT_.out (by kernel_rfl)) (by decide) (fun K hK => ?_)
                                      refine Kd.R_append_rows_step (Kd.int .i64) (w0 := w) w.heap.size (by rfl) (.tmp 61) (.tmp 64) 39 3 (.int .i64 0) 8 rfl Try.underlying39 info3 rfl (by decide) (by omega) v170 y169 (l3.drop ((ji18) : Int).toNat) _ _ _ (fun k_ => some k_ ≠ (.slice Ao51 y166.length co51 : Value).ownBlock) (fun _ => False) rfl rfl ?aO ?aR (fun _ _ h => h) (fun _ h => h.elim) ?aF ?aB ?aS ?aL ?_
                                      (case aR => first | (refine cutlen_ (show (l3.drop ((ji18) : Int).toNat).length = (l3.length - (ji18).toNat) from List.length_drop) ?_; repeat (first | exact (Kd.C_below HR172.out HB.out) | (with_reducible refine Kd.C_alloc ?_ _) | (with_reducible refine Kd.C_drewN ?_ _) | (with_reducible refine Kd.C_drew ?_)); done) | (rw [← show (l3.drop ((ji18) : Int).toNat).length = (l3.length - (ji18).toNat) from List.length_drop]; repeat (first | exact (Kd.C_below HR172.out HB.out) | (with_reducible refine Kd.C_alloc ?_ _) | (with_reducible refine Kd.C_drewN ?_ _) | (with_reducible refine Kd.C_drew ?_))) | (repeat (first | exact (Kd.C_below HR172.out HB.out) | (with_reducible refine Kd.C_alloc ?_ _) | (with_reducible refine Kd.C_drewN ?_ _) | (with_reducible refine Kd.C_drew ?_))))
                                      (case aB => exact (by repeat (first | (with_reducible first | exact HB.out | apply below_alloc | apply pw_below_drewN | apply below_drew1) | exact HB.out)))
                                      (case aF => exact (fun k_ hk => Kd.fresh' (Kd.R_lt (by (with_reducible repeat (first | apply Kd.R_alloc | apply Kd.R_drewN | apply Kd.R_drew)); exact HO168.out)) k_ hk))
                                      (case aO => exact (by (with_reducible repeat (first | apply Kd.R_alloc | apply Kd.R_drewN | apply Kd.R_drew)); exact HO171.out))
                                      (case aS => exact (below_size (by repeat (first | (with_reducible first | exact HB.out | apply below_alloc | apply pw_below_drewN | apply below_drew1) | exact HB.out))))
                                      (case aL => have := LMc25.out; have hlx_ := (show (l3.drop ((ji18) : Int).toNat).length = (l3.length - (ji18).toNat) from List.length_drop); omega)
                                      intro v174 w52 ho hb hg hat
                                      rw [← Ny173.out] at ho
                                      have n0_ := Aside0.mk (Kd.R_after (ok := (fun _ => True)) (by (with_reducible repeat (first | apply Kd.R_alloc | apply Kd.R_drewN | apply Kd.R_drew)); exact HO168.out) hg hat)
                                      have n1_ := Aside0.mk (hb)
                                      have n2_ := Aside0.mk (ho)
                                      clear HO168
                                      clear HB
                                      clear HO171
                                      have HO168 := n0_
                                      have HB := n1_
                                      have HO175 := n2_
                                      clear n0_ n1_ n2_
                                      clear ho hb hg hat
                                      refine hK.out _ _ trivial (fun hHeld => ?_)
                                      clear hK K
                                      refine norm_ (a' := ?_) ?_ ?_
                                      rotate_left
                                      · show Act.put _ (some 65) _ = _
                                        simp only [Act.put, List.setIfInBounds_toArray, List.set_cons_zero, List.set_cons_succ, i64_w, i32_w]
                                        rfl
                                      refine pure_ (i := 12) (N := some 13) (v := ?_) (a' := ?_) #[true, true, true, true, true, true, true, true, true, true, true, true, true] rfl rfl (any_of HT_.out (by kernel_rfl)) (fun _ _ _ h => h) (Or.inl ⟨by rfl, ?_⟩) ?_ ?_
                                      rotate_left
                                      · intro w'
                                        go_simp
                                        with_reducible rfl
                                      rotate_left
                                      · simp only [Act.put, List.setIfInBounds_toArray, List.set_cons_zero, List.set_cons_succ, i64_w, i32_w]
                                        rfl
                                      refine done_ (done_of HT_.out (by kernel_rfl)) ?_
                                      try go_wp2
                                      have n0_ := Aside0.mk (Kd.R_drew HO168.out)
                                      have n1_ := Aside0.mk (Kd.R_drew HO175.out)
                                      have n2_ := Aside0.mk (below_drew1 HB.out)
                                      clear HO168
                                      clear HO175
                                      clear HB
                                      have HO168 := n0_
                                      have HO175 := n1_
                                      have HB := n2_
                                      clear n0_ n1_ n2_
                                      obtain ⟨i054, hi054, _, hsz54, _⟩ := info_parts info4
                                      obtain ⟨hcut54, hA54, hC54⟩ := print_take_of (P := Try.prog) Value.bool false 40 4 .i64 Try.underlying40 hi054 hsz54 A4 c4 l4 (ji18) (of_decide_eq_true (by first | (with_reducible assumption) | assumption)) (of_decide_eq_true (by first | (with_reducible assumption) | assumption)) HC4.out
                                      have HR179 := Aside0.mk (Kd.C_of_reads (h1 := fun _ => rfl) (hA54 _ (Kd.reads_of_C HR4.out)))
                                      have HC179 := Aside0.mk hC54
                                      clear hA54 hC54 hi054 hsz54
                                      obtain ⟨i055, hi055, _, hsz55, _⟩ := info_parts info4
                                      obtain ⟨A55, hcut55, hA55, hC55⟩ := print_drop_of (P := Try.prog) Value.bool false 40 4 .i64 Try.underlying40 hi055 hsz55 A4 c4 l4 (ji18) (of_decide_eq_true (by first | (with_reducible assumption) | assumption)) (of_decide_eq_true (by first | (with_reducible assumption) | assumption)) HC4.out
                                      have HR189 := Aside0.mk (Kd.C_of_reads (h1 := fun _ => rfl) (hA55 _ (Kd.reads_of_C HR4.out)))
                                      have HC189 := Aside0.mk hC55
                                      clear hA55 hC55 hi055 hsz55
                                      refine start_ (n := 13) (S := fun w' => True) (ds := []) #[false, false, false, false, false, false, false, false, false, false, false, false, false] (by kernel_rfl) rfl rfl trivial (fun hHeld => ?_); refine with_tabW laws_FnMergeIdle.tab10 laws_FnMergeIdle.bits10 (fun HT_ HW_ => ?_)
                                      generalize w52.drew = w53 at HO168 HO175 HB HR179 HR189 hHeld ⊢
                                      refine pure_ (i := 1) (N := some 67) (v := ?_) (a' := ?_) #[false, true, false, false, false, false, false, false, false, false, false, false, false] rfl rfl (any_of HT_.out (by kernel_rfl)) (fun _ _ _ h => h) (Or.inl ⟨by rfl, ?_⟩) ?_ ?_
                                      rotate_left
                                      · intro w'
                                        go_simp
                                        with_reducible rfl
                                      rotate_left
                                      · simp only [Act.put, List.setIfInBounds_toArray, List.set_cons_zero, List.set_cons_succ, i64_w, i32_w]
                                        rfl
                                      refine pure_ (i := 2) (N := some 68) (v := ?_) (a' := ?_) #[false, true, true, false, false, false, false, false, false, false, false, false, false] rfl rfl (any_of HT_.out (by kernel_rfl)) (fun _ _ _ h => h) (Or.inl ⟨by rfl, ?_⟩) ?_ ?_
                                      rotate_left
                                      · intro w'
                                        go_simp
                                        with_reducible rfl
                                      rotate_left
                                      · simp only [Act.put, List.setIfInBounds_toArray, List.set_cons_zero, List.set_cons_succ, i64_w, i32_w]
                                        rfl
                                      refine pure_ (i := 3) (N := some 69) (v := ?_) (a' := ?_) #[false, true, true, true, false, false, false, false, false, false, false, false, false] rfl rfl (any_of HT_.out (by kernel_rfl)) (fun _ _ _ h => h) (Or.inl ⟨by rfl, ?_⟩) ?_ ?_
                                      rotate_left
                                      · intro w'
                                        go_simp
                                        with_reducible rfl
                                      rotate_left
                                      · simp only [Act.put, List.setIfInBounds_toArray, List.set_cons_zero, List.set_cons_succ, i64_w, i32_w]
                                        rfl
                                      refine pure_ (i := 5) (N := some 71) (v := ?_) (a' := ?_) #[false, true, true, true, false, true, false, false, false, false, false, false, false] rfl rfl (any_of HT_.out (by kernel_rfl)) (fun _ _ _ h => h) (Or.inl ⟨by rfl, ?_⟩) ?_ ?_
                                      rotate_left
                                      · intro w'
                                        go_simp
                                        with_reducible rfl
                                      rotate_left
                                      · simp only [Act.put, List.setIfInBounds_toArray, List.set_cons_zero, List.set_cons_succ, i64_w, i32_w]
                                        rfl
                                      refine pure_ (i := 8) (N := some 74) (v := ?_) (a' := ?_) #[false, true, true, true, false, true, false, false, true, false, false, false, false] rfl rfl (any_of HT_.out (by kernel_rfl)) (fun _ _ _ h => h) (Or.inl ⟨by rfl, ?_⟩) ?_ ?_
                                      rotate_left
                                      · intro w'
                                        go_simp
                                        with_reducible rfl
                                      rotate_left
                                      · simp only [Act.put, List.setIfInBounds_toArray, List.set_cons_zero, List.set_cons_succ, i64_w, i32_w]
                                        rfl
                                      refine pure_ (i := 9) (N := some 75) (v := ?_) (a' := ?_) #[false, true, true, true, false, true, false, false, true, true, false, false, false] rfl rfl (any_of HT_.out (by kernel_rfl)) (fun _ _ _ h => h) (Or.inl ⟨by rfl, ?_⟩) ?_ ?_
                                      rotate_left
                                      · intro w'
                                        go_simp
                                        with_reducible rfl
                                      rotate_left
                                      · simp only [Act.put, List.setIfInBounds_toArray, List.set_cons_zero, List.set_cons_succ, i64_w, i32_w]
                                        rfl
                                      refine pure_ (i := 10) (N := some 76) (v := ?_) (a' := ?_) #[false, true, true, true, false, true, false, false, true, true, true, false, false] rfl rfl (any_of HT_.out (by kernel_rfl)) (fun _ _ _ h => h) (Or.inl ⟨by rfl, ?_⟩) ?_ ?_
                                      rotate_left
                                      · intro w'
                                        go_simp
                                        with_reducible rfl
                                      rotate_left
                                      · simp only [Act.put, List.setIfInBounds_toArray, List.set_cons_zero, List.set_cons_succ, i64_w, i32_w]
                                        rfl
                                      refine join_ (σ := Value × Value × Value) 3 #[true, true, true, true, true, true, true, false, true, true, true, false, false] (fun s_ => [(66, s_.1), (70, s_.2.1), (72, s_.2.2)]) (fun s_ w' => (Kd.R (Kd.int .i64) 3 w' w.heap.size (fun k_ => some k_ ≠ (v174 : Value).ownBlock) (.slice Ao51 y166.length co51) y166) ∧ (Kd.R (Kd.int .i64) 3 w' w.heap.size (fun k_ => some k_ ≠ (.slice Ao51 y166.length co51 : Value).ownBlock) v174 y173) ∧ (Kd.R Kd.bool 4 w' w.heap.size (fun k_ => some k_ ≠ (s_.2.2 : Value).ownBlock) s_.2.1 y180) ∧ (Kd.R Kd.bool 4 w' w.heap.size (fun k_ => some k_ ≠ (s_.2.1 : Value).ownBlock) s_.2.2 y183) ∧ (Below w.heap.size w w')) ?_ ?_
                                      rotate_left
                                      · intro hCont
                                        refine two_ (i := 0) (j := 6) (Ni := some 66) (Nj := some 72) #[true, true, true, true, false, true, false, false, true, true, true, false, false] #[false, true, true, true, false, true, true, false, true, true, true, false, false] rfl rfl rfl rfl (two_of HT_.out (by kernel_rfl)) (by decide) (by decide) (fun K hK => ?_) (fun K hK => ?_)
                                        · skip
                                          refine Kd.R_lit_step Kd.bool _ 4 ?hg (N := 66) ?hd (xs := ([] : List Bool)) (inner := []) (ok := fun _ => True) (okp := fun _ => True) ?hr ?hp (fun _ hk => hk) trivial (Below.refl _ _) (Nat.le_refl _) (by simp) ?_; (case hd => rfl); (case hg => rfl); (case hr => first | (go_simp; done) | (go_simp; rfl)); (case hp => exact (Reps.none _ _))
                                          intro v177 w56 ho57 hb hg_ hnew_
                                          clear hg_ hnew_
                                          (first | rw [← Ny176.out] at ho57 | (simp only [Int.reduceToNat] at ho57; rw [← Ny176.out] at ho57))
                                          have n0_ := Aside0.mk (Kd.R_below (by (with_reducible repeat (first | apply Kd.R_alloc | apply Kd.R_drewN | apply Kd.R_drew)); exact HO168.out) hb)
                                          have n1_ := Aside0.mk (Kd.R_below (by (with_reducible repeat (first | apply Kd.R_alloc | apply Kd.R_drewN | apply Kd.R_drew)); exact HO175.out) hb)
                                          have n2_ := Aside0.mk (Kd.R_lower ho57 (below_size (by repeat (first | (with_reducible first | exact HB.out | apply below_alloc | apply pw_below_drewN | apply below_drew1) | exact HB.out))))
                                          have n3_ := Aside0.mk (below_step (by repeat (first | (with_reducible first | exact HB.out | apply below_alloc | apply pw_below_drewN | apply below_drew1) | exact HB.out)) hb)
                                          clear HO168
                                          clear HO175
                                          clear HB
                                          have HO168 := n0_
                                          have HO175 := n1_
                                          have HO178 := n2_
                                          have HB := n3_
                                          clear n0_ n1_ n2_ n3_
                                          clear hb ho57
                                          refine hK.out _ _ trivial (fun hHeld => ?_)
                                          clear hK K
                                          refine norm_ (a' := ?_) ?_ ?_
                                          rotate_left
                                          · show Act.put _ (some 66) _ = _
                                            simp only [Act.put, List.setIfInBounds_toArray, List.set_cons_zero, List.set_cons_succ, i64_w, i32_w]
                                            rfl
                                          refine two_ (i := 4) (j := 6) (Ni := some 70) (Nj := some 72) #[true, true, true, true, true, true, false, false, true, true, true, false, false] #[true, true, true, true, false, true, true, false, true, true, true, false, false] rfl rfl rfl rfl (two_of HT_.out (by kernel_rfl)) (by decide) (by decide) (fun K hK => ?_) (fun K hK => ?_)
                                          · skip
                                            refine Kd.R_append_rows_step Kd.bool (w0 := w) w.heap.size (by rfl) (.tmp 66) (.tmp 69) 40 4 (.bool false) 1 rfl Try.underlying40 info4 rfl (by decide) (by omega) v177 y176 (l4.take ((ji18) : Int).toNat) _ _ _ (fun _ => True) (fun _ => False) rfl rfl ?aO ?aR (fun _ _ h => h) (fun _ h => h.elim) ?aF ?aB ?aS ?aL ?_
                                            (case aR => first | (refine cutlen_ (show (l4.take ((ji18) : Int).toNat).length = (ji18).toNat from (by rw [List.length_take]; have h_ : ((ji18) : Int) ≤ (l4.length : Int) := of_decide_eq_true (by first | (with_reducible assumption) | assumption); omega)) ?_; repeat (first | exact (Kd.C_below HR179.out HB.out) | (with_reducible refine Kd.C_alloc ?_ _) | (with_reducible refine Kd.C_drewN ?_ _) | (with_reducible refine Kd.C_drew ?_)); done) | (rw [← show (l4.take ((ji18) : Int).toNat).length = (ji18).toNat from (by rw [List.length_take]; have h_ : ((ji18) : Int) ≤ (l4.length : Int) := of_decide_eq_true (by first | (with_reducible assumption) | assumption); omega)]; repeat (first | exact (Kd.C_below HR179.out HB.out) | (with_reducible refine Kd.C_alloc ?_ _) | (with_reducible refine Kd.C_drewN ?_ _) | (with_reducible refine Kd.C_drew ?_))) | (repeat (first | exact (Kd.C_below HR179.out HB.out) | (with_reducible refine Kd.C_alloc ?_ _) | (with_reducible refine Kd.C_drewN ?_ _) | (with_reducible refine Kd.C_drew ?_))))
                                            (case aB => exact (by repeat (first | (with_reducible first | exact HB.out | apply below_alloc | apply pw_below_drewN | apply below_drew1) | exact HB.out)))
                                            (case aF => exact (fun _ _ => trivial))
                                            (case aO => exact (by (with_reducible repeat (first | apply Kd.R_alloc | apply Kd.R_drewN | apply Kd.R_drew)); exact HO178.out))
                                            (case aS => exact (below_size (by repeat (first | (with_reducible first | exact HB.out | apply below_alloc | apply pw_below_drewN | apply below_drew1) | exact HB.out))))
                                            (case aL => have := LMc28.out; have hlx_ := (show (l4.take ((ji18) : Int).toNat).length = (ji18).toNat from (by rw [List.length_take]; have h_ : ((ji18) : Int) ≤ (l4.length : Int) := of_decide_eq_true (by first | (with_reducible assumption) | assumption); omega)); omega)
                                            intro v181 w58 ho hb hg hat
                                            rw [← Ny180.out] at ho
                                            have n0_ := Aside0.mk (Kd.R_over' (by (with_reducible repeat (first | apply Kd.R_alloc | apply Kd.R_drewN | apply Kd.R_drew)); exact HO168.out) (Kd.R_typed (by (with_reducible repeat (first | apply Kd.R_alloc | apply Kd.R_drewN | apply Kd.R_drew)); exact HO178.out)) (by decide) hg)
                                            have n1_ := Aside0.mk (Kd.R_over' (by (with_reducible repeat (first | apply Kd.R_alloc | apply Kd.R_drewN | apply Kd.R_drew)); exact HO175.out) (Kd.R_typed (by (with_reducible repeat (first | apply Kd.R_alloc | apply Kd.R_drewN | apply Kd.R_drew)); exact HO178.out)) (by decide) hg)
                                            have n2_ := Aside0.mk (hb)
                                            have n3_ := Aside0.mk (ho)
                                            clear HO168
                                            clear HO175
                                            clear HB
                                            clear HO178
                                            have HO168 := n0_
                                            have HO175 := n1_
                                            have HB := n2_
                                            have HO182 := n3_
                                            clear n0_ n1_ n2_ n3_
                                            clear ho hb hg hat
                                            refine hK.out _ _ trivial (fun hHeld => ?_)
                                            clear hK K
                                            refine norm_ (a' := ?_) ?_ ?_
                                            rotate_left
                                            · show Act.put _ (some 70) _ = _
                                              simp only [Act.put, List.setIfInBounds_toArray, List.set_cons_zero, List.set_cons_succ, i64_w, i32_w]
                                              rfl
                                            refine one_ (i := 6) (N := some 72) #[true, true, true, true, true, true, true, false, true, true, true, false, false] rfl rfl (one_of HT_.out (by kernel_rfl)) (by decide) (fun K hK => ?_)
                                            refine Kd.R_lit_step Kd.bool _ 4 ?hg (N := 72) ?hd (xs := ([a2] : List Bool)) (inner := [.bool a2]) (ok := fun _ => True) (okp := fun _ => True) ?hr ?hp (fun _ hk => hk) trivial (Below.refl _ _) (Nat.le_refl _) (by simp) ?_; (case hd => rfl); (case hg => rfl); (case hr => first | (go_simp; done) | (go_simp; rfl)); (case hp => exact (Reps.one (show Kd.M Kd.bool _ _ _ a2 [.bool a2] from rfl) (Reps.none _ _)))
                                            intro v184 w59 ho60 hb hg_ hnew_
                                            clear hg_ hnew_
                                            (first | rw [← Ny183.out] at ho60 | (simp only [Int.reduceToNat] at ho60; rw [← Ny183.out] at ho60))
                                            have n0_ := Aside0.mk (Kd.R_below (by (with_reducible repeat (first | apply Kd.R_alloc | apply Kd.R_drewN | apply Kd.R_drew)); exact HO168.out) hb)
                                            have n1_ := Aside0.mk (Kd.R_below (by (with_reducible repeat (first | apply Kd.R_alloc | apply Kd.R_drewN | apply Kd.R_drew)); exact HO175.out) hb)
                                            have n2_ := Aside0.mk (Kd.R_elder' (by (with_reducible repeat (first | apply Kd.R_alloc | apply Kd.R_drewN | apply Kd.R_drew)); exact HO182.out) (Kd.R_base ho60) hb)
                                            have n3_ := Aside0.mk (Kd.R_lower (Kd.R_new' ho60 (Kd.R_lt (by (with_reducible repeat (first | apply Kd.R_alloc | apply Kd.R_drewN | apply Kd.R_drew)); exact HO182.out))) (below_size (by repeat (first | (with_reducible first | exact HB.out | apply below_alloc | apply pw_below_drewN | apply below_drew1) | exact HB.out))))
                                            have n4_ := Aside0.mk (below_step (by repeat (first | (with_reducible first | exact HB.out | apply below_alloc | apply pw_below_drewN | apply below_drew1) | exact HB.out)) hb)
                                            clear HO168
                                            clear HO175
                                            clear HO182
                                            clear HB
                                            have HO168 := n0_
                                            have HO175 := n1_
                                            have HO182 := n2_
                                            have HO185 := n3_
                                            have HB := n4_
                                            clear n0_ n1_ n2_ n3_ n4_
                                            clear hb ho60
                                            refine hK.out _ _ trivial (fun hHeld => ?_)
                                            clear hK K
                                            refine norm_ (a' := ?_) ?_ ?_
                                            rotate_left
                                            · show Act.put _ (some 72) _ = _
                                              simp only [Act.put, List.setIfInBounds_toArray, List.set_cons_zero, List.set_cons_succ, i64_w, i32_w]
                                              rfl
                                            exact norm_ (by simp only [putAll, Act.put, List.setIfInBounds_toArray, List.set_cons_zero, List.set_cons_succ]) (hCont (v177, v181, v184) _ ⟨(by (with_reducible repeat (first | apply Kd.R_alloc | apply Kd.R_drewN | apply Kd.R_drew)); exact Kd.R_mono HO168.out (fun _ hk => hk.2)), (by (with_reducible repeat (first | apply Kd.R_alloc | apply Kd.R_drewN | apply Kd.R_drew)); exact HO175.out), (by (with_reducible repeat (first | apply Kd.R_alloc | apply Kd.R_drewN | apply Kd.R_drew)); exact Kd.R_mono HO182.out (fun _ hk => hk.2)), (by (with_reducible repeat (first | apply Kd.R_alloc | apply Kd.R_drewN | apply Kd.R_drew)); exact Kd.R_mono HO185.out (fun _ hk => hk.2)), (by repeat (first | (with_reducible first | exact HB.out | apply below_alloc | apply pw_below_drewN | apply below_drew1) | exact HB.out))⟩)
                                          · skip
                                            refine Kd.R_lit_step Kd.bool _ 4 ?hg (N := 72) ?hd (xs := ([a2] : List Bool)) (inner := [.bool a2]) (ok := fun _ => True) (okp := fun _ => True) ?hr ?hp (fun _ hk => hk) trivial (Below.refl _ _) (Nat.le_refl _) (by simp) ?_; (case hd => rfl); (case hg => rfl); (case hr => first | (go_simp; done) | (go_simp; rfl)); (case hp => exact (Reps.one (show Kd.M Kd.bool _ _ _ a2 [.bool a2] from rfl) (Reps.none _ _)))
                                            intro v184 w58 ho59 hb hg_ hnew_
                                            clear hg_ hnew_
                                            (first | rw [← Ny183.out] at ho59 | (simp only [Int.reduceToNat] at ho59; rw [← Ny183.out] at ho59))
                                            have n0_ := Aside0.mk (Kd.R_below (by (with_reducible repeat (first | apply Kd.R_alloc | apply Kd.R_drewN | apply Kd.R_drew)); exact HO168.out) hb)
                                            have n1_ := Aside0.mk (Kd.R_below (by (with_reducible repeat (first | apply Kd.R_alloc | apply Kd.R_drewN | apply Kd.R_drew)); exact HO175.out) hb)
                                            have n2_ := Aside0.mk (Kd.R_elder' (by (with_reducible repeat (first | apply Kd.R_alloc | apply Kd.R_drewN | apply Kd.R_drew)); exact HO178.out) (Kd.R_base ho59) hb)
                                            have n3_ := Aside0.mk (Kd.R_lower (Kd.R_new' ho59 (Kd.R_lt (by (with_reducible repeat (first | apply Kd.R_alloc | apply Kd.R_drewN | apply Kd.R_drew)); exact HO178.out))) (below_size (by repeat (first | (with_reducible first | exact HB.out | apply below_alloc | apply pw_below_drewN | apply below_drew1) | exact HB.out))))
                                            have n4_ := Aside0.mk (below_step (by repeat (first | (with_reducible first | exact HB.out | apply below_alloc | apply pw_below_drewN | apply below_drew1) | exact HB.out)) hb)
                                            clear HO168
                                            clear HO175
                                            clear HO178
                                            clear HB
                                            have HO168 := n0_
                                            have HO175 := n1_
                                            have HO178 := n2_
                                            have HO185 := n3_
                                            have HB := n4_
                                            clear n0_ n1_ n2_ n3_ n4_
                                            clear hb ho59
                                            refine hK.out _ _ trivial (fun hHeld => ?_)
                                            clear hK K
                                            refine norm_ (a' := ?_) ?_ ?_
                                            rotate_left
                                            · show Act.put _ (some 72) _ = _
                                              simp only [Act.put, List.setIfInBounds_toArray, List.set_cons_zero, List.set_cons_succ, i64_w, i32_w]
                                              rfl
                                            refine one_ (i := 4) (N := some 70) #[true, true, true, true, true, true, true, false, true, true, true, false, false] rfl rfl (one_of HT_.out (by kernel_rfl)) (by decide) (fun K hK => ?_)
                                            refine Kd.R_append_rows_step Kd.bool (w0 := w) w.heap.size (by rfl) (.tmp 66) (.tmp 69) 40 4 (.bool false) 1 rfl Try.underlying40 info4 rfl (by decide) (by omega) v177 y176 (l4.take ((ji18) : Int).toNat) _ _ _ (fun k_ => some k_ ≠ (v184 : Value).ownBlock) (fun _ => False) rfl rfl ?aO ?aR (fun _ _ h => h) (fun _ h => h.elim) ?aF ?aB ?aS ?aL ?_
                                            (case aR => first | (refine cutlen_ (show (l4.take ((ji18) : Int).toNat).length = (ji18).toNat from (by rw [List.length_take]; have h_ : ((ji18) : Int) ≤ (l4.length : Int) := of_decide_eq_true (by first | (with_reducible assumption) | assumption); omega)) ?_; repeat (first | exact (Kd.C_below HR179.out HB.out) | (with_reducible refine Kd.C_alloc ?_ _) | (with_reducible refine Kd.C_drewN ?_ _) | (with_reducible refine Kd.C_drew ?_)); done) | (rw [← show (l4.take ((ji18) : Int).toNat).length = (ji18).toNat from (by rw [List.length_take]; have h_ : ((ji18) : Int) ≤ (l4.length : Int) := of_decide_eq_true (by first | (with_reducible assumption) | assumption); omega)]; repeat (first | exact (Kd.C_below HR179.out HB.out) | (with_reducible refine Kd.C_alloc ?_ _) | (with_reducible refine Kd.C_drewN ?_ _) | (with_reducible refine Kd.C_drew ?_))) | (repeat (first | exact (Kd.C_below HR179.out HB.out) | (with_reducible refine Kd.C_alloc ?_ _) | (with_reducible refine Kd.C_drewN ?_ _) | (with_reducible refine Kd.C_drew ?_))))
                                            (case aB => exact (by repeat (first | (with_reducible first | exact HB.out | apply below_alloc | apply pw_below_drewN | apply below_drew1) | exact HB.out)))
                                            (case aF => exact (fun k_ hk => Kd.fresh' (Kd.R_lt (by (with_reducible repeat (first | apply Kd.R_alloc | apply Kd.R_drewN | apply Kd.R_drew)); exact HO185.out)) k_ hk))
                                            (case aO => exact (by (with_reducible repeat (first | apply Kd.R_alloc | apply Kd.R_drewN | apply Kd.R_drew)); exact Kd.R_mono HO178.out (fun _ hk => hk.2)))
                                            (case aS => exact (below_size (by repeat (first | (with_reducible first | exact HB.out | apply below_alloc | apply pw_below_drewN | apply below_drew1) | exact HB.out))))
                                            (case aL => have := LMc28.out; have hlx_ := (show (l4.take ((ji18) : Int).toNat).length = (ji18).toNat from (by rw [List.length_take]; have h_ : ((ji18) : Int) ≤ (l4.length : Int) := of_decide_eq_true (by first | (with_reducible assumption) | assumption); omega)); omega)
                                            intro v181 w60 ho hb hg hat
                                            rw [← Ny180.out] at ho
                                            have n0_ := Aside0.mk (Kd.R_over' (by (with_reducible repeat (first | apply Kd.R_alloc | apply Kd.R_drewN | apply Kd.R_drew)); exact HO168.out) (Kd.R_typed (by (with_reducible repeat (first | apply Kd.R_alloc | apply Kd.R_drewN | apply Kd.R_drew)); exact HO178.out)) (by decide) hg)
                                            have n1_ := Aside0.mk (Kd.R_over' (by (with_reducible repeat (first | apply Kd.R_alloc | apply Kd.R_drewN | apply Kd.R_drew)); exact HO175.out) (Kd.R_typed (by (with_reducible repeat (first | apply Kd.R_alloc | apply Kd.R_drewN | apply Kd.R_drew)); exact HO178.out)) (by decide) hg)
                                            have n2_ := Aside0.mk (Kd.R_after (ok := (fun _ => True)) (by (with_reducible repeat (first | apply Kd.R_alloc | apply Kd.R_drewN | apply Kd.R_drew)); exact HO185.out) hg hat)
                                            have n3_ := Aside0.mk (hb)
                                            have n4_ := Aside0.mk (ho)
                                            clear HO168
                                            clear HO175
                                            clear HO185
                                            clear HB
                                            clear HO178
                                            have HO168 := n0_
                                            have HO175 := n1_
                                            have HO185 := n2_
                                            have HB := n3_
                                            have HO182 := n4_
                                            clear n0_ n1_ n2_ n3_ n4_
                                            clear ho hb hg hat
                                            refine hK.out _ _ trivial (fun hHeld => ?_)
                                            clear hK K
                                            refine norm_ (a' := ?_) ?_ ?_
                                            rotate_left
                                            · show Act.put _ (some 70) _ = _
                                              simp only [Act.put, List.setIfInBounds_toArray, List.set_cons_zero, List.set_cons_succ, i64_w, i32_w]
                                              rfl
                                            exact norm_ (by simp only [putAll, Act.put, List.setIfInBounds_toArray, List.set_cons_zero, List.set_cons_succ]) (hCont (v177, v181, v184) _ ⟨(by (with_reducible repeat (first | apply Kd.R_alloc | apply Kd.R_drewN | apply Kd.R_drew)); exact Kd.R_mono HO168.out (fun _ hk => hk.2)), (by (with_reducible repeat (first | apply Kd.R_alloc | apply Kd.R_drewN | apply Kd.R_drew)); exact HO175.out), (by (with_reducible repeat (first | apply Kd.R_alloc | apply Kd.R_drewN | apply Kd.R_drew)); exact HO182.out), (by (with_reducible repeat (first | apply Kd.R_alloc | apply Kd.R_drewN | apply Kd.R_drew)); exact Kd.R_mono HO185.out (fun _ hk => hk.2)), (by repeat (first | (with_reducible first | exact HB.out | apply below_alloc | apply pw_below_drewN | apply below_drew1) | exact HB.out))⟩)
                                        · skip
                                          refine Kd.R_lit_step Kd.bool _ 4 ?hg (N := 72) ?hd (xs := ([a2] : List Bool)) (inner := [.bool a2]) (ok := fun _ => True) (okp := fun _ => True) ?hr ?hp (fun _ hk => hk) trivial (Below.refl _ _) (Nat.le_refl _) (by simp) ?_; (case hd => rfl); (case hg => rfl); (case hr => first | (go_simp; done) | (go_simp; rfl)); (case hp => exact (Reps.one (show Kd.M Kd.bool _ _ _ a2 [.bool a2] from rfl) (Reps.none _ _)))
                                          intro v184 w56 ho57 hb hg_ hnew_
                                          clear hg_ hnew_
                                          (first | rw [← Ny183.out] at ho57 | (simp only [Int.reduceToNat] at ho57; rw [← Ny183.out] at ho57))
                                          have n0_ := Aside0.mk (Kd.R_below (by (with_reducible repeat (first | apply Kd.R_alloc | apply Kd.R_drewN | apply Kd.R_drew)); exact HO168.out) hb)
                                          have n1_ := Aside0.mk (Kd.R_below (by (with_reducible repeat (first | apply Kd.R_alloc | apply Kd.R_drewN | apply Kd.R_drew)); exact HO175.out) hb)
                                          have n2_ := Aside0.mk (Kd.R_lower ho57 (below_size (by repeat (first | (with_reducible first | exact HB.out | apply below_alloc | apply pw_below_drewN | apply below_drew1) | exact HB.out))))
                                          have n3_ := Aside0.mk (below_step (by repeat (first | (with_reducible first | exact HB.out | apply below_alloc | apply pw_below_drewN | apply below_drew1) | exact HB.out)) hb)
                                          clear HO168
                                          clear HO175
                                          clear HB
                                          have HO168 := n0_
                                          have HO175 := n1_
                                          have HO185 := n2_
                                          have HB := n3_
                                          clear n0_ n1_ n2_ n3_
                                          clear hb ho57
                                          refine hK.out _ _ trivial (fun hHeld => ?_)
                                          clear hK K
                                          refine norm_ (a' := ?_) ?_ ?_
                                          rotate_left
                                          · show Act.put _ (some 72) _ = _
                                            simp only [Act.put, List.setIfInBounds_toArray, List.set_cons_zero, List.set_cons_succ, i64_w, i32_w]
                                            rfl
                                          refine one_ (i := 0) (N := some 66) #[true, true, true, true, false, true, true, false, true, true, true, false, false] rfl rfl (one_of HT_.out (by kernel_rfl)) (by decide) (fun K hK => ?_)
                                          refine Kd.R_lit_step Kd.bool _ 4 ?hg (N := 66) ?hd (xs := ([] : List Bool)) (inner := []) (ok := fun _ => True) (okp := fun _ => True) ?hr ?hp (fun _ hk => hk) trivial (Below.refl _ _) (Nat.le_refl _) (by simp) ?_; (case hd => rfl); (case hg => rfl); (case hr => first | (go_simp; done) | (go_simp; rfl)); (case hp => exact (Reps.none _ _))
                                          intro v177 w58 ho59 hb hg_ hnew_
                                          clear hg_ hnew_
                                          (first | rw [← Ny176.out] at ho59 | (simp only [Int.reduceToNat] at ho59; rw [← Ny176.out] at ho59))
                                          have n0_ := Aside0.mk (Kd.R_below (by (with_reducible repeat (first | apply Kd.R_alloc | apply Kd.R_drewN | apply Kd.R_drew)); exact HO168.out) hb)
                                          have n1_ := Aside0.mk (Kd.R_below (by (with_reducible repeat (first | apply Kd.R_alloc | apply Kd.R_drewN | apply Kd.R_drew)); exact HO175.out) hb)
                                          have n2_ := Aside0.mk (Kd.R_elder' (by (with_reducible repeat (first | apply Kd.R_alloc | apply Kd.R_drewN | apply Kd.R_drew)); exact HO185.out) (Kd.R_base ho59) hb)
                                          have n3_ := Aside0.mk (Kd.R_lower (Kd.R_new' ho59 (Kd.R_lt (by (with_reducible repeat (first | apply Kd.R_alloc | apply Kd.R_drewN | apply Kd.R_drew)); exact HO185.out))) (below_size (by repeat (first | (with_reducible first | exact HB.out | apply below_alloc | apply pw_below_drewN | apply below_drew1) | exact HB.out))))
                                          have n4_ := Aside0.mk (below_step (by repeat (first | (with_reducible first | exact HB.out | apply below_alloc | apply pw_below_drewN | apply below_drew1) | exact HB.out)) hb)
                                          clear HO168
                                          clear HO175
                                          clear HO185
                                          clear HB
                                          have HO168 := n0_
                                          have HO175 := n1_
                                          have HO185 := n2_
                                          have HO178 := n3_
                                          have HB := n4_
                                          clear n0_ n1_ n2_ n3_ n4_
                                          clear hb ho59
                                          refine hK.out _ _ trivial (fun hHeld => ?_)
                                          clear hK K
                                          refine norm_ (a' := ?_) ?_ ?_
                                          rotate_left
                                          · show Act.put _ (some 66) _ = _
                                            simp only [Act.put, List.setIfInBounds_toArray, List.set_cons_zero, List.set_cons_succ, i64_w, i32_w]
                                            rfl
                                          refine one_ (i := 4) (N := some 70) #[true, true, true, true, true, true, true, false, true, true, true, false, false] rfl rfl (one_of HT_.out (by kernel_rfl)) (by decide) (fun K hK => ?_)
                                          refine Kd.R_append_rows_step Kd.bool (w0 := w) w.heap.size (by rfl) (.tmp 66) (.tmp 69) 40 4 (.bool false) 1 rfl Try.underlying40 info4 rfl (by decide) (by omega) v177 y176 (l4.take ((ji18) : Int).toNat) _ _ _ (fun k_ => some k_ ≠ (v184 : Value).ownBlock) (fun _ => False) rfl rfl ?aO ?aR (fun _ _ h => h) (fun _ h => h.elim) ?aF ?aB ?aS ?aL ?_
                                          (case aR => first | (refine cutlen_ (show (l4.take ((ji18) : Int).toNat).length = (ji18).toNat from (by rw [List.length_take]; have h_ : ((ji18) : Int) ≤ (l4.length : Int) := of_decide_eq_true (by first | (with_reducible assumption) | assumption); omega)) ?_; repeat (first | exact (Kd.C_below HR179.out HB.out) | (with_reducible refine Kd.C_alloc ?_ _) | (with_reducible refine Kd.C_drewN ?_ _) | (with_reducible refine Kd.C_drew ?_)); done) | (rw [← show (l4.take ((ji18) : Int).toNat).length = (ji18).toNat from (by rw [List.length_take]; have h_ : ((ji18) : Int) ≤ (l4.length : Int) := of_decide_eq_true (by first | (with_reducible assumption) | assumption); omega)]; repeat (first | exact (Kd.C_below HR179.out HB.out) | (with_reducible refine Kd.C_alloc ?_ _) | (with_reducible refine Kd.C_drewN ?_ _) | (with_reducible refine Kd.C_drew ?_))) | (repeat (first | exact (Kd.C_below HR179.out HB.out) | (with_reducible refine Kd.C_alloc ?_ _) | (with_reducible refine Kd.C_drewN ?_ _) | (with_reducible refine Kd.C_drew ?_))))
                                          (case aB => exact (by repeat (first | (with_reducible first | exact HB.out | apply below_alloc | apply pw_below_drewN | apply below_drew1) | exact HB.out)))
                                          (case aF => exact (fun k_ hk => Kd.fresh' (Kd.R_lt (by (with_reducible repeat (first | apply Kd.R_alloc | apply Kd.R_drewN | apply Kd.R_drew)); exact HO185.out)) k_ hk))
                                          (case aO => exact (by (with_reducible repeat (first | apply Kd.R_alloc | apply Kd.R_drewN | apply Kd.R_drew)); exact Kd.R_mono HO178.out (fun _ hk => hk.2)))
                                          (case aS => exact (below_size (by repeat (first | (with_reducible first | exact HB.out | apply below_alloc | apply pw_below_drewN | apply below_drew1) | exact HB.out))))
                                          (case aL => have := LMc28.out; have hlx_ := (show (l4.take ((ji18) : Int).toNat).length = (ji18).toNat from (by rw [List.length_take]; have h_ : ((ji18) : Int) ≤ (l4.length : Int) := of_decide_eq_true (by first | (with_reducible assumption) | assumption); omega)); omega)
                                          intro v181 w60 ho hb hg hat
                                          rw [← Ny180.out] at ho
                                          have n0_ := Aside0.mk (Kd.R_over' (by (with_reducible repeat (first | apply Kd.R_alloc | apply Kd.R_drewN | apply Kd.R_drew)); exact HO168.out) (Kd.R_typed (by (with_reducible repeat (first | apply Kd.R_alloc | apply Kd.R_drewN | apply Kd.R_drew)); exact HO178.out)) (by decide) hg)
                                          have n1_ := Aside0.mk (Kd.R_over' (by (with_reducible repeat (first | apply Kd.R_alloc | apply Kd.R_drewN | apply Kd.R_drew)); exact HO175.out) (Kd.R_typed (by (with_reducible repeat (first | apply Kd.R_alloc | apply Kd.R_drewN | apply Kd.R_drew)); exact HO178.out)) (by decide) hg)
                                          have n2_ := Aside0.mk (Kd.R_after (ok := (fun _ => True)) (by (with_reducible repeat (first | apply Kd.R_alloc | apply Kd.R_drewN | apply Kd.R_drew)); exact HO185.out) hg hat)
                                          have n3_ := Aside0.mk (hb)
                                          have n4_ := Aside0.mk (ho)
                                          clear HO168
                                          clear HO175
                                          clear HO185
                                          clear HB
                                          clear HO178
                                          have HO168 := n0_
                                          have HO175 := n1_
                                          have HO185 := n2_
                                          have HB := n3_
                                          have HO182 := n4_
                                          clear n0_ n1_ n2_ n3_ n4_
                                          clear ho hb hg hat
                                          refine hK.out _ _ trivial (fun hHeld => ?_)
                                          clear hK K
                                          refine norm_ (a' := ?_) ?_ ?_
                                          rotate_left
                                          · show Act.put _ (some 70) _ = _
                                            simp only [Act.put, List.setIfInBounds_toArray, List.set_cons_zero, List.set_cons_succ, i64_w, i32_w]
                                            rfl
                                          exact norm_ (by simp only [putAll, Act.put, List.setIfInBounds_toArray, List.set_cons_zero, List.set_cons_succ]) (hCont (v177, v181, v184) _ ⟨(by (with_reducible repeat (first | apply Kd.R_alloc | apply Kd.R_drewN | apply Kd.R_drew)); exact Kd.R_mono HO168.out (fun _ hk => hk.2)), (by (with_reducible repeat (first | apply Kd.R_alloc | apply Kd.R_drewN | apply Kd.R_drew)); exact HO175.out), (by (with_reducible repeat (first | apply Kd.R_alloc | apply Kd.R_drewN | apply Kd.R_drew)); exact HO182.out), (by (with_reducible repeat (first | apply Kd.R_alloc | apply Kd.R_drewN | apply Kd.R_drew)); exact Kd.R_mono HO185.out (fun _ hk => hk.2)), (by repeat (first | (with_reducible first | exact HB.out | apply below_alloc | apply pw_below_drewN | apply below_drew1) | exact HB.out))⟩)
                                      rintro ⟨v177, v181, v184⟩ w61 ⟨h0_, h1_, h2_, h3_, h4_⟩
                                      have n0_ : Aside0 (Kd.R (Kd.int .i64) 3 w61 w.heap.size (fun k_ => some k_ ≠ (v174 : Value).ownBlock) (.slice Ao51 y166.length co51) y166) := ⟨h0_⟩
                                      have n1_ : Aside0 (Kd.R (Kd.int .i64) 3 w61 w.heap.size (fun k_ => some k_ ≠ (.slice Ao51 y166.length co51 : Value).ownBlock) v174 y173) := ⟨h1_⟩
                                      have n2_ : Aside0 (Kd.R Kd.bool 4 w61 w.heap.size (fun k_ => some k_ ≠ (v184 : Value).ownBlock) v181 y180) := ⟨h2_⟩
                                      have n3_ : Aside0 (Kd.R Kd.bool 4 w61 w.heap.size (fun k_ => some k_ ≠ (v181 : Value).ownBlock) v184 y183) := ⟨h3_⟩
                                      have n4_ : Aside0 (Below w.heap.size w w61) := ⟨h4_⟩
                                      clear HO168
                                      clear HO175
                                      clear HB
                                      clear h0_ h1_ h2_ h3_ h4_
                                      have HO168 := n0_
                                      have HO175 := n1_
                                      have HO182 := n2_
                                      have HO185 := n3_
                                      have HB := n4_
                                      clear n0_ n1_ n2_ n3_ n4_
                                      have hHeld := trivial
                                      obtain ⟨Ao63, co63, eo63⟩ := Kd.R_slice HO185.out
                                      (first | subst eo63 | (injection eo63 with f1_ f2_ f3_; have f4_ := f1_.symm; have f5_ := f3_.symm; clear f1_ f2_ f3_; subst f4_; subst f5_))
                                      refine norm_ (a' := ?_) ?_ ?_
                                      rotate_left
                                      · simp only [putAll, Act.put, List.setIfInBounds_toArray, List.set_cons_zero, List.set_cons_succ]
                                        rfl
                                      refine one_ (i := 7) (N := some 73) #[true, true, true, true, true, true, true, true, true, true, true, false, false] rfl rfl (one_of HT_.out (by kernel_rfl)) (by decide) (fun K hK => ?_)
                                      refine Kd.R_append_rows_step Kd.bool (w0 := w) w.heap.size (by rfl) (.tmp 70) (.tmp 72) 40 4 (.bool false) 1 rfl Try.underlying40 info4 rfl (by decide) (by omega) v181 y180 y183 _ _ _ (fun k_ => some k_ ≠ (.slice Ao63 y183.length co63 : Value).ownBlock) (fun _ => False) rfl rfl ?aO ?aR (fun _ _ h => h) (fun _ h => h.elim) ?aF ?aB ?aS ?aL ?_
                                      (case aR => repeat (first | exact (Kd.R_reads' HO185.out).2.2 | (with_reducible refine Kd.C_alloc ?_ _) | (with_reducible refine Kd.C_drewN ?_ _) | (with_reducible refine Kd.C_drew ?_)))
                                      (case aB => exact (by repeat (first | (with_reducible first | exact HB.out | apply below_alloc | apply pw_below_drewN | apply below_drew1) | exact HB.out)))
                                      (case aF => exact (fun k_ hk => Kd.fresh' (Kd.R_lt (by (with_reducible repeat (first | apply Kd.R_alloc | apply Kd.R_drewN | apply Kd.R_drew)); exact HO185.out)) k_ hk))
                                      (case aO => exact (by (with_reducible repeat (first | apply Kd.R_alloc | apply Kd.R_drewN | apply Kd.R_drew)); exact HO182.out))
                                      (case aS => exact (below_size (by repeat (first | (with_reducible first | exact HB.out | apply below_alloc | apply pw_below_drewN | apply below_drew1) | exact HB.out))))
                                      (case aL => have := LMc29.out; omega)
                                      intro v187 w62 ho hb hg hat
                                      rw [← Ny186.out] at ho
                                      have n0_ := Aside0.mk (Kd.R_over' (by (with_reducible repeat (first | apply Kd.R_alloc | apply Kd.R_drewN | apply Kd.R_drew)); exact HO168.out) (Kd.R_typed (by (with_reducible repeat (first | apply Kd.R_alloc | apply Kd.R_drewN | apply Kd.R_drew)); exact HO182.out)) (by decide) hg)
                                      have n1_ := Aside0.mk (Kd.R_over' (by (with_reducible repeat (first | apply Kd.R_alloc | apply Kd.R_drewN | apply Kd.R_drew)); exact HO175.out) (Kd.R_typed (by (with_reducible repeat (first | apply Kd.R_alloc | apply Kd.R_drewN | apply Kd.R_drew)); exact HO182.out)) (by decide) hg)
                                      have n2_ := Aside0.mk (Kd.R_after (ok := (fun _ => True)) (by (with_reducible repeat (first | apply Kd.R_alloc | apply Kd.R_drewN | apply Kd.R_drew)); exact Kd.R_mono HO185.out (fun _ hk => ⟨trivial, hk⟩)) hg hat)
                                      have n3_ := Aside0.mk (hb)
                                      have n4_ := Aside0.mk (ho)
                                      clear HO168
                                      clear HO175
                                      clear HO185
                                      clear HB
                                      clear HO182
                                      have HO168 := n0_
                                      have HO175 := n1_
                                      have HO185 := n2_
                                      have HB := n3_
                                      have HO188 := n4_
                                      clear n0_ n1_ n2_ n3_ n4_
                                      clear ho hb hg hat
                                      refine hK.out _ _ trivial (fun hHeld => ?_)
                                      clear hK K
                                      refine norm_ (a' := ?_) ?_ ?_
                                      rotate_left
                                      · show Act.put _ (some 73) _ = _
                                        simp only [Act.put, List.setIfInBounds_toArray, List.set_cons_zero, List.set_cons_succ, i64_w, i32_w]
                                        rfl
                                      refine one_ (i := 11) (N := some 77) #[true, true, true, true, true, true, true, true, true, true, true, true, false] rfl rfl (one_of HT_.out (by kernel_rfl)) (by decide) (fun K hK => ?_)
                                      refine Kd.R_append_rows_step Kd.bool (w0 := w) w.heap.size (by rfl) (.tmp 73) (.tmp 76) 40 4 (.bool false) 1 rfl Try.underlying40 info4 rfl (by decide) (by omega) v187 y186 (l4.drop ((ji18) : Int).toNat) _ _ _ (fun k_ => some k_ ≠ (.slice Ao63 y183.length co63 : Value).ownBlock) (fun _ => False) rfl rfl ?aO ?aR (fun _ _ h => h) (fun _ h => h.elim) ?aF ?aB ?aS ?aL ?_
                                      (case aR => first | (refine cutlen_ (show (l4.drop ((ji18) : Int).toNat).length = (l4.length - (ji18).toNat) from List.length_drop) ?_; repeat (first | exact (Kd.C_below HR189.out HB.out) | (with_reducible refine Kd.C_alloc ?_ _) | (with_reducible refine Kd.C_drewN ?_ _) | (with_reducible refine Kd.C_drew ?_)); done) | (rw [← show (l4.drop ((ji18) : Int).toNat).length = (l4.length - (ji18).toNat) from List.length_drop]; repeat (first | exact (Kd.C_below HR189.out HB.out) | (with_reducible refine Kd.C_alloc ?_ _) | (with_reducible refine Kd.C_drewN ?_ _) | (with_reducible refine Kd.C_drew ?_))) | (repeat (first | exact (Kd.C_below HR189.out HB.out) | (with_reducible refine Kd.C_alloc ?_ _) | (with_reducible refine Kd.C_drewN ?_ _) | (with_reducible refine Kd.C_drew ?_))))
                                      (case aB => exact (by repeat (first | (with_reducible first | exact HB.out | apply below_alloc | apply pw_below_drewN | apply below_drew1) | exact HB.out)))
                                      (case aF => exact (fun k_ hk => Kd.fresh' (Kd.R_lt (by (with_reducible repeat (first | apply Kd.R_alloc | apply Kd.R_drewN | apply Kd.R_drew)); exact HO185.out)) k_ hk))
                                      (case aO => exact (by (with_reducible repeat (first | apply Kd.R_alloc | apply Kd.R_drewN | apply Kd.R_drew)); exact HO188.out))
                                      (case aS => exact (below_size (by repeat (first | (with_reducible first | exact HB.out | apply below_alloc | apply pw_below_drewN | apply below_drew1) | exact HB.out))))
                                      (case aL => have := LMc32.out; have hlx_ := (show (l4.drop ((ji18) : Int).toNat).length = (l4.length - (ji18).toNat) from List.length_drop); omega)
                                      intro v191 w64 ho hb hg hat
                                      rw [← Ny190.out] at ho
                                      have n0_ := Aside0.mk (Kd.R_over' (by (with_reducible repeat (first | apply Kd.R_alloc | apply Kd.R_drewN | apply Kd.R_drew)); exact HO168.out) (Kd.R_typed (by (with_reducible repeat (first | apply Kd.R_alloc | apply Kd.R_drewN | apply Kd.R_drew)); exact HO188.out)) (by decide) hg)
                                      have n1_ := Aside0.mk (Kd.R_over' (by (with_reducible repeat (first | apply Kd.R_alloc | apply Kd.R_drewN | apply Kd.R_drew)); exact HO175.out) (Kd.R_typed (by (with_reducible repeat (first | apply Kd.R_alloc | apply Kd.R_drewN | apply Kd.R_drew)); exact HO188.out)) (by decide) hg)
                                      have n2_ := Aside0.mk (Kd.R_after (ok := (fun _ => True)) (by (with_reducible repeat (first | apply Kd.R_alloc | apply Kd.R_drewN | apply Kd.R_drew)); exact HO185.out) hg hat)
                                      have n3_ := Aside0.mk (hb)
                                      have n4_ := Aside0.mk (ho)
                                      clear HO168
                                      clear HO175
                                      clear HO185
                                      clear HB
                                      clear HO188
                                      have HO168 := n0_
                                      have HO175 := n1_
                                      have HO185 := n2_
                                      have HB := n3_
                                      have HO192 := n4_
                                      clear n0_ n1_ n2_ n3_ n4_
                                      clear ho hb hg hat
                                      refine hK.out _ _ trivial (fun hHeld => ?_)
                                      clear hK K
                                      refine norm_ (a' := ?_) ?_ ?_
                                      rotate_left
                                      · show Act.put _ (some 77) _ = _
                                        simp only [Act.put, List.setIfInBounds_toArray, List.set_cons_zero, List.set_cons_succ, i64_w, i32_w]
                                        rfl
                                      refine pure_ (i := 12) (N := some 14) (v := ?_) (a' := ?_) #[true, true, true, true, true, true, true, true, true, true, true, true, true] rfl rfl (any_of HT_.out (by kernel_rfl)) (fun _ _ _ h => h) (Or.inl ⟨by rfl, ?_⟩) ?_ ?_
                                      rotate_left
                                      · intro w'
                                        go_simp
                                        with_reducible rfl
                                      rotate_left
                                      · simp only [Act.put, List.setIfInBounds_toArray, List.set_cons_zero, List.set_cons_succ, i64_w, i32_w]
                                        rfl
                                      refine done_ (done_of HT_.out (by kernel_rfl)) ?_
                                      by_cases c37 : t196 = true
                                      · subst c37
                                        have H1 : (if t200 = true then (if ((t194 == 0) == (t198 == 0)) = true then ((laws_awakeMerge.f kj15).bind fun t201 => (some t201)) else (some false)) else (some false)) = some r := by rw [if_pos rfl] at H; exact H
                                        clear H
                                        have H := H1
                                        clear H1
                                        by_cases c38 : t200 = true
                                        · subst c38
                                          have H1 : (if ((t194 == 0) == (t198 == 0)) = true then ((laws_awakeMerge.f kj15).bind fun t201 => (some t201)) else (some false)) = some r := by rw [if_pos rfl] at H; exact H
                                          clear H
                                          have H := H1
                                          clear H1
                                          by_cases c39 : ((t194 == 0) == (t198 == 0)) = true
                                          · rw [if_pos c39] at H
                                            have c39b0 : ((t194 == 0) == (t198 == 0)) = true := c39
                                            (try (have c39b1 : decide ((t194 == 0) = (t198 == 0)) = true := by simpa using c39))
                                            (try (have c39b2 : ((t194 == 0) == (t198 == 0)) = true := by simpa using c39))
                                            clear c39
                                            replace H := Option.bind_eq_some_iff.mp H
                                            obtain ⟨t201, A400, H⟩ := H
                                            replace H : (some t201) = some r := H
                                            have A40 := Aside0.mk A400
                                            clear A400
                                            obtain rfl := Option.some.inj H
                                            try go_wp2_with (first | ((with_reducible refine gate_callee (f := 31) rfl ?_); refine goesL_ (some 80) rfl rfl Try.func31 (by kernel_rfl) rfl #[.int .i64 a0] rfl (by (try simp only [List.map_toArray, List.map_cons, List.map_nil]); first | done | rfl | (simp only [List.length_drop, List.length_take]; rfl)) ?_; (with_reducible refine (laws_expression.calls a0 t193 _ A33.out).mono ?_); rintro e w65 ⟨rfl, hb⟩; refine ⟨_, rfl, ?_⟩; have n0_ := Aside0.mk (Kd.R_below (by (with_reducible repeat (first | apply Kd.R_alloc | apply Kd.R_drewN | apply Kd.R_drew)); exact HO168.out) hb); have n1_ := Aside0.mk (Kd.R_below (by (with_reducible repeat (first | apply Kd.R_alloc | apply Kd.R_drewN | apply Kd.R_drew)); exact HO175.out) hb); have n2_ := Aside0.mk (Kd.R_below (by (with_reducible repeat (first | apply Kd.R_alloc | apply Kd.R_drewN | apply Kd.R_drew)); exact HO185.out) hb); have n3_ := Aside0.mk (Kd.R_below (by (with_reducible repeat (first | apply Kd.R_alloc | apply Kd.R_drewN | apply Kd.R_drew)); exact HO192.out) hb); have n4_ := Aside0.mk (below_step (by repeat (first | (with_reducible first | exact HB.out | apply below_alloc | apply pw_below_drewN | apply below_drew1) | exact HB.out)) hb); clear HO168; clear HO175; clear HO185; clear HO192; clear HB; have HO168 := n0_; have HO175 := n1_; have HO185 := n2_; have HO192 := n3_; have HB := n4_; clear n0_ n1_ n2_ n3_ n4_; (try clear hb); (try clear hb2); (try clear hk); (try clear hi)) | ((with_reducible refine gate_callee (f := 32) rfl ?_); refine goesL_ (some 83) rfl rfl Try.func32 (by kernel_rfl) rfl #[.string t193, .slice A3 l3.length c3, .slice A4 l4.length c4] rfl (by (try simp only [List.map_toArray, List.map_cons, List.map_nil]); first | done | rfl | (simp only [List.length_drop, List.length_take]; rfl)) ?_; (with_reducible refine (laws_merged.calls kj15 t193 _ _ l3 _ _ l4 t194 t195 true _ ?side1 ?side2 ?side3 ?side4 A34.out).mono ?_); (case side1 => repeat (first | exact (Kd.C_below HR3.out HB.out) | (with_reducible refine Kd.C_alloc ?_ _) | (with_reducible refine Kd.C_drewN ?_ _) | (with_reducible refine Kd.C_drew ?_))); (case side2 => exact HC3.out); (case side3 => repeat (first | exact (Kd.C_below HR4.out HB.out) | (with_reducible refine Kd.C_alloc ?_ _) | (with_reducible refine Kd.C_drewN ?_ _) | (with_reducible refine Kd.C_drew ?_))); (case side4 => exact HC4.out); rintro e w66 ⟨rfl, hb⟩; refine ⟨_, rfl, ?_⟩; have n0_ := Aside0.mk (Kd.R_below (by (with_reducible repeat (first | apply Kd.R_alloc | apply Kd.R_drewN | apply Kd.R_drew)); exact HO168.out) hb); have n1_ := Aside0.mk (Kd.R_below (by (with_reducible repeat (first | apply Kd.R_alloc | apply Kd.R_drewN | apply Kd.R_drew)); exact HO175.out) hb); have n2_ := Aside0.mk (Kd.R_below (by (with_reducible repeat (first | apply Kd.R_alloc | apply Kd.R_drewN | apply Kd.R_drew)); exact HO185.out) hb); have n3_ := Aside0.mk (Kd.R_below (by (with_reducible repeat (first | apply Kd.R_alloc | apply Kd.R_drewN | apply Kd.R_drew)); exact HO192.out) hb); have n4_ := Aside0.mk (below_step (by repeat (first | (with_reducible first | exact HB.out | apply below_alloc | apply pw_below_drewN | apply below_drew1) | exact HB.out)) hb); clear HO168; clear HO175; clear HO185; clear HO192; clear HB; have HO168 := n0_; have HO175 := n1_; have HO185 := n2_; have HO192 := n3_; have HB := n4_; clear n0_ n1_ n2_ n3_ n4_; (try clear hb); (try clear hb2); (try clear hk); (try clear hi)) | ((with_reducible refine gate_callee (f := 31) rfl ?_); refine goesL_ (some 89) rfl rfl Try.func31 (by kernel_rfl) rfl #[.int .i64 a0] rfl (by (try simp only [List.map_toArray, List.map_cons, List.map_nil]); first | done | rfl | (simp only [List.length_drop, List.length_take]; rfl)) ?_; (with_reducible refine (laws_expression.calls a0 t197 _ A35.out).mono ?_); rintro e w67 ⟨rfl, hb⟩; refine ⟨_, rfl, ?_⟩; have n0_ := Aside0.mk (Kd.R_below (by (with_reducible repeat (first | apply Kd.R_alloc | apply Kd.R_drewN | apply Kd.R_drew)); exact HO168.out) hb); have n1_ := Aside0.mk (Kd.R_below (by (with_reducible repeat (first | apply Kd.R_alloc | apply Kd.R_drewN | apply Kd.R_drew)); exact HO175.out) hb); have n2_ := Aside0.mk (Kd.R_below (by (with_reducible repeat (first | apply Kd.R_alloc | apply Kd.R_drewN | apply Kd.R_drew)); exact HO185.out) hb); have n3_ := Aside0.mk (Kd.R_below (by (with_reducible repeat (first | apply Kd.R_alloc | apply Kd.R_drewN | apply Kd.R_drew)); exact HO192.out) hb); have n4_ := Aside0.mk (below_step (by repeat (first | (with_reducible first | exact HB.out | apply below_alloc | apply pw_below_drewN | apply below_drew1) | exact HB.out)) hb); clear HO168; clear HO175; clear HO185; clear HO192; clear HB; have HO168 := n0_; have HO175 := n1_; have HO185 := n2_; have HO192 := n3_; have HB := n4_; clear n0_ n1_ n2_ n3_ n4_; (try clear hb); (try clear hb2); (try clear hk); (try clear hi); obtain ⟨Ao68, co68, eo68⟩ := Kd.R_slice HO175.out; subst eo68; obtain ⟨Ao69, co69, eo69⟩ := Kd.R_slice HO192.out; subst eo69) | ((with_reducible refine gate_callee (f := 32) rfl ?_); refine goesL_ (some 92) rfl rfl Try.func32 (by kernel_rfl) rfl #[.string t197, .slice Ao68 y173.length co68, .slice Ao69 y190.length co69] rfl (by (try simp only [List.map_toArray, List.map_cons, List.map_nil]); first | done | rfl | (simp only [List.length_drop, List.length_take]; rfl)) ?_; (with_reducible refine (laws_merged.calls kj15 t197 _ _ y173 _ _ y190 t198 t199 true _ ?side1 ?side2 ?side3 ?side4 A36.out).mono ?_); (case side1 => repeat (first | exact (Kd.R_reads' HO175.out).2.2 | (with_reducible refine Kd.C_alloc ?_ _) | (with_reducible refine Kd.C_drewN ?_ _) | (with_reducible refine Kd.C_drew ?_))); (case side2 => exact (Kd.R_reads' HO175.out).2.1); (case side3 => repeat (first | exact (Kd.R_reads' HO192.out).2.2 | (with_reducible refine Kd.C_alloc ?_ _) | (with_reducible refine Kd.C_drewN ?_ _) | (with_reducible refine Kd.C_drew ?_))); (case side4 => exact (Kd.R_reads' HO192.out).2.1); rintro e w70 ⟨rfl, hb⟩; refine ⟨_, rfl, ?_⟩; have n0_ := Aside0.mk (Kd.R_below (by (with_reducible repeat (first | apply Kd.R_alloc | apply Kd.R_drewN | apply Kd.R_drew)); exact HO168.out) hb); have n1_ := Aside0.mk (Kd.R_below (by (with_reducible repeat (first | apply Kd.R_alloc | apply Kd.R_drewN | apply Kd.R_drew)); exact HO175.out) hb); have n2_ := Aside0.mk (Kd.R_below (by (with_reducible repeat (first | apply Kd.R_alloc | apply Kd.R_drewN | apply Kd.R_drew)); exact HO185.out) hb); have n3_ := Aside0.mk (Kd.R_below (by (with_reducible repeat (first | apply Kd.R_alloc | apply Kd.R_drewN | apply Kd.R_drew)); exact HO192.out) hb); have n4_ := Aside0.mk (below_step (by repeat (first | (with_reducible first | exact HB.out | apply below_alloc | apply pw_below_drewN | apply below_drew1) | exact HB.out)) hb); clear HO168; clear HO175; clear HO185; clear HO192; clear HB; have HO168 := n0_; have HO175 := n1_; have HO185 := n2_; have HO192 := n3_; have HB := n4_; clear n0_ n1_ n2_ n3_ n4_; (try clear hb); (try clear hb2); (try clear hk); (try clear hi)) | (go_at_call 29; (with_reducible refine (laws_awakeMerge.calls kj15  t201 _ A40.out).mono ?_); rintro e w71 ⟨rfl, hb⟩; have n0_ := Aside0.mk (Kd.R_below (by (with_reducible repeat (first | apply Kd.R_alloc | apply Kd.R_drewN | apply Kd.R_drew)); exact HO168.out) hb); have n1_ := Aside0.mk (Kd.R_below (by (with_reducible repeat (first | apply Kd.R_alloc | apply Kd.R_drewN | apply Kd.R_drew)); exact HO175.out) hb); have n2_ := Aside0.mk (Kd.R_below (by (with_reducible repeat (first | apply Kd.R_alloc | apply Kd.R_drewN | apply Kd.R_drew)); exact HO185.out) hb); have n3_ := Aside0.mk (Kd.R_below (by (with_reducible repeat (first | apply Kd.R_alloc | apply Kd.R_drewN | apply Kd.R_drew)); exact HO192.out) hb); have n4_ := Aside0.mk (below_step (by repeat (first | (with_reducible first | exact HB.out | apply below_alloc | apply pw_below_drewN | apply below_drew1) | exact HB.out)) hb); clear HO168; clear HO175; clear HO185; clear HO192; clear HB; have HO168 := n0_; have HO175 := n1_; have HO185 := n2_; have HO192 := n3_; have HB := n4_; clear n0_ n1_ n2_ n3_ n4_; (try clear hb); (try clear hb2); (try clear hk); (try clear hi)))
                                            go_ret
                                            exact ⟨by first | rfl | (simp [errW_none, errW_some] <;> rfl) | (simp only [← hji18]; first | rfl | (simp [errW_none, errW_some] <;> rfl)) | (simp [*, errW_none, errW_some] <;> rfl), by repeat (first | (with_reducible first | exact HB.out | apply below_alloc | apply pw_below_drewN | apply below_drew1) | exact HB.out)⟩
                                          · rw [if_neg c39] at H
                                            have c39b0 : ((t194 == 0) == (t198 == 0)) = false := by simpa using c39
                                            (try (have c39b1 : decide ((t194 == 0) = (t198 == 0)) = false := by simpa using c39))
                                            (try (have c39b2 : ((t194 == 0) == (t198 == 0)) = false := by simpa using c39))
                                            (try (have c39b3 : ¬ ((t194 == 0) = (t198 == 0)) := by simpa using c39))
                                            clear c39
                                            obtain rfl := Option.some.inj H
                                            try go_wp2_with (first | ((with_reducible refine gate_callee (f := 31) rfl ?_); refine goesL_ (some 80) rfl rfl Try.func31 (by kernel_rfl) rfl #[.int .i64 a0] rfl (by (try simp only [List.map_toArray, List.map_cons, List.map_nil]); first | done | rfl | (simp only [List.length_drop, List.length_take]; rfl)) ?_; (with_reducible refine (laws_expression.calls a0 t193 _ A33.out).mono ?_); rintro e w96 ⟨rfl, hb⟩; refine ⟨_, rfl, ?_⟩; have n0_ := Aside0.mk (Kd.R_below (by (with_reducible repeat (first | apply Kd.R_alloc | apply Kd.R_drewN | apply Kd.R_drew)); exact HO168.out) hb); have n1_ := Aside0.mk (Kd.R_below (by (with_reducible repeat (first | apply Kd.R_alloc | apply Kd.R_drewN | apply Kd.R_drew)); exact HO175.out) hb); have n2_ := Aside0.mk (Kd.R_below (by (with_reducible repeat (first | apply Kd.R_alloc | apply Kd.R_drewN | apply Kd.R_drew)); exact HO185.out) hb); have n3_ := Aside0.mk (Kd.R_below (by (with_reducible repeat (first | apply Kd.R_alloc | apply Kd.R_drewN | apply Kd.R_drew)); exact HO192.out) hb); have n4_ := Aside0.mk (below_step (by repeat (first | (with_reducible first | exact HB.out | apply below_alloc | apply pw_below_drewN | apply below_drew1) | exact HB.out)) hb); clear HO168; clear HO175; clear HO185; clear HO192; clear HB; have HO168 := n0_; have HO175 := n1_; have HO185 := n2_; have HO192 := n3_; have HB := n4_; clear n0_ n1_ n2_ n3_ n4_; (try clear hb); (try clear hb2); (try clear hk); (try clear hi)) | ((with_reducible refine gate_callee (f := 32) rfl ?_); refine goesL_ (some 83) rfl rfl Try.func32 (by kernel_rfl) rfl #[.string t193, .slice A3 l3.length c3, .slice A4 l4.length c4] rfl (by (try simp only [List.map_toArray, List.map_cons, List.map_nil]); first | done | rfl | (simp only [List.length_drop, List.length_take]; rfl)) ?_; (with_reducible refine (laws_merged.calls kj15 t193 _ _ l3 _ _ l4 t194 t195 true _ ?side1 ?side2 ?side3 ?side4 A34.out).mono ?_); (case side1 => repeat (first | exact (Kd.C_below HR3.out HB.out) | (with_reducible refine Kd.C_alloc ?_ _) | (with_reducible refine Kd.C_drewN ?_ _) | (with_reducible refine Kd.C_drew ?_))); (case side2 => exact HC3.out); (case side3 => repeat (first | exact (Kd.C_below HR4.out HB.out) | (with_reducible refine Kd.C_alloc ?_ _) | (with_reducible refine Kd.C_drewN ?_ _) | (with_reducible refine Kd.C_drew ?_))); (case side4 => exact HC4.out); rintro e w97 ⟨rfl, hb⟩; refine ⟨_, rfl, ?_⟩; have n0_ := Aside0.mk (Kd.R_below (by (with_reducible repeat (first | apply Kd.R_alloc | apply Kd.R_drewN | apply Kd.R_drew)); exact HO168.out) hb); have n1_ := Aside0.mk (Kd.R_below (by (with_reducible repeat (first | apply Kd.R_alloc | apply Kd.R_drewN | apply Kd.R_drew)); exact HO175.out) hb); have n2_ := Aside0.mk (Kd.R_below (by (with_reducible repeat (first | apply Kd.R_alloc | apply Kd.R_drewN | apply Kd.R_drew)); exact HO185.out) hb); have n3_ := Aside0.mk (Kd.R_below (by (with_reducible repeat (first | apply Kd.R_alloc | apply Kd.R_drewN | apply Kd.R_drew)); exact HO192.out) hb); have n4_ := Aside0.mk (below_step (by repeat (first | (with_reducible first | exact HB.out | apply below_alloc | apply pw_below_drewN | apply below_drew1) | exact HB.out)) hb); clear HO168; clear HO175; clear HO185; clear HO192; clear HB; have HO168 := n0_; have HO175 := n1_; have HO185 := n2_; have HO192 := n3_; have HB := n4_; clear n0_ n1_ n2_ n3_ n4_; (try clear hb); (try clear hb2); (try clear hk); (try clear hi)) | ((with_reducible refine gate_callee (f := 31) rfl ?_); refine goesL_ (some 89) rfl rfl Try.func31 (by kernel_rfl) rfl #[.int .i64 a0] rfl (by (try simp only [List.map_toArray, List.map_cons, List.map_nil]); first | done | rfl | (simp only [List.length_drop, List.length_take]; rfl)) ?_; (with_reducible refine (laws_expression.calls a0 t197 _ A35.out).mono ?_); rintro e w98 ⟨rfl, hb⟩; refine ⟨_, rfl, ?_⟩; have n0_ := Aside0.mk (Kd.R_below (by (with_reducible repeat (first | apply Kd.R_alloc | apply Kd.R_drewN | apply Kd.R_drew)); exact HO168.out) hb); have n1_ := Aside0.mk (Kd.R_below (by (with_reducible repeat (first | apply Kd.R_alloc | apply Kd.R_drewN | apply Kd.R_drew)); exact HO175.out) hb); have n2_ := Aside0.mk (Kd.R_below (by (with_reducible repeat (first | apply Kd.R_alloc | apply Kd.R_drewN | apply Kd.R_drew)); exact HO185.out) hb); have n3_ := Aside0.mk (Kd.R_below (by (with_reducible repeat (first | apply Kd.R_alloc | apply Kd.R_drewN | apply Kd.R_drew)); exact HO192.out) hb); have n4_ := Aside0.mk (below_step (by repeat (first | (with_reducible first | exact HB.out | apply below_alloc | apply pw_below_drewN | apply below_drew1) | exact HB.out)) hb); clear HO168; clear HO175; clear HO185; clear HO192; clear HB; have HO168 := n0_; have HO175 := n1_; have HO185 := n2_; have HO192 := n3_; have HB := n4_; clear n0_ n1_ n2_ n3_ n4_; (try clear hb); (try clear hb2); (try clear hk); (try clear hi); obtain ⟨Ao99, co99, eo99⟩ := Kd.R_slice HO175.out; subst eo99; obtain ⟨Ao100, co100, eo100⟩ := Kd.R_slice HO192.out; subst eo100) | ((with_reducible refine gate_callee (f := 32) rfl ?_); refine goesL_ (some 92) rfl rfl Try.func32 (by kernel_rfl) rfl #[.string t197, .slice Ao99 y173.length co99, .slice Ao100 y190.length co100] rfl (by (try simp only [List.map_toArray, List.map_cons, List.map_nil]); first | done | rfl | (simp only [List.length_drop, List.length_take]; rfl)) ?_; (with_reducible refine (laws_merged.calls kj15 t197 _ _ y173 _ _ y190 t198 t199 true _ ?side1 ?side2 ?side3 ?side4 A36.out).mono ?_); (case side1 => repeat (first | exact (Kd.R_reads' HO175.out).2.2 | (with_reducible refine Kd.C_alloc ?_ _) | (with_reducible refine Kd.C_drewN ?_ _) | (with_reducible refine Kd.C_drew ?_))); (case side2 => exact (Kd.R_reads' HO175.out).2.1); (case side3 => repeat (first | exact (Kd.R_reads' HO192.out).2.2 | (with_reducible refine Kd.C_alloc ?_ _) | (with_reducible refine Kd.C_drewN ?_ _) | (with_reducible refine Kd.C_drew ?_))); (case side4 => exact (Kd.R_reads' HO192.out).2.1); rintro e w101 ⟨rfl, hb⟩; refine ⟨_, rfl, ?_⟩; have n0_ := Aside0.mk (Kd.R_below (by (with_reducible repeat (first | apply Kd.R_alloc | apply Kd.R_drewN | apply Kd.R_drew)); exact HO168.out) hb); have n1_ := Aside0.mk (Kd.R_below (by (with_reducible repeat (first | apply Kd.R_alloc | apply Kd.R_drewN | apply Kd.R_drew)); exact HO175.out) hb); have n2_ := Aside0.mk (Kd.R_below (by (with_reducible repeat (first | apply Kd.R_alloc | apply Kd.R_drewN | apply Kd.R_drew)); exact HO185.out) hb); have n3_ := Aside0.mk (Kd.R_below (by (with_reducible repeat (first | apply Kd.R_alloc | apply Kd.R_drewN | apply Kd.R_drew)); exact HO192.out) hb); have n4_ := Aside0.mk (below_step (by repeat (first | (with_reducible first | exact HB.out | apply below_alloc | apply pw_below_drewN | apply below_drew1) | exact HB.out)) hb); clear HO168; clear HO175; clear HO185; clear HO192; clear HB; have HO168 := n0_; have HO175 := n1_; have HO185 := n2_; have HO192 := n3_; have HB := n4_; clear n0_ n1_ n2_ n3_ n4_; (try clear hb); (try clear hb2); (try clear hk); (try clear hi)))
                                            go_ret
                                            exact ⟨by first | rfl | (simp [errW_none, errW_some] <;> rfl) | (simp only [← hji18]; first | rfl | (simp [errW_none, errW_some] <;> rfl)) | (simp [*, errW_none, errW_some] <;> rfl), by repeat (first | (with_reducible first | exact HB.out | apply below_alloc | apply pw_below_drewN | apply below_drew1) | exact HB.out)⟩
                                        · replace c38 := Bool.eq_false_iff.mpr c38
                                          subst c38
                                          have H1 : (some false) = some r := by rw [if_neg (show ¬ (false = true) by decide)] at H; exact H
                                          clear H
                                          have H := H1
                                          clear H1
                                          obtain rfl := Option.some.inj H
                                          try go_wp2_with (first | ((with_reducible refine gate_callee (f := 31) rfl ?_); refine goesL_ (some 80) rfl rfl Try.func31 (by kernel_rfl) rfl #[.int .i64 a0] rfl (by (try simp only [List.map_toArray, List.map_cons, List.map_nil]); first | done | rfl | (simp only [List.length_drop, List.length_take]; rfl)) ?_; (with_reducible refine (laws_expression.calls a0 t193 _ A33.out).mono ?_); rintro e w126 ⟨rfl, hb⟩; refine ⟨_, rfl, ?_⟩; have n0_ := Aside0.mk (Kd.R_below (by (with_reducible repeat (first | apply Kd.R_alloc | apply Kd.R_drewN | apply Kd.R_drew)); exact HO168.out) hb); have n1_ := Aside0.mk (Kd.R_below (by (with_reducible repeat (first | apply Kd.R_alloc | apply Kd.R_drewN | apply Kd.R_drew)); exact HO175.out) hb); have n2_ := Aside0.mk (Kd.R_below (by (with_reducible repeat (first | apply Kd.R_alloc | apply Kd.R_drewN | apply Kd.R_drew)); exact HO185.out) hb); have n3_ := Aside0.mk (Kd.R_below (by (with_reducible repeat (first | apply Kd.R_alloc | apply Kd.R_drewN | apply Kd.R_drew)); exact HO192.out) hb); have n4_ := Aside0.mk (below_step (by repeat (first | (with_reducible first | exact HB.out | apply below_alloc | apply pw_below_drewN | apply below_drew1) | exact HB.out)) hb); clear HO168; clear HO175; clear HO185; clear HO192; clear HB; have HO168 := n0_; have HO175 := n1_; have HO185 := n2_; have HO192 := n3_; have HB := n4_; clear n0_ n1_ n2_ n3_ n4_; (try clear hb); (try clear hb2); (try clear hk); (try clear hi)) | ((with_reducible refine gate_callee (f := 32) rfl ?_); refine goesL_ (some 83) rfl rfl Try.func32 (by kernel_rfl) rfl #[.string t193, .slice A3 l3.length c3, .slice A4 l4.length c4] rfl (by (try simp only [List.map_toArray, List.map_cons, List.map_nil]); first | done | rfl | (simp only [List.length_drop, List.length_take]; rfl)) ?_; (with_reducible refine (laws_merged.calls kj15 t193 _ _ l3 _ _ l4 t194 t195 true _ ?side1 ?side2 ?side3 ?side4 A34.out).mono ?_); (case side1 => repeat (first | exact (Kd.C_below HR3.out HB.out) | (with_reducible refine Kd.C_alloc ?_ _) | (with_reducible refine Kd.C_drewN ?_ _) | (with_reducible refine Kd.C_drew ?_))); (case side2 => exact HC3.out); (case side3 => repeat (first | exact (Kd.C_below HR4.out HB.out) | (with_reducible refine Kd.C_alloc ?_ _) | (with_reducible refine Kd.C_drewN ?_ _) | (with_reducible refine Kd.C_drew ?_))); (case side4 => exact HC4.out); rintro e w127 ⟨rfl, hb⟩; refine ⟨_, rfl, ?_⟩; have n0_ := Aside0.mk (Kd.R_below (by (with_reducible repeat (first | apply Kd.R_alloc | apply Kd.R_drewN | apply Kd.R_drew)); exact HO168.out) hb); have n1_ := Aside0.mk (Kd.R_below (by (with_reducible repeat (first | apply Kd.R_alloc | apply Kd.R_drewN | apply Kd.R_drew)); exact HO175.out) hb); have n2_ := Aside0.mk (Kd.R_below (by (with_reducible repeat (first | apply Kd.R_alloc | apply Kd.R_drewN | apply Kd.R_drew)); exact HO185.out) hb); have n3_ := Aside0.mk (Kd.R_below (by (with_reducible repeat (first | apply Kd.R_alloc | apply Kd.R_drewN | apply Kd.R_drew)); exact HO192.out) hb); have n4_ := Aside0.mk (below_step (by repeat (first | (with_reducible first | exact HB.out | apply below_alloc | apply pw_below_drewN | apply below_drew1) | exact HB.out)) hb); clear HO168; clear HO175; clear HO185; clear HO192; clear HB; have HO168 := n0_; have HO175 := n1_; have HO185 := n2_; have HO192 := n3_; have HB := n4_; clear n0_ n1_ n2_ n3_ n4_; (try clear hb); (try clear hb2); (try clear hk); (try clear hi)) | ((with_reducible refine gate_callee (f := 31) rfl ?_); refine goesL_ (some 89) rfl rfl Try.func31 (by kernel_rfl) rfl #[.int .i64 a0] rfl (by (try simp only [List.map_toArray, List.map_cons, List.map_nil]); first | done | rfl | (simp only [List.length_drop, List.length_take]; rfl)) ?_; (with_reducible refine (laws_expression.calls a0 t197 _ A35.out).mono ?_); rintro e w128 ⟨rfl, hb⟩; refine ⟨_, rfl, ?_⟩; have n0_ := Aside0.mk (Kd.R_below (by (with_reducible repeat (first | apply Kd.R_alloc | apply Kd.R_drewN | apply Kd.R_drew)); exact HO168.out) hb); have n1_ := Aside0.mk (Kd.R_below (by (with_reducible repeat (first | apply Kd.R_alloc | apply Kd.R_drewN | apply Kd.R_drew)); exact HO175.out) hb); have n2_ := Aside0.mk (Kd.R_below (by (with_reducible repeat (first | apply Kd.R_alloc | apply Kd.R_drewN | apply Kd.R_drew)); exact HO185.out) hb); have n3_ := Aside0.mk (Kd.R_below (by (with_reducible repeat (first | apply Kd.R_alloc | apply Kd.R_drewN | apply Kd.R_drew)); exact HO192.out) hb); have n4_ := Aside0.mk (below_step (by repeat (first | (with_reducible first | exact HB.out | apply below_alloc | apply pw_below_drewN | apply below_drew1) | exact HB.out)) hb); clear HO168; clear HO175; clear HO185; clear HO192; clear HB; have HO168 := n0_; have HO175 := n1_; have HO185 := n2_; have HO192 := n3_; have HB := n4_; clear n0_ n1_ n2_ n3_ n4_; (try clear hb); (try clear hb2); (try clear hk); (try clear hi); obtain ⟨Ao129, co129, eo129⟩ := Kd.R_slice HO175.out; subst eo129; obtain ⟨Ao130, co130, eo130⟩ := Kd.R_slice HO192.out; subst eo130) | ((with_reducible refine gate_callee (f := 32) rfl ?_); refine goesL_ (some 92) rfl rfl Try.func32 (by kernel_rfl) rfl #[.string t197, .slice Ao129 y173.length co129, .slice Ao130 y190.length co130] rfl (by (try simp only [List.map_toArray, List.map_cons, List.map_nil]); first | done | rfl | (simp only [List.length_drop, List.length_take]; rfl)) ?_; (with_reducible refine (laws_merged.calls kj15 t197 _ _ y173 _ _ y190 t198 t199 false _ ?side1 ?side2 ?side3 ?side4 A36.out).mono ?_); (case side1 => repeat (first | exact (Kd.R_reads' HO175.out).2.2 | (with_reducible refine Kd.C_alloc ?_ _) | (with_reducible refine Kd.C_drewN ?_ _) | (with_reducible refine Kd.C_drew ?_))); (case side2 => exact (Kd.R_reads' HO175.out).2.1); (case side3 => repeat (first | exact (Kd.R_reads' HO192.out).2.2 | (with_reducible refine Kd.C_alloc ?_ _) | (with_reducible refine Kd.C_drewN ?_ _) | (with_reducible refine Kd.C_drew ?_))); (case side4 => exact (Kd.R_reads' HO192.out).2.1); rintro e w131 ⟨rfl, hb⟩; refine ⟨_, rfl, ?_⟩; have n0_ := Aside0.mk (Kd.R_below (by (with_reducible repeat (first | apply Kd.R_alloc | apply Kd.R_drewN | apply Kd.R_drew)); exact HO168.out) hb); have n1_ := Aside0.mk (Kd.R_below (by (with_reducible repeat (first | apply Kd.R_alloc | apply Kd.R_drewN | apply Kd.R_drew)); exact HO175.out) hb); have n2_ := Aside0.mk (Kd.R_below (by (with_reducible repeat (first | apply Kd.R_alloc | apply Kd.R_drewN | apply Kd.R_drew)); exact HO185.out) hb); have n3_ := Aside0.mk (Kd.R_below (by (with_reducible repeat (first | apply Kd.R_alloc | apply Kd.R_drewN | apply Kd.R_drew)); exact HO192.out) hb); have n4_ := Aside0.mk (below_step (by repeat (first | (with_reducible first | exact HB.out | apply below_alloc | apply pw_below_drewN | apply below_drew1) | exact HB.out)) hb); clear HO168; clear HO175; clear HO185; clear HO192; clear HB; have HO168 := n0_; have HO175 := n1_; have HO185 := n2_; have HO192 := n3_; have HB := n4_; clear n0_ n1_ n2_ n3_ n4_; (try clear hb); (try clear hb2); (try clear hk); (try clear hi)))
                                          go_ret
                                          exact ⟨by first | rfl | (simp [errW_none, errW_some] <;> rfl) | (simp only [← hji18]; first | rfl | (simp [errW_none, errW_some] <;> rfl)) | (simp [*, errW_none, errW_some] <;> rfl), by repeat (first | (with_reducible first | exact HB.out | apply below_alloc | apply pw_below_drewN | apply below_drew1) | exact HB.out)⟩
                                      · replace c37 := Bool.eq_false_iff.mpr c37
                                        subst c37
                                        have H1 : (some false) = some r := by rw [if_neg (show ¬ (false = true) by decide)] at H; exact H
                                        clear H
                                        have H := H1
                                        clear H1
                                        obtain rfl := Option.some.inj H
                                        try go_wp2_with (first | ((with_reducible refine gate_callee (f := 31) rfl ?_); refine goesL_ (some 80) rfl rfl Try.func31 (by kernel_rfl) rfl #[.int .i64 a0] rfl (by (try simp only [List.map_toArray, List.map_cons, List.map_nil]); first | done | rfl | (simp only [List.length_drop, List.length_take]; rfl)) ?_; (with_reducible refine (laws_expression.calls a0 t193 _ A33.out).mono ?_); rintro e w156 ⟨rfl, hb⟩; refine ⟨_, rfl, ?_⟩; have n0_ := Aside0.mk (Kd.R_below (by (with_reducible repeat (first | apply Kd.R_alloc | apply Kd.R_drewN | apply Kd.R_drew)); exact HO168.out) hb); have n1_ := Aside0.mk (Kd.R_below (by (with_reducible repeat (first | apply Kd.R_alloc | apply Kd.R_drewN | apply Kd.R_drew)); exact HO175.out) hb); have n2_ := Aside0.mk (Kd.R_below (by (with_reducible repeat (first | apply Kd.R_alloc | apply Kd.R_drewN | apply Kd.R_drew)); exact HO185.out) hb); have n3_ := Aside0.mk (Kd.R_below (by (with_reducible repeat (first | apply Kd.R_alloc | apply Kd.R_drewN | apply Kd.R_drew)); exact HO192.out) hb); have n4_ := Aside0.mk (below_step (by repeat (first | (with_reducible first | exact HB.out | apply below_alloc | apply pw_below_drewN | apply below_drew1) | exact HB.out)) hb); clear HO168; clear HO175; clear HO185; clear HO192; clear HB; have HO168 := n0_; have HO175 := n1_; have HO185 := n2_; have HO192 := n3_; have HB := n4_; clear n0_ n1_ n2_ n3_ n4_; (try clear hb); (try clear hb2); (try clear hk); (try clear hi)) | ((with_reducible refine gate_callee (f := 32) rfl ?_); refine goesL_ (some 83) rfl rfl Try.func32 (by kernel_rfl) rfl #[.string t193, .slice A3 l3.length c3, .slice A4 l4.length c4] rfl (by (try simp only [List.map_toArray, List.map_cons, List.map_nil]); first | done | rfl | (simp only [List.length_drop, List.length_take]; rfl)) ?_; (with_reducible refine (laws_merged.calls kj15 t193 _ _ l3 _ _ l4 t194 t195 false _ ?side1 ?side2 ?side3 ?side4 A34.out).mono ?_); (case side1 => repeat (first | exact (Kd.C_below HR3.out HB.out) | (with_reducible refine Kd.C_alloc ?_ _) | (with_reducible refine Kd.C_drewN ?_ _) | (with_reducible refine Kd.C_drew ?_))); (case side2 => exact HC3.out); (case side3 => repeat (first | exact (Kd.C_below HR4.out HB.out) | (with_reducible refine Kd.C_alloc ?_ _) | (with_reducible refine Kd.C_drewN ?_ _) | (with_reducible refine Kd.C_drew ?_))); (case side4 => exact HC4.out); rintro e w157 ⟨rfl, hb⟩; refine ⟨_, rfl, ?_⟩; have n0_ := Aside0.mk (Kd.R_below (by (with_reducible repeat (first | apply Kd.R_alloc | apply Kd.R_drewN | apply Kd.R_drew)); exact HO168.out) hb); have n1_ := Aside0.mk (Kd.R_below (by (with_reducible repeat (first | apply Kd.R_alloc | apply Kd.R_drewN | apply Kd.R_drew)); exact HO175.out) hb); have n2_ := Aside0.mk (Kd.R_below (by (with_reducible repeat (first | apply Kd.R_alloc | apply Kd.R_drewN | apply Kd.R_drew)); exact HO185.out) hb); have n3_ := Aside0.mk (Kd.R_below (by (with_reducible repeat (first | apply Kd.R_alloc | apply Kd.R_drewN | apply Kd.R_drew)); exact HO192.out) hb); have n4_ := Aside0.mk (below_step (by repeat (first | (with_reducible first | exact HB.out | apply below_alloc | apply pw_below_drewN | apply below_drew1) | exact HB.out)) hb); clear HO168; clear HO175; clear HO185; clear HO192; clear HB; have HO168 := n0_; have HO175 := n1_; have HO185 := n2_; have HO192 := n3_; have HB := n4_; clear n0_ n1_ n2_ n3_ n4_; (try clear hb); (try clear hb2); (try clear hk); (try clear hi)) | ((with_reducible refine gate_callee (f := 31) rfl ?_); refine goesL_ (some 89) rfl rfl Try.func31 (by kernel_rfl) rfl #[.int .i64 a0] rfl (by (try simp only [List.map_toArray, List.map_cons, List.map_nil]); first | done | rfl | (simp only [List.length_drop, List.length_take]; rfl)) ?_; (with_reducible refine (laws_expression.calls a0 t197 _ A35.out).mono ?_); rintro e w158 ⟨rfl, hb⟩; refine ⟨_, rfl, ?_⟩; have n0_ := Aside0.mk (Kd.R_below (by (with_reducible repeat (first | apply Kd.R_alloc | apply Kd.R_drewN | apply Kd.R_drew)); exact HO168.out) hb); have n1_ := Aside0.mk (Kd.R_below (by (with_reducible repeat (first | apply Kd.R_alloc | apply Kd.R_drewN | apply Kd.R_drew)); exact HO175.out) hb); have n2_ := Aside0.mk (Kd.R_below (by (with_reducible repeat (first | apply Kd.R_alloc | apply Kd.R_drewN | apply Kd.R_drew)); exact HO185.out) hb); have n3_ := Aside0.mk (Kd.R_below (by (with_reducible repeat (first | apply Kd.R_alloc | apply Kd.R_drewN | apply Kd.R_drew)); exact HO192.out) hb); have n4_ := Aside0.mk (below_step (by repeat (first | (with_reducible first | exact HB.out | apply below_alloc | apply pw_below_drewN | apply below_drew1) | exact HB.out)) hb); clear HO168; clear HO175; clear HO185; clear HO192; clear HB; have HO168 := n0_; have HO175 := n1_; have HO185 := n2_; have HO192 := n3_; have HB := n4_; clear n0_ n1_ n2_ n3_ n4_; (try clear hb); (try clear hb2); (try clear hk); (try clear hi); obtain ⟨Ao159, co159, eo159⟩ := Kd.R_slice HO175.out; subst eo159; obtain ⟨Ao160, co160, eo160⟩ := Kd.R_slice HO192.out; subst eo160) | ((with_reducible refine gate_callee (f := 32) rfl ?_); refine goesL_ (some 92) rfl rfl Try.func32 (by kernel_rfl) rfl #[.string t197, .slice Ao159 y173.length co159, .slice Ao160 y190.length co160] rfl (by (try simp only [List.map_toArray, List.map_cons, List.map_nil]); first | done | rfl | (simp only [List.length_drop, List.length_take]; rfl)) ?_; (with_reducible refine (laws_merged.calls kj15 t197 _ _ y173 _ _ y190 t198 t199 t200 _ ?side1 ?side2 ?side3 ?side4 A36.out).mono ?_); (case side1 => repeat (first | exact (Kd.R_reads' HO175.out).2.2 | (with_reducible refine Kd.C_alloc ?_ _) | (with_reducible refine Kd.C_drewN ?_ _) | (with_reducible refine Kd.C_drew ?_))); (case side2 => exact (Kd.R_reads' HO175.out).2.1); (case side3 => repeat (first | exact (Kd.R_reads' HO192.out).2.2 | (with_reducible refine Kd.C_alloc ?_ _) | (with_reducible refine Kd.C_drewN ?_ _) | (with_reducible refine Kd.C_drew ?_))); (case side4 => exact (Kd.R_reads' HO192.out).2.1); rintro e w161 ⟨rfl, hb⟩; refine ⟨_, rfl, ?_⟩; have n0_ := Aside0.mk (Kd.R_below (by (with_reducible repeat (first | apply Kd.R_alloc | apply Kd.R_drewN | apply Kd.R_drew)); exact HO168.out) hb); have n1_ := Aside0.mk (Kd.R_below (by (with_reducible repeat (first | apply Kd.R_alloc | apply Kd.R_drewN | apply Kd.R_drew)); exact HO175.out) hb); have n2_ := Aside0.mk (Kd.R_below (by (with_reducible repeat (first | apply Kd.R_alloc | apply Kd.R_drewN | apply Kd.R_drew)); exact HO185.out) hb); have n3_ := Aside0.mk (Kd.R_below (by (with_reducible repeat (first | apply Kd.R_alloc | apply Kd.R_drewN | apply Kd.R_drew)); exact HO192.out) hb); have n4_ := Aside0.mk (below_step (by repeat (first | (with_reducible first | exact HB.out | apply below_alloc | apply pw_below_drewN | apply below_drew1) | exact HB.out)) hb); clear HO168; clear HO175; clear HO185; clear HO192; clear HB; have HO168 := n0_; have HO175 := n1_; have HO185 := n2_; have HO192 := n3_; have HB := n4_; clear n0_ n1_ n2_ n3_ n4_; (try clear hb); (try clear hb2); (try clear hk); (try clear hi)))
                                        go_ret
                                        exact ⟨by first | rfl | (simp [errW_none, errW_some] <;> rfl) | (simp only [← hji18]; first | rfl | (simp [errW_none, errW_some] <;> rfl)) | (simp [*, errW_none, errW_some] <;> rfl), by repeat (first | (with_reducible first | exact HB.out | apply below_alloc | apply pw_below_drewN | apply below_drew1) | exact HB.out)⟩
                                    · rw [if_neg c32] at H
                                      exact absurd H (by simp)
                                  · rw [if_neg c29] at H
                                    exact absurd H (by simp)
                                · rw [if_neg c28] at H
                                  exact absurd H (by simp)
                              · rw [if_neg c27] at H
                                exact absurd H (by simp)
                            · rw [if_neg c25] at H
                              exact absurd H (by simp)
                          · rw [if_neg c22] at H
                            exact absurd H (by simp)
                        · rw [if_neg c21] at H
                          exact absurd H (by simp)
                      · rw [if_neg c20] at H
                        exact absurd H (by simp)
                    · rw [if_neg c19] at H
                      exact absurd H (by simp)

end Go.Proofs.Ytdhmlcnlklcofaa.PFnMergeIdle
