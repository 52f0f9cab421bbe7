/- The machine side of laws.FnEvals: each function of this text answers what its Lean function answers (written for this claim by a program of this session over the kit's print; no condition beyond what each theorem says). -/
import Derived.Test.YtnbcohabllkneaaOFnEvalsx0
import Derived.Test.YtnbcohabllkneaaOFnEvalsx3
import Derived.Test.YtnbcohabllkneaaOFnEvalsx4
namespace Go.Proofs.Ytnbcohabllkneaa.PFnEvals
open Go.RowKit Go.Proofs.YtnbcohabllkneaaW.PrintWords Go.Proofs.YtnbcohabllkneaaW.PrintLast Go.Proofs.YtnbcohabllkneaaW.PrintMore
attribute [local go_sem] max2_int min2_int max_two min_two max_three min_three max_four min_four   -- for this text's walks alone
set_option linter.unusedVariables false
set_option linter.unusedSimpArgs false

/-! ### util_zzEvals: function 62 -/
mutual
def util_zzEvals.l0 : Nat → ByteArray → List (S55) → Int → Option ((List (S55)))
  | 0, _, _, _ => none
  | k + 1, x0, x3, x4 => if (wrap64 (x4 + 5)) ≤ (x0.size : Int) then (if 0 ≤ x4 then (if x4 ≤ (wrap64 (x4 + 5)) then (if (x0.extract (x4 : Int).toNat ((wrap64 (x4 + 5)) : Int).toNat).toList = ([101, 118, 97, 108, 40] : List UInt8) then (if x4 > 0 then (if 0 ≤ (wrap64 (x4 - 1)) then (if (wrap64 (x4 - 1)) < (x0.size : Int) then ((util_zzWord.f (bt x0 (wrap64 (x4 - 1)))).bind fun t133 => (util_zzEvals.j1 k x0 x3 x4 t133)) else (none)) else (none)) else (util_zzEvals.j1 k x0 x3 x4 false)) else (util_zzEvals.j1 k x0 x3 x4 true)) else (none)) else (none)) else (some x3)
def util_zzEvals.j1 : Nat → ByteArray → List (S55) → Int → Bool → Option ((List (S55)))
  | 0, _, _, _, _ => none
  | k + 1, x0, x3, x4, x29 => if x29 = true then (util_zzEvals.l0 k x0 x3 (wrap64 (x4 + 1))) else (util_zzEvals.l1 k x0 x3 x4 (wrap64 (x4 + 5)))
def util_zzEvals.l1 : Nat → ByteArray → List (S55) → Int → Int → Option ((List (S55)))
  | 0, _, _, _, _ => none
  | k + 1, x0, x3, x4, x5 => if x5 < (x0.size : Int) then (if 0 ≤ x5 then (if (bt x0 x5) = 41 then (if x3.length < 8796093022208 then (util_zzEvals.l0 k x0 (x3 ++ [(⟨x4, wrap64 (x5 + 1)⟩ : S55)]) (wrap64 (x5 + 1))) else (none)) else (util_zzEvals.l1 k x0 x3 x4 (wrap64 (x5 + 1)))) else (none)) else (util_zzEvals.l0 k x0 x3 (wrap64 (x4 + 1)))
end
def util_zzEvals.f (k : Nat) (a0 : ByteArray) : Option ((List (S55))) := util_zzEvals.l0 k a0 ([] : List (S55)) 0
theorem util_zzEvals.mono_l : ∀ k, (∀ y0 y1 y2, LeO (util_zzEvals.l0 k y0 y1 y2) (util_zzEvals.l0 (k + 1) y0 y1 y2)) ∧ (∀ y0 y1 y2 y3, LeO (util_zzEvals.j1 k y0 y1 y2 y3) (util_zzEvals.j1 (k + 1) y0 y1 y2 y3)) ∧ (∀ y0 y1 y2 y3, LeO (util_zzEvals.l1 k y0 y1 y2 y3) (util_zzEvals.l1 (k + 1) y0 y1 y2 y3))
  | 0 => ⟨fun _ _ _ r h => by simp [util_zzEvals.l0] at h, fun _ _ _ _ r h => by simp [util_zzEvals.j1] at h, fun _ _ _ _ r h => by simp [util_zzEvals.l1] at h⟩
  | k + 1 => by
    obtain ⟨ih0, ih1, ih2⟩ := util_zzEvals.mono_l k
    refine ⟨?_, ?_, ?_⟩
    · intro y0 y1 y2
      unfold util_zzEvals.l0
      repeat' first
      | (with_reducible exact ih0 _ _ _)
      | (with_reducible exact ih1 _ _ _ _)
      | (with_reducible exact ih2 _ _ _ _)
      | (with_reducible exact LeO.refl _)
      | (with_reducible exact LeO.none _)
      | (with_reducible refine LeO.ite ?_ ?_)
      | (with_reducible refine LeO.bind ?_ (fun _ => ?_))
      | exact ih0 _ _ _
      | exact ih1 _ _ _ _
      | exact ih2 _ _ _ _
      | exact LeO.none _
      | refine LeO.ite ?_ ?_
      | refine LeO.bind ?_ (fun _ => ?_)
    · intro y0 y1 y2 y3
      unfold util_zzEvals.j1
      repeat' first
      | (with_reducible exact ih0 _ _ _)
      | (with_reducible exact ih1 _ _ _ _)
      | (with_reducible exact ih2 _ _ _ _)
      | (with_reducible exact LeO.refl _)
      | (with_reducible exact LeO.none _)
      | (with_reducible refine LeO.ite ?_ ?_)
      | (with_reducible refine LeO.bind ?_ (fun _ => ?_))
      | exact ih0 _ _ _
      | exact ih1 _ _ _ _
      | exact ih2 _ _ _ _
      | exact LeO.none _
      | refine LeO.ite ?_ ?_
      | refine LeO.bind ?_ (fun _ => ?_)
    · intro y0 y1 y2 y3
      unfold util_zzEvals.l1
      repeat' first
      | (with_reducible exact ih0 _ _ _)
      | (with_reducible exact ih1 _ _ _ _)
      | (with_reducible exact ih2 _ _ _ _)
      | (with_reducible exact LeO.refl _)
      | (with_reducible exact LeO.none _)
      | (with_reducible refine LeO.ite ?_ ?_)
      | (with_reducible refine LeO.bind ?_ (fun _ => ?_))
      | exact ih0 _ _ _
      | exact ih1 _ _ _ _
      | exact ih2 _ _ _ _
      | exact LeO.none _
      | refine LeO.ite ?_ ?_
      | refine LeO.bind ?_ (fun _ => ?_)
theorem util_zzEvals.mono : ∀ a0 k, LeO (util_zzEvals.f k a0) (util_zzEvals.f (k + 1) a0) := by
  intro a0 k
  obtain ⟨ih0, ih1, ih2⟩ := util_zzEvals.mono_l k
  unfold util_zzEvals.f
  repeat' first
      | (with_reducible exact ih0 _ _ _)
      | (with_reducible exact ih1 _ _ _ _)
      | (with_reducible exact ih2 _ _ _ _)
      | (with_reducible exact LeO.refl _)
      | (with_reducible exact LeO.none _)
      | (with_reducible refine LeO.ite ?_ ?_)
      | (with_reducible refine LeO.bind ?_ (fun _ => ?_))
      | exact ih0 _ _ _
      | exact ih1 _ _ _ _
      | exact ih2 _ _ _ _
      | exact LeO.none _
      | refine LeO.ite ?_ ?_
      | refine LeO.bind ?_ (fun _ => ?_)
set_option maxHeartbeats 8000000 in
set_option maxRecDepth 100000 in
theorem util_zzEvals.calls (k : Nat) (a0 : ByteArray) (r : List (S55)) (w : World) (h : util_zzEvals.f k a0 = some r) :
    Calls Try.prog 62 #[.string a0] w fun e w' => ∃ v0_ : Value, e = .returned (v0_) ∧ Kd.R k55 55 w' w.heap.size (fun _ => True) v0_ r ∧ Below w.heap.size w w' := by
  have hu55 := Try.underlying55
  have HB := Aside0.mk (Below.refl w.heap.size w)
  have H : (util_zzEvals.l0 k a0 ([] : List (S55)) 0) = some r := h
  clear h
  have H' := Aside0.mk H
  clear H
  go_enter Try.func62, Try.ntmps62
  go_wp2
  go_loopg [3, 4] k (fun kq v3 v4 w' => ∃ (x3_1 : List (S55)) (x4_1 : Int), v4 = .int .i64 x4_1 ∧ Aside0 (util_zzEvals.l0 kq a0 x3_1 x4_1 = some r) ∧ Aside0 (kq ≤ k) ∧ Aside0 (Kd.R k55 55 w' w.heap.size (fun _ => True) v3 x3_1) ∧ Aside0 (Below w.heap.size w w'))
  case atStart => exact ⟨(([] : List (S55))), (0), (by first | rfl | (simp; done) | (simp [*]; done)), H', ⟨Nat.le_refl _⟩, ⟨by first | exact Kd.R_nil _ _ _ _ _ | exact Kd.N_nil _ _ _ _ _ | exact Kd.V_nil _ _ _ _ _ | exact Kd.Q_nil _ _ _ _ _ | exact Kd.S_nil _ _ _ _ _⟩, ⟨by repeat (first | (with_reducible first | exact HB.out | apply below_alloc | apply pw_below_drewN | apply below_drew1) | exact HB.out)⟩⟩
  case round =>
    clear H'
    obtain ⟨x3_1, x4_1, rfl, HA, HK1, HO_3, HB⟩ := hrel
    cases gk with
    | zero => exact absurd HA.out (by simp [util_zzEvals.l0])
    | succ k1 =>
      have H := HA.out
      clear HA
      simp only [util_zzEvals.l0] at H
      by_cases c2 : (wrap64 (x4_1 + 5)) ≤ (a0.size : Int)
      · rw [if_pos c2] at H
        have c2b0 : decide ((wrap64 (x4_1 + 5)) ≤ (a0.size : Int)) = true := decide_eq_true c2
        clear c2
        have HC3 := Aside0.mk H
        clear H
        go_upto_region 5 with (fail)
        go_cut [29] (fun v29 wc => ∃ (kq : Nat) (x29_2 : Bool), v29 = .bool x29_2 ∧ Aside0 (util_zzEvals.j1 kq a0 x3_1 x4_1 x29_2 = some r) ∧ Aside0 (kq ≤ k1) ∧ Aside0 (Kd.R k55 55 wc w.heap.size (fun _ => True) u3 x3_1) ∧ Aside0 (Below w.heap.size w wc))
        case first =>
          have H := HC3.out
          clear HC3
          by_cases c4 : 0 ≤ x4_1
          · rw [if_pos c4] at H
            have c4b0 := eq_true c4
            have c4b1 : decide (0 ≤ x4_1) = true := decide_eq_true c4
            clear c4
            by_cases c5 : x4_1 ≤ (wrap64 (x4_1 + 5))
            · rw [if_pos c5] at H
              have c5b0 := eq_true c5
              have c5b1 : decide (x4_1 ≤ (wrap64 (x4_1 + 5))) = true := decide_eq_true c5
              have c6b0 := eq_true (of_decide_eq_true (by first | (with_reducible assumption) | assumption) : (wrap64 (x4_1 + 5)) ≤ (a0.size : Int))
              by_cases c7 : (a0.extract (x4_1 : Int).toNat ((wrap64 (x4_1 + 5)) : Int).toNat).toList = ([101, 118, 97, 108, 40] : List UInt8)
              · rw [if_pos c7] at H
                have c7b0 : ((a0.extract (x4_1 : Int).toNat ((wrap64 (x4_1 + 5)) : Int).toNat).toList == ([101, 118, 97, 108, 40] : List UInt8)) = true := beq_iff_eq.mpr c7
                have c7b1 : ((a0.extract (x4_1 : Int).toNat ((wrap64 (x4_1 + 5)) : Int).toNat).toList != ([101, 118, 97, 108, 40] : List UInt8)) = false := bne_eq_false_iff_eq.mpr c7
                clear c7
                (first | rw [c7b0] | (simp only [i64_w, i32_w]; rw [c7b0]) | skip)
                by_cases c8 : x4_1 > 0
                · rw [if_pos c8] at H
                  have c8b0 : decide (0 < x4_1) = true := decide_eq_true c8
                  clear c8
                  obtain ⟨ji9, hji9⟩ : ∃ j_ : Int, (wrap64 (x4_1 - 1)) = j_ := ⟨_, rfl⟩
                  replace H : (if 0 ≤ (ji9) then (if (ji9) < (a0.size : Int) then ((util_zzWord.f (bt a0 (ji9))).bind fun t133 => (util_zzEvals.j1 k1 a0 x3_1 x4_1 t133)) else (none)) else (none)) = some r := by first | (rw [hji9] at H; exact H) | (simp only [hji9] at H ⊢; exact H)
                  have hji9w : (IntKind.i64.wrap (x4_1 - 1)) = ji9 := (i64_w _).trans hji9
                  by_cases c10 : 0 ≤ (ji9)
                  · rw [if_pos c10] at H
                    have c10b0 : decide (0 ≤ (ji9)) = true := decide_eq_true c10
                    clear c10
                    by_cases c11 : (ji9) < (a0.size : Int)
                    · rw [if_pos c11] at H
                      have c11b0 : decide ((ji9) < (a0.size : Int)) = true := decide_eq_true c11
                      clear c11
                      replace H := Option.bind_eq_some_iff.mp H
                      obtain ⟨t133, A130, H⟩ := H
                      replace H : (util_zzEvals.j1 k1 a0 x3_1 x4_1 t133) = some r := H
                      have A13 := Aside0.mk A130
                      clear A130
                      have H' := Aside0.mk H
                      clear H
                      have p12 : 0 ≤ ((ji9) : Int) := of_decide_eq_true (by first | (with_reducible assumption) | assumption)
                      have q12 : (ji9) < (a0.size : Int) := of_decide_eq_true (by first | (with_reducible assumption) | assumption)
                      have hx12 := bt_at a0 (ji9)
                      replace p12 := eq_true p12
                      replace q12 := eq_true q12
                      go_wp2_with (first | (go_at_call 68; (with_reducible refine (util_zzWord.calls (bt a0 (ji9)) t133 _ A13.out).mono ?_); rintro e w' ⟨rfl, ⟨nd, rfl⟩⟩))
                      go_meet
                      case rel => exact ⟨_, (t133), (by first | rfl | (simp; done) | (simp [*]; done)), H', ⟨by have := HK1.out; first | omega | exact Nat.le_refl _⟩, ⟨by (with_reducible repeat (first | apply Kd.R_alloc | apply Kd.R_drewN | apply Kd.R_drew)); exact HO_3.out⟩, ⟨by repeat (first | (with_reducible first | exact HB.out | apply below_alloc | apply pw_below_drewN | apply below_drew1) | exact HB.out)⟩⟩
                    · rw [if_neg c11] at H
                      exact absurd H (by simp)
                  · rw [if_neg c10] at H
                    exact absurd H (by simp)
                · rw [if_neg c8] at H
                  have c8b0 : decide (0 < x4_1) = false := decide_eq_false c8
                  clear c8
                  have H' := Aside0.mk H
                  clear H
                  go_wp2
                  go_meet
                  case rel => exact ⟨_, (false), (by first | rfl | (simp; done) | (simp [*]; done)), H', ⟨by have := HK1.out; first | omega | exact Nat.le_refl _⟩, ⟨by (with_reducible repeat (first | apply Kd.R_alloc | apply Kd.R_drewN | apply Kd.R_drew)); exact HO_3.out⟩, ⟨by repeat (first | (with_reducible first | exact HB.out | apply below_alloc | apply pw_below_drewN | apply below_drew1) | exact HB.out)⟩⟩
              · rw [if_neg c7] at H
                have c7b0 : ((a0.extract (x4_1 : Int).toNat ((wrap64 (x4_1 + 5)) : Int).toNat).toList == ([101, 118, 97, 108, 40] : List UInt8)) = false := beq_eq_false_iff_ne.mpr c7
                have c7b1 : ((a0.extract (x4_1 : Int).toNat ((wrap64 (x4_1 + 5)) : Int).toNat).toList != ([101, 118, 97, 108, 40] : List UInt8)) = true := bne_iff_ne.mpr c7
                (first | rw [c7b0] | (simp only [i64_w, i32_w]; rw [c7b0]) | skip)
                have H' := Aside0.mk H
                clear H
                go_wp2
                go_meet
                case rel => exact ⟨_, (true), (by first | rfl | (simp; done) | (simp [*]; done)), H', ⟨by have := HK1.out; first | omega | exact Nat.le_refl _⟩, ⟨by (with_reducible repeat (first | apply Kd.R_alloc | apply Kd.R_drewN | apply Kd.R_drew)); exact HO_3.out⟩, ⟨by repeat (first | (with_reducible first | exact HB.out | apply below_alloc | apply pw_below_drewN | apply below_drew1) | exact HB.out)⟩⟩
            · rw [if_neg c5] at H
              exact absurd H (by simp)
          · rw [if_neg c4] at H
            exact absurd H (by simp)
        case rest =>
          clear HC3
          try clear c1
          try clear p1
          try clear q1
          try clear hx1
          try clear c2
          try clear c2b0
          try clear p2
          try clear c4
          try clear c4b0
          try clear c4b1
          try clear c5
          try clear c5b0
          try clear c5b1
          try clear c6
          try clear c6b0
          try clear p6
          try clear c7
          try clear c7b0
          try clear c7b1
          try clear c8
          try clear c8b0
          try clear c10
          try clear c10b0
          try clear c11
          try clear c11b0
          try clear p12
          try clear q12
          try clear hx12
          try clear p12
          try clear q12
          obtain ⟨kq, x29_2, rfl, HA, HJ2, HO_3, HB⟩ := hcut
          cases kq with
          | zero => exact absurd HA.out (by simp [util_zzEvals.j1])
          | succ kj2 =>
            have H := HA.out
            clear HA
            simp only [util_zzEvals.j1] at H
            by_cases c14 : x29_2 = true
            · subst c14
              have H1 : (util_zzEvals.l0 kj2 a0 x3_1 (wrap64 (x4_1 + 1))) = some r := by rw [if_pos rfl] at H; exact H
              clear H
              have H := H1
              clear H1
              have H' := Aside0.mk H
              clear H
              go_wp2
              go_roundg kj2
              case measure => have := HK1.out; have := HJ2.out; omega
              case rel => exact ⟨(x3_1), (wrap64 (x4_1 + 1)), (by first | rfl | (simp; done) | (simp [*]; done)), H', ⟨by have := HK1.out; have := HJ2.out; omega⟩, ⟨by (with_reducible repeat (first | apply Kd.R_alloc | apply Kd.R_drewN | apply Kd.R_drew)); exact HO_3.out⟩, ⟨by repeat (first | (with_reducible first | exact HB.out | apply below_alloc | apply pw_below_drewN | apply below_drew1) | exact HB.out)⟩⟩
            · replace c14 := Bool.eq_false_iff.mpr c14
              subst c14
              have H1 : (util_zzEvals.l1 kj2 a0 x3_1 x4_1 (wrap64 (x4_1 + 5))) = some r := by rw [if_neg (show ¬ (false = true) by decide)] at H; exact H
              clear H
              have H := H1
              clear H1
              have H' := Aside0.mk H
              clear H
              go_wp2
              go_loopg [3, 4, 5] kj2 (fun kq v3 v4 v5 w' => ∃ (x3_3 : List (S55)) (x4_3 : Int) (x5_3 : Int), v4 = .int .i64 x4_3 ∧ v5 = .int .i64 x5_3 ∧ Aside0 (util_zzEvals.l1 kq a0 x3_3 x4_3 x5_3 = some r) ∧ Aside0 (kq ≤ kj2) ∧ Aside0 (Kd.R k55 55 w' w.heap.size (fun _ => True) v3 x3_3) ∧ Aside0 (Below w.heap.size w w'))
              case atStart => exact ⟨(x3_1), (x4_1), (wrap64 (x4_1 + 5)), (by first | rfl | (simp; done) | (simp [*]; done)), (by first | rfl | (simp; done) | (simp [*]; done)), H', ⟨Nat.le_refl _⟩, ⟨by (with_reducible repeat (first | apply Kd.R_alloc | apply Kd.R_drewN | apply Kd.R_drew)); exact HO_3.out⟩, ⟨by repeat (first | (with_reducible first | exact HB.out | apply below_alloc | apply pw_below_drewN | apply below_drew1) | exact HB.out)⟩⟩
              case round =>
                clear H'
                try clear c1
                try clear p1
                try clear q1
                try clear hx1
                try clear c2
                try clear c2b0
                try clear p2
                try clear c4
                try clear c4b0
                try clear c4b1
                try clear c5
                try clear c5b0
                try clear c5b1
                try clear c6
                try clear c6b0
                try clear p6
                try clear c7
                try clear c7b0
                try clear c7b1
                try clear c8
                try clear c8b0
                try clear c10
                try clear c10b0
                try clear c11
                try clear c11b0
                try clear p12
                try clear q12
                try clear hx12
                try clear c14
                try clear p1
                try clear p12
                try clear p2
                try clear p6
                try clear q1
                try clear q12
                obtain ⟨x3_3, x4_3, x5_3, rfl, rfl, HA, HK3, HO_3, HB⟩ := hrel
                cases gk with
                | zero => exact absurd HA.out (by simp [util_zzEvals.l1])
                | succ k3 =>
                  have H := HA.out
                  clear HA
                  simp only [util_zzEvals.l1] at H
                  by_cases c15 : x5_3 < (a0.size : Int)
                  · rw [if_pos c15] at H
                    have c15b0 : decide (x5_3 < (a0.size : Int)) = true := decide_eq_true c15
                    clear c15
                    by_cases c16 : 0 ≤ x5_3
                    · rw [if_pos c16] at H
                      have c16b0 : decide (0 ≤ x5_3) = true := decide_eq_true c16
                      clear c16
                      by_cases c18 : (bt a0 x5_3) = 41
                      · rw [if_pos c18] at H
                        have c18b0 : ((bt a0 x5_3) == 41) = true := beq_iff_eq.mpr c18
                        have c18b1 : ((bt a0 x5_3) != 41) = false := bne_eq_false_iff_eq.mpr c18
                        clear c18
                        by_cases c19 : x3_3.length < 8796093022208
                        · rw [if_pos c19] at H
                          have LMc19 := Aside0.mk c19
                          clear c19
                          obtain ⟨y134, hy134⟩ : ∃ y_ : List (S55), y_ = (x3_3 ++ [(⟨x4_3, wrap64 (x5_3 + 1)⟩ : S55)]) := ⟨_, rfl⟩
                          replace H : (util_zzEvals.l0 k3 a0 y134 (wrap64 (x5_3 + 1))) = some r := by first | (rw [hy134]; with_reducible exact H) | (have H2_ := (Option.bind_some _ _).symm.trans H; rw [hy134]; with_reducible exact H2_) | (have H2_ := (Option.bind_some _ _).symm.trans H; with_reducible exact H2_) | with_reducible exact H | (rw [hy134]; exact H) | exact H
                          have Ny134 := Aside0.mk hy134
                          clear hy134
                          have H' := Aside0.mk H
                          clear H
                          have p17 : 0 ≤ (x5_3 : Int) := of_decide_eq_true (by first | (with_reducible assumption) | assumption)
                          have q17 : x5_3 < (a0.size : Int) := of_decide_eq_true (by first | (with_reducible assumption) | assumption)
                          have hx17 := bt_at a0 x5_3
                          replace p17 := eq_true p17
                          replace q17 := eq_true q17
                          go_wp2_with (first | ((with_reducible refine gate_builtin (b := .append) (xs := #[.tmp 42, .tmp 47]) rfl ?_); at_builtin; refine Kd.R_append k55 (w0 := w) w.heap.size rfl (.tmp 42) (.tmp 47) 53 55 (.agg #[(.int .i64 0), (.int .i64 0)]) 16 rfl Try.underlying53 info55 rfl (by decide) (by omega) u3 x3_3 (⟨x4_3, wrap64 (x5_3 + 1)⟩ : S55) [.int .i64 x4_3, .int .i64 (wrap64 (x5_3 + 1))] (fun _ => True) (fun _ => False) rfl rfl ?aP (fun _ hk => hk.elim) ?aF ?aO ?aB ?aS ?aL ?_; (case aP => exact k55_mkM _ _ _ (⟨x4_3, wrap64 (x5_3 + 1)⟩ : S55)); (case aB => exact (by repeat (first | (with_reducible first | exact HB.out | apply below_alloc | apply pw_below_drewN | apply below_drew1) | exact HB.out))); (case aF => exact (fun _ _ => trivial)); (case aO => exact (by (with_reducible repeat (first | apply Kd.R_alloc | apply Kd.R_drewN | apply Kd.R_drew)); exact HO_3.out)); (case aS => exact (below_size (by repeat (first | (with_reducible first | exact HB.out | apply below_alloc | apply pw_below_drewN | apply below_drew1) | exact HB.out)))); (case aL => have := LMc19.out; omega); intro v135 w20 ho hb hg hat; rw [← Ny134.out] at ho; have n0_ := Aside0.mk (hb); have n1_ := Aside0.mk (ho); clear HB; clear HO_3; have HB := n0_; have HO136 := n1_; clear n0_ n1_; clear ho hb hg hat))
                          go_roundg k3
                          case measure => have := HK1.out; have := HJ2.out; have := HK3.out; omega
                          case rel => exact ⟨(y134), (wrap64 (x5_3 + 1)), (by first | rfl | (simp; done) | (simp [*]; done)), H', ⟨by have := HK1.out; have := HJ2.out; have := HK3.out; omega⟩, ⟨by (with_reducible repeat (first | apply Kd.R_alloc | apply Kd.R_drewN | apply Kd.R_drew)); exact HO136.out⟩, ⟨by repeat (first | (with_reducible first | exact HB.out | apply below_alloc | apply pw_below_drewN | apply below_drew1) | exact HB.out)⟩⟩
                        · rw [if_neg c19] at H
                          exact absurd H (by simp)
                      · rw [if_neg c18] at H
                        have c18b0 : ((bt a0 x5_3) == 41) = false := beq_eq_false_iff_ne.mpr c18
                        have c18b1 : ((bt a0 x5_3) != 41) = true := bne_iff_ne.mpr c18
                        have H' := Aside0.mk H
                        clear H
                        have p17 : 0 ≤ (x5_3 : Int) := of_decide_eq_true (by first | (with_reducible assumption) | assumption)
                        have q17 : x5_3 < (a0.size : Int) := of_decide_eq_true (by first | (with_reducible assumption) | assumption)
                        have hx17 := bt_at a0 x5_3
                        replace p17 := eq_true p17
                        replace q17 := eq_true q17
                        go_wp2
                        go_roundg k3
                        case measure => have := HK1.out; have := HJ2.out; have := HK3.out; omega
                        case rel => exact ⟨(x3_3), (x4_3), (wrap64 (x5_3 + 1)), (by first | rfl | (simp; done) | (simp [*]; done)), (by first | rfl | (simp; done) | (simp [*]; done)), H', ⟨by have := HK1.out; have := HJ2.out; have := HK3.out; omega⟩, ⟨by (with_reducible repeat (first | apply Kd.R_alloc | apply Kd.R_drewN | apply Kd.R_drew)); exact HO_3.out⟩, ⟨by repeat (first | (with_reducible first | exact HB.out | apply below_alloc | apply pw_below_drewN | apply below_drew1) | exact HB.out)⟩⟩
                    · rw [if_neg c16] at H
                      exact absurd H (by simp)
                  · rw [if_neg c15] at H
                    have c15b0 : decide (x5_3 < (a0.size : Int)) = false := decide_eq_false c15
                    clear c15
                    have H' := Aside0.mk H
                    clear H
                    go_wp2
                    go_roundg k3
                    case measure => have := HK1.out; have := HJ2.out; have := HK3.out; omega
                    case rel => exact ⟨(x3_3), (wrap64 (x4_3 + 1)), (by first | rfl | (simp; done) | (simp [*]; done)), H', ⟨by have := HK1.out; have := HJ2.out; have := HK3.out; omega⟩, ⟨by (with_reducible repeat (first | apply Kd.R_alloc | apply Kd.R_drewN | apply Kd.R_drew)); exact HO_3.out⟩, ⟨by repeat (first | (with_reducible first | exact HB.out | apply below_alloc | apply pw_below_drewN | apply below_drew1) | exact HB.out)⟩⟩
      · rw [if_neg c2] at H
        have c2b0 : decide ((wrap64 (x4_1 + 5)) ≤ (a0.size : Int)) = false := decide_eq_false c2
        clear c2
        obtain rfl := Option.some.inj H
        go_wp2
        go_ret
        exact ⟨_, by first | rfl | (simp [errW_none, errW_some] <;> rfl) | (simp [*, errW_none, errW_some] <;> rfl), by (with_reducible repeat (first | apply Kd.R_alloc | apply Kd.R_drewN | apply Kd.R_drew)); exact HO_3.out, by repeat (first | (with_reducible first | exact HB.out | apply below_alloc | apply pw_below_drewN | apply below_drew1) | exact HB.out)⟩

/-! ### util_HasEval: function 52 -/
def util_HasEval.f (k : Nat) (a0 : ByteArray) : Option (Bool) := (util_zzEvals.f k a0).bind fun t137 => (some (decide ((t137.length : Int) > 0)))
theorem util_HasEval.mono : ∀ a0 k, LeO (util_HasEval.f k a0) (util_HasEval.f (k + 1) a0) := by
  intro a0 k
  unfold util_HasEval.f
  repeat' first
      | (with_reducible exact util_zzEvals.mono _ _)
      | (with_reducible exact LeO.refl _)
      | (with_reducible exact LeO.none _)
      | (with_reducible refine LeO.ite ?_ ?_)
      | (with_reducible refine LeO.bind ?_ (fun _ => ?_))
      | exact util_zzEvals.mono _ _
      | exact LeO.none _
      | refine LeO.ite ?_ ?_
      | refine LeO.bind ?_ (fun _ => ?_)
set_option maxHeartbeats 8000000 in
set_option maxRecDepth 100000 in
theorem util_HasEval.calls (k : Nat) (a0 : ByteArray) (r : Bool) (w : World) (h : util_HasEval.f k a0 = some r) :
    Calls Try.prog 52 #[.string a0] w fun e w' => e = .returned (.bool r) ∧ Below w.heap.size w w' := by
  have HB := Aside0.mk (Below.refl w.heap.size w)
  have H : ((util_zzEvals.f k a0).bind fun t137 => (some (decide ((t137.length : Int) > 0)))) = some r := h
  clear h
  replace H := Option.bind_eq_some_iff.mp H
  obtain ⟨t137, A20, H⟩ := H
  replace H : (some (decide ((t137.length : Int) > 0))) = some r := H
  have A2 := Aside0.mk A20
  clear A20
  obtain rfl := Option.some.inj H
  go_enter Try.func52, Try.ntmps52
  go_wp2_with (first | ((with_reducible refine gate_callee (f := 62) rfl ?_); refine goesL_ (some 4) rfl rfl Try.func62 (by kernel_rfl) rfl #[.string a0] rfl (by (try simp only [List.map_toArray, List.map_cons, List.map_nil]); first | done | rfl | (simp only [List.length_drop, List.length_take]; rfl)) ?_; (with_reducible refine (util_zzEvals.calls k a0 t137 _ A2.out).mono ?_); rintro e w3 ⟨v138, rfl, ho0, hb⟩; refine ⟨_, rfl, ?_⟩; have n0_ := Aside0.mk (Kd.R_lower ho0 (below_size (by repeat (first | (with_reducible first | exact HB.out | apply below_alloc | apply pw_below_drewN | apply below_drew1) | exact HB.out)))); have n1_ := Aside0.mk (below_step (by repeat (first | (with_reducible first | exact HB.out | apply below_alloc | apply pw_below_drewN | apply below_drew1) | exact HB.out)) hb); clear HB; have HO139 := n0_; have HB := n1_; clear n0_ n1_; (try clear hb); (try clear hb2); (try clear hk); (try clear hi); (try clear ho0); obtain ⟨Ao4, co4, eo4⟩ := Kd.R_slice HO139.out; subst eo4))
  go_ret
  exact ⟨by first | rfl | (simp [errW_none, errW_some] <;> rfl) | (simp [*, errW_none, errW_some] <;> rfl), by repeat (first | (with_reducible first | exact HB.out | apply below_alloc | apply pw_below_drewN | apply below_drew1) | exact HB.out)⟩

/-! ### impl_HasEval: function 31 -/
def impl_HasEval.f (k : Nat) (a0 : ByteArray) : Option (Bool) := (util_HasEval.f k a0).bind fun t140 => (some t140)
theorem impl_HasEval.mono : ∀ a0 k, LeO (impl_HasEval.f k a0) (impl_HasEval.f (k + 1) a0) := by
  intro a0 k
  unfold impl_HasEval.f
  repeat' first
      | (with_reducible exact util_HasEval.mono _ _)
      | (with_reducible exact LeO.refl _)
      | (with_reducible exact LeO.none _)
      | (with_reducible refine LeO.ite ?_ ?_)
      | (with_reducible refine LeO.bind ?_ (fun _ => ?_))
      | exact util_HasEval.mono _ _
      | exact LeO.none _
      | refine LeO.ite ?_ ?_
      | refine LeO.bind ?_ (fun _ => ?_)
set_option maxHeartbeats 8000000 in
set_option maxRecDepth 100000 in
theorem impl_HasEval.calls (k : Nat) (a0 : ByteArray) (r : Bool) (w : World) (h : impl_HasEval.f k a0 = some r) :
    Calls Try.prog 31 #[.string a0] w fun e w' => e = .returned (.bool r) ∧ Below w.heap.size w w' := by
  have HB := Aside0.mk (Below.refl w.heap.size w)
  have H : ((util_HasEval.f k a0).bind fun t140 => (some t140)) = some r := h
  clear h
  replace H := Option.bind_eq_some_iff.mp H
  obtain ⟨t140, A20, H⟩ := H
  replace H : (some t140) = some r := H
  have A2 := Aside0.mk A20
  clear A20
  obtain rfl := Option.some.inj H
  go_enter Try.func31, Try.ntmps31
  go_wp2_with (first | ((with_reducible refine gate_callee (f := 52) rfl ?_); refine goesL_ (some 4) rfl rfl Try.func52 (by kernel_rfl) rfl #[.string a0] rfl (by (try simp only [List.map_toArray, List.map_cons, List.map_nil]); first | done | rfl | (simp only [List.length_drop, List.length_take]; rfl)) ?_; (with_reducible refine (util_HasEval.calls k a0 t140 _ A2.out).mono ?_); rintro e w3 ⟨rfl, hb⟩; refine ⟨_, rfl, ?_⟩; have n0_ := Aside0.mk (below_step (by repeat (first | (with_reducible first | exact HB.out | apply below_alloc | apply pw_below_drewN | apply below_drew1) | exact HB.out)) hb); clear HB; have HB := n0_; clear n0_; (try clear hb); (try clear hb2); (try clear hk); (try clear hi)))
  go_ret
  exact ⟨by first | rfl | (simp [errW_none, errW_some] <;> rfl) | (simp [*, errW_none, errW_some] <;> rfl), by repeat (first | (with_reducible first | exact HB.out | apply below_alloc | apply pw_below_drewN | apply below_drew1) | exact HB.out)⟩

/-! ### util_GetEvalValue: function 53 -/
def util_GetEvalValue.l0 : Nat → ByteArray → List ByteArray → List (S55) → Int → Int → Option (List ByteArray)
  | 0, _, _, _, _, _ => none
  | k + 1, x0, x3, x7, x8, x9 => if x9 < x8 then (if 0 ≤ x9 then (if x9 < (x7.length : Int) then (if 0 ≤ (wrap64 (((rd_T55 x7 x9).f0) + 5)) then (if (wrap64 (((rd_T55 x7 x9).f0) + 5)) ≤ (wrap64 (((rd_T55 x7 x9).f1) - 1)) then (if (wrap64 (((rd_T55 x7 x9).f1) - 1)) ≤ (x0.size : Int) then (if x3.length < 8796093022208 then (util_GetEvalValue.l0 k x0 (x3 ++ [x0.extract ((wrap64 (((rd_T55 x7 x9).f0) + 5)) : Int).toNat ((wrap64 (((rd_T55 x7 x9).f1) - 1)) : Int).toNat]) x7 x8 (wrap64 (x9 + 1))) else (none)) else (none)) else (none)) else (none)) else (none)) else (none)) else (some x3)
def util_GetEvalValue.f (k : Nat) (a0 : ByteArray) : Option (List ByteArray) := (util_zzEvals.f k a0).bind fun t141 => (util_GetEvalValue.l0 k a0 ([] : List ByteArray) t141 (t141.length : Int) 0)
theorem util_GetEvalValue.mono_l : ∀ k, (∀ y0 y1 y2 y3 y4, LeO (util_GetEvalValue.l0 k y0 y1 y2 y3 y4) (util_GetEvalValue.l0 (k + 1) y0 y1 y2 y3 y4))
  | 0 => fun _ _ _ _ _ r h => by simp [util_GetEvalValue.l0] at h
  | k + 1 => by
    have ih0 := util_GetEvalValue.mono_l k
    · intro y0 y1 y2 y3 y4
      unfold util_GetEvalValue.l0
      repeat' first
      | (with_reducible exact ih0 _ _ _ _ _)
      | (with_reducible exact util_zzEvals.mono _ _)
      | (with_reducible exact LeO.refl _)
      | (with_reducible exact LeO.none _)
      | (with_reducible refine LeO.ite ?_ ?_)
      | (with_reducible refine LeO.bind ?_ (fun _ => ?_))
      | exact ih0 _ _ _ _ _
      | exact util_zzEvals.mono _ _
      | exact LeO.none _
      | refine LeO.ite ?_ ?_
      | refine LeO.bind ?_ (fun _ => ?_)
theorem util_GetEvalValue.mono : ∀ a0 k, LeO (util_GetEvalValue.f k a0) (util_GetEvalValue.f (k + 1) a0) := by
  intro a0 k
  have ih0 := util_GetEvalValue.mono_l k
  unfold util_GetEvalValue.f
  repeat' first
      | (with_reducible exact ih0 _ _ _ _ _)
      | (with_reducible exact util_zzEvals.mono _ _)
      | (with_reducible exact LeO.refl _)
      | (with_reducible exact LeO.none _)
      | (with_reducible refine LeO.ite ?_ ?_)
      | (with_reducible refine LeO.bind ?_ (fun _ => ?_))
      | exact ih0 _ _ _ _ _
      | exact util_zzEvals.mono _ _
      | exact LeO.none _
      | refine LeO.ite ?_ ?_
      | refine LeO.bind ?_ (fun _ => ?_)
set_option maxHeartbeats 8000000 in
set_option maxRecDepth 100000 in
theorem util_GetEvalValue.calls (k : Nat) (a0 : ByteArray) (r : List ByteArray) (w : World) (h : util_GetEvalValue.f k a0 = some r) :
    Calls Try.prog 53 #[.string a0] w fun e w' => ∃ v0_ : Value, e = .returned (v0_) ∧ Kd.R Kd.string 9 w' w.heap.size (fun _ => True) v0_ r ∧ Below w.heap.size w w' := by
  have hu55 := Try.underlying55
  have HB := Aside0.mk (Below.refl w.heap.size w)
  have H : ((util_zzEvals.f k a0).bind fun t141 => (util_GetEvalValue.l0 k a0 ([] : List ByteArray) t141 (t141.length : Int) 0)) = some r := h
  clear h
  replace H := Option.bind_eq_some_iff.mp H
  obtain ⟨t141, A20, H⟩ := H
  replace H : (util_GetEvalValue.l0 k a0 ([] : List ByteArray) t141 (t141.length : Int) 0) = some r := H
  have A2 := Aside0.mk A20
  clear A20
  have H' := Aside0.mk H
  clear H
  go_enter Try.func53, Try.ntmps53
  go_wp2_with (first | ((with_reducible refine gate_callee (f := 62) rfl ?_); refine goesL_ (some 7) rfl rfl Try.func62 (by kernel_rfl) rfl #[.string a0] rfl (by (try simp only [List.map_toArray, List.map_cons, List.map_nil]); first | done | rfl | (simp only [List.length_drop, List.length_take]; rfl)) ?_; (with_reducible refine (util_zzEvals.calls k a0 t141 _ A2.out).mono ?_); rintro e w3 ⟨v142, rfl, ho0, hb⟩; refine ⟨_, rfl, ?_⟩; have n0_ := Aside0.mk (Kd.R_lower ho0 (below_size (by repeat (first | (with_reducible first | exact HB.out | apply below_alloc | apply pw_below_drewN | apply below_drew1) | exact HB.out)))); have n1_ := Aside0.mk (below_step (by repeat (first | (with_reducible first | exact HB.out | apply below_alloc | apply pw_below_drewN | apply below_drew1) | exact HB.out)) hb); clear HB; have HO143 := n0_; have HB := n1_; clear n0_ n1_; (try clear hb); (try clear hb2); (try clear hk); (try clear hi); (try clear ho0); obtain ⟨Ao4, co4, eo4⟩ := Kd.R_slice HO143.out; subst eo4))
  go_loopg [3, 9] k (fun kq v3 v9 w' => ∃ (x3_1 : List ByteArray) (x9_1 : Int), v9 = .int .i64 x9_1 ∧ Aside0 (util_GetEvalValue.l0 kq a0 x3_1 t141 (t141.length : Int) x9_1 = some r) ∧ Aside0 (kq ≤ k) ∧ Aside0 (Kd.R Kd.string 9 w' w.heap.size (fun _ => True) v3 x3_1) ∧ Aside0 (Kd.R k55 55 w' w.heap.size (fun _ => True) (.slice Ao4 t141.length co4) t141) ∧ Aside0 (Below w.heap.size w w'))
  case atStart => exact ⟨(([] : List ByteArray)), (0), (by first | rfl | (simp; done) | (simp [*]; done)), H', ⟨Nat.le_refl _⟩, ⟨by first | exact Kd.R_nil _ _ _ _ _ | exact Kd.N_nil _ _ _ _ _ | exact Kd.V_nil _ _ _ _ _ | exact Kd.Q_nil _ _ _ _ _ | exact Kd.S_nil _ _ _ _ _⟩, ⟨by (with_reducible repeat (first | apply Kd.R_alloc | apply Kd.R_drewN | apply Kd.R_drew)); exact HO143.out⟩, ⟨by repeat (first | (with_reducible first | exact HB.out | apply below_alloc | apply pw_below_drewN | apply below_drew1) | exact HB.out)⟩⟩
  case round =>
    clear H'
    try clear p2
    obtain ⟨x3_1, x9_1, rfl, HA, HK1, HO_3, HO_7, HB⟩ := hrel
    cases gk with
    | zero => exact absurd HA.out (by simp [util_GetEvalValue.l0])
    | succ k1 =>
      have H := HA.out
      clear HA
      simp only [util_GetEvalValue.l0] at H
      by_cases c5 : x9_1 < (t141.length : Int)
      · rw [if_pos c5] at H
        have c5b0 : decide (x9_1 < (t141.length : Int)) = true := decide_eq_true c5
        clear c5
        by_cases c6 : 0 ≤ x9_1
        · rw [if_pos c6] at H
          have c6b0 : decide (0 ≤ x9_1) = true := decide_eq_true c6
          clear c6
          by_cases c7 : x9_1 < (t141.length : Int)
          · rw [if_pos c7] at H
            have c7b0 : decide (x9_1 < (t141.length : Int)) = true := decide_eq_true c7
            clear c7
            obtain ⟨ji8, hji8⟩ : ∃ j_ : Int, (wrap64 (((rd_T55 t141 x9_1).f0) + 5)) = j_ := ⟨_, rfl⟩
            replace H : (if 0 ≤ (ji8) then (if (ji8) ≤ (wrap64 (((rd_T55 t141 x9_1).f1) - 1)) then (if (wrap64 (((rd_T55 t141 x9_1).f1) - 1)) ≤ (a0.size : Int) then (if x3_1.length < 8796093022208 then (util_GetEvalValue.l0 k1 a0 (x3_1 ++ [a0.extract ((ji8) : Int).toNat ((wrap64 (((rd_T55 t141 x9_1).f1) - 1)) : Int).toNat]) t141 (t141.length : Int) (wrap64 (x9_1 + 1))) else (none)) else (none)) else (none)) else (none)) = some r := by first | (rw [hji8] at H; exact H) | (simp only [hji8] at H ⊢; exact H)
            have hji8w : (IntKind.i64.wrap (((rd_T55 t141 x9_1).f0) + 5)) = ji8 := (i64_w _).trans hji8
            by_cases c9 : 0 ≤ (ji8)
            · rw [if_pos c9] at H
              have c9b0 := eq_true c9
              have c9b1 : decide (0 ≤ (ji8)) = true := decide_eq_true c9
              clear c9
              by_cases c10 : (ji8) ≤ (wrap64 (((rd_T55 t141 x9_1).f1) - 1))
              · rw [if_pos c10] at H
                have c10b0 := eq_true c10
                have c10b1 : decide ((ji8) ≤ (wrap64 (((rd_T55 t141 x9_1).f1) - 1))) = true := decide_eq_true c10
                clear c10
                by_cases c11 : (wrap64 (((rd_T55 t141 x9_1).f1) - 1)) ≤ (a0.size : Int)
                · rw [if_pos c11] at H
                  have c11b0 := eq_true c11
                  have c11b1 : decide ((wrap64 (((rd_T55 t141 x9_1).f1) - 1)) ≤ (a0.size : Int)) = true := decide_eq_true c11
                  clear c11
                  by_cases c12 : x3_1.length < 8796093022208
                  · rw [if_pos c12] at H
                    have LMc12 := Aside0.mk c12
                    clear c12
                    obtain ⟨y146, hy146⟩ : ∃ y_ : List ByteArray, y_ = (x3_1 ++ [a0.extract ((ji8) : Int).toNat ((wrap64 (((rd_T55 t141 x9_1).f1) - 1)) : Int).toNat]) := ⟨_, rfl⟩
                    replace H : (util_GetEvalValue.l0 k1 a0 y146 t141 (t141.length : Int) (wrap64 (x9_1 + 1))) = some r := by first | (rw [hy146]; with_reducible exact H) | (have H2_ := (Option.bind_some _ _).symm.trans H; rw [hy146]; with_reducible exact H2_) | (have H2_ := (Option.bind_some _ _).symm.trans H; with_reducible exact H2_) | with_reducible exact H | (rw [hy146]; exact H) | exact H
                    have Ny146 := Aside0.mk hy146
                    clear hy146
                    have H' := Aside0.mk H
                    clear H
                    have p144 : 0 ≤ (x9_1 : Int) := of_decide_eq_true (by first | (with_reducible assumption) | assumption)
                    have q144 : x9_1 < (t141.length : Int) := of_decide_eq_true (by first | (with_reducible assumption) | assumption)
                    obtain ⟨ad144, e144, hx144_0, hx144_1⟩ := at_T55 (Kd.R_reads' HO_7.out).2.2 x9_1 p144 q144
                    cases e144
                    replace p144 := eq_true p144
                    replace q144 := eq_true q144
                    go_wp2_with (first | ((with_reducible refine gate_dst (N := 5) rfl ?_); refine box_event ?hg (N := 5) ?hd (cs := #[.int .i64 0, .int .i64 0]) (t := 55) ?hr ?_; (case hd => rfl); (case hg => rfl); (case hr => first | (go_simp; done) | (go_simp; rfl)); intro gb145 hg w13 hbox hb; have n0_ := Aside0.mk (Kd.R_below (by (with_reducible repeat (first | apply Kd.R_alloc | apply Kd.R_drewN | apply Kd.R_drew)); exact HO_3.out) hb); have n1_ := Aside0.mk (Kd.R_below (Kd.R_elderB (by (with_reducible repeat (first | apply Kd.R_alloc | apply Kd.R_drewN | apply Kd.R_drew)); exact HO_7.out) gb145 (Nat.le_of_eq hg.symm)) hb); have n2_ := Aside0.mk (below_step (by repeat (first | (with_reducible first | exact HB.out | apply below_alloc | apply pw_below_drewN | apply below_drew1) | exact HB.out)) hb); have n3_ := Aside0.mk (hbox); have n4_ := Aside0.mk ((by rw [hg]; exact (below_size (by repeat (first | (with_reducible first | exact HB.out | apply below_alloc | apply pw_below_drewN | apply below_drew1) | exact HB.out))) : w.heap.size ≤ gb145)); have n5_ := Aside0.mk ((by rw [hg]; exact (below_size (by repeat (first | (with_reducible first | exact HB.out | apply below_alloc | apply pw_below_drewN | apply below_drew1) | exact HB.out))) : w.heap.size ≤ gb145)); clear HO_3; clear HO_7; clear HB; have HO_3 := n0_; have HO_7 := n1_; have HB := n2_; have BK145 := n3_; have GW145 := n4_; have GE145 := n5_; clear n0_ n1_ n2_ n3_ n4_ n5_; clear hb hbox hg; have hcz14_0 : w13.cell? ⟨gb145, 0, none⟩ = some (.int .i64 0) := (blk_cell BK145.out 0).trans rfl; have hcz14_1 : w13.cell? ⟨gb145, 1, none⟩ = some (.int .i64 0) := (blk_cell BK145.out 1).trans rfl; have hfz14_0 := blk_frozen BK145.out 0; have hfz14_1 := blk_frozen BK145.out 1) | ((with_reducible refine gate_builtin (b := .append) (xs := #[.tmp 13, .tmp 22]) rfl ?_); at_builtin; refine Kd.R_append Kd.string (w0 := w) w.heap.size rfl (.tmp 13) (.tmp 22) 22 9 (.string ⟨#[]⟩) 16 rfl Try.underlying22 info9 rfl (by decide) (by omega) u3 x3_1 (a0.extract ((ji8) : Int).toNat ((wrap64 (((rd_T55 t141 x9_1).f1) - 1)) : Int).toNat) [.string (a0.extract ((ji8) : Int).toNat ((wrap64 (((rd_T55 t141 x9_1).f1) - 1)) : Int).toNat)] (fun _ => True) (fun _ => False) rfl (by first | (go_simp; done) | (go_simp; rfl)) ?aP (fun _ hk => hk.elim) ?aF ?aO ?aB ?aS ?aL ?_; (case aP => exact rfl); (case aB => exact (by repeat (first | (with_reducible first | exact HB.out | apply below_alloc | apply pw_below_drewN | apply below_drew1 | refine below_set ?_ GE145.out) | exact HB.out))); (case aF => exact (fun _ _ => trivial)); (case aO => exact (by (with_reducible repeat (first | apply Kd.R_alloc | apply Kd.R_drewN | apply Kd.R_drew)); exact Kd.R_mono (Kd.R_far (p := ⟨gb145, 1, none⟩) (Kd.R_far (p := ⟨gb145, 0, none⟩) (Kd.R_types HO_3.out BK145.out (by decide)) (fun _ hk => hk.2) (.int .i64 ((rd_T55 t141 x9_1).f0))) (fun _ hk => hk.2) (.int .i64 ((rd_T55 t141 x9_1).f1))) (fun _ hk => trivial))); (case aS => exact (below_size (by repeat (first | (with_reducible first | exact HB.out | apply below_alloc | apply pw_below_drewN | apply below_drew1 | refine below_set ?_ GE145.out) | exact HB.out)))); (case aL => have := LMc12.out; omega); intro v147 w15 ho hb hg hat; rw [← Ny146.out] at ho; have n0_ := Aside0.mk (Kd.R_over' (by (with_reducible repeat (first | apply Kd.R_alloc | apply Kd.R_drewN | apply Kd.R_drew)); exact (Kd.R_mono (Kd.R_far (p := ⟨gb145, 1, none⟩) (Kd.R_far (p := ⟨gb145, 0, none⟩) (Kd.R_mono HO_7.out (fun k_ hk => (⟨hk, hk.2⟩ : _ ∧ k_ ≠ gb145))) (fun _ hk => hk.2) (.int .i64 ((rd_T55 t141 x9_1).f0))) (fun _ hk => hk.2) (.int .i64 ((rd_T55 t141 x9_1).f1))) (fun _ h_ => h_.1))) (Kd.R_typed (by (with_reducible repeat (first | apply Kd.R_alloc | apply Kd.R_drewN | apply Kd.R_drew)); exact (Kd.R_mono (Kd.R_far (p := ⟨gb145, 1, none⟩) (Kd.R_far (p := ⟨gb145, 0, none⟩) (Kd.R_types HO_3.out BK145.out (by decide)) (fun _ hk => hk.2) (.int .i64 ((rd_T55 t141 x9_1).f0))) (fun _ hk => hk.2) (.int .i64 ((rd_T55 t141 x9_1).f1))) (fun _ h_ => h_.1)))) (by decide) hg); have n1_ := Aside0.mk (blk_grown (g := gb145) (o := .cells #[.int .i64 ((rd_T55 t141 x9_1).f0), .int .i64 ((rd_T55 t141 x9_1).f1)] 55 (0, 0)) (by (with_reducible repeat (first | refine blk_drewN ?_ _ | refine blk_drew ?_ | refine blk_alloc ?_ _)); refine blk_put (cs := #[.int .i64 ((rd_T55 t141 x9_1).f0), .int .i64 0]) ?_ 1 _ rfl; (with_reducible repeat (first | refine blk_drewN ?_ _ | refine blk_drew ?_ | refine blk_alloc ?_ _)); refine blk_put (cs := #[.int .i64 0, .int .i64 0]) ?_ 0 _ rfl; (with_reducible repeat (first | refine blk_drewN ?_ _ | refine blk_drew ?_ | refine blk_alloc ?_ _)); exact BK145.out) hg (Kd.R_ne HO_3.out BK145.out (by decide))); have n2_ := Aside0.mk (hb); have n3_ := Aside0.mk (ho); clear HO_7; clear BK145; clear HB; clear HO_3; have HO_7 := n0_; have BK145 := n1_; have HB := n2_; have HO148 := n3_; clear n0_ n1_ n2_ n3_; clear ho hb hg hat))
                    go_roundg k1
                    case measure => have := HK1.out; omega
                    case rel => exact ⟨(y146), (wrap64 (x9_1 + 1)), (by first | rfl | (simp; done) | (simp [*]; done)), H', ⟨by have := HK1.out; omega⟩, ⟨by (with_reducible repeat (first | apply Kd.R_alloc | apply Kd.R_drewN | apply Kd.R_drew)); exact HO148.out⟩, ⟨by (with_reducible repeat (first | apply Kd.R_alloc | apply Kd.R_drewN | apply Kd.R_drew)); exact Kd.R_mono HO_7.out (fun _ hk => trivial)⟩, ⟨by repeat (first | (with_reducible first | exact HB.out | apply below_alloc | apply pw_below_drewN | apply below_drew1 | refine below_set ?_ GE145.out) | exact HB.out)⟩⟩
                  · rw [if_neg c12] at H
                    exact absurd H (by simp)
                · rw [if_neg c11] at H
                  exact absurd H (by simp)
              · rw [if_neg c10] at H
                exact absurd H (by simp)
            · rw [if_neg c9] at H
              exact absurd H (by simp)
          · rw [if_neg c7] at H
            exact absurd H (by simp)
        · rw [if_neg c6] at H
          exact absurd H (by simp)
      · rw [if_neg c5] at H
        have c5b0 : decide (x9_1 < (t141.length : Int)) = false := decide_eq_false c5
        clear c5
        obtain rfl := Option.some.inj H
        go_wp2
        go_ret
        exact ⟨_, by first | rfl | (simp [errW_none, errW_some] <;> rfl) | (simp [*, errW_none, errW_some] <;> rfl), by (with_reducible repeat (first | apply Kd.R_alloc | apply Kd.R_drewN | apply Kd.R_drew)); exact HO_3.out, by repeat (first | (with_reducible first | exact HB.out | apply below_alloc | apply pw_below_drewN | apply below_drew1) | exact HB.out)⟩

/-! ### impl_EvalValues: function 32 -/
def impl_EvalValues.f (k : Nat) (a0 : ByteArray) : Option (List ByteArray) := (util_GetEvalValue.f k a0).bind fun t149 => (some t149)
theorem impl_EvalValues.mono : ∀ a0 k, LeO (impl_EvalValues.f k a0) (impl_EvalValues.f (k + 1) a0) := by
  intro a0 k
  unfold impl_EvalValues.f
  repeat' first
      | (with_reducible exact util_GetEvalValue.mono _ _)
      | (with_reducible exact LeO.refl _)
      | (with_reducible exact LeO.none _)
      | (with_reducible refine LeO.ite ?_ ?_)
      | (with_reducible refine LeO.bind ?_ (fun _ => ?_))
      | exact util_GetEvalValue.mono _ _
      | exact LeO.none _
      | refine LeO.ite ?_ ?_
      | refine LeO.bind ?_ (fun _ => ?_)
set_option maxHeartbeats 8000000 in
set_option maxRecDepth 100000 in
theorem impl_EvalValues.calls (k : Nat) (a0 : ByteArray) (r : List ByteArray) (w : World) (h : impl_EvalValues.f k a0 = some r) :
    Calls Try.prog 32 #[.string a0] w fun e w' => ∃ v0_ : Value, e = .returned (v0_) ∧ Kd.R Kd.string 9 w' w.heap.size (fun _ => True) v0_ r ∧ Below w.heap.size w w' := by
  have HB := Aside0.mk (Below.refl w.heap.size w)
  have H : ((util_GetEvalValue.f k a0).bind fun t149 => (some t149)) = some r := h
  clear h
  replace H := Option.bind_eq_some_iff.mp H
  obtain ⟨t149, A20, H⟩ := H
  replace H : (some t149) = some r := H
  have A2 := Aside0.mk A20
  clear A20
  obtain rfl := Option.some.inj H
  go_enter Try.func32, Try.ntmps32
  go_wp2_with (first | ((with_reducible refine gate_callee (f := 53) rfl ?_); refine goesL_ (some 4) rfl rfl Try.func53 (by kernel_rfl) rfl #[.string a0] rfl (by (try simp only [List.map_toArray, List.map_cons, List.map_nil]); first | done | rfl | (simp only [List.length_drop, List.length_take]; rfl)) ?_; (with_reducible refine (util_GetEvalValue.calls k a0 t149 _ A2.out).mono ?_); rintro e w3 ⟨v150, rfl, ho0, hb⟩; refine ⟨_, rfl, ?_⟩; have n0_ := Aside0.mk (Kd.R_lower ho0 (below_size (by repeat (first | (with_reducible first | exact HB.out | apply below_alloc | apply pw_below_drewN | apply below_drew1) | exact HB.out)))); have n1_ := Aside0.mk (below_step (by repeat (first | (with_reducible first | exact HB.out | apply below_alloc | apply pw_below_drewN | apply below_drew1) | exact HB.out)) hb); clear HB; have HO151 := n0_; have HB := n1_; clear n0_ n1_; (try clear hb); (try clear hb2); (try clear hk); (try clear hi); (try clear ho0)))
  go_ret
  exact ⟨_, by first | rfl | (simp [errW_none, errW_some] <;> rfl) | (simp [*, errW_none, errW_some] <;> rfl), by (with_reducible repeat (first | apply Kd.R_alloc | apply Kd.R_drewN | apply Kd.R_drew)); exact HO151.out, by repeat (first | (with_reducible first | exact HB.out | apply below_alloc | apply pw_below_drewN | apply below_drew1) | exact HB.out)⟩

/-! ### laws_FnEvals: function 7 -/
def laws_FnEvals.f (k : Nat) (a0 : ByteArray) : Option (Bool) := if (a0.size : Int) > 2147483647 then (some true) else ((laws_ascii.f k a0).bind fun t152 => (if t152 = true then ((spec_Evals.f k a0).bind fun t154 => ((impl_HasEval.f k a0).bind fun t157 => (if (t157 != (decide ((t154.length : Int) > 0))) = true then (some false) else (if (t154.length : Int) = 0 then ((laws_awakeUtil.f k).bind fun t158 => (if t158 = true then (some true) else ((impl_EvalValues.f k a0).bind fun t159 => ((spec_SameList.f k t159 t154).bind fun t162 => (if t162 = true then ((laws_awakeUtil.f k).bind fun t163 => (some t163)) else (some false)))))) else ((impl_EvalValues.f k a0).bind fun t164 => ((spec_SameList.f k t164 t154).bind fun t167 => (if t167 = true then ((laws_awakeUtil.f k).bind fun t168 => (some t168)) else (some false)))))))) else ((laws_awakeUtil.f k).bind fun t153 => (some t153))))
theorem laws_FnEvals.mono : ∀ a0 k, LeO (laws_FnEvals.f k a0) (laws_FnEvals.f (k + 1) a0) := by
  intro a0 k
  unfold laws_FnEvals.f
  repeat' first
      | (with_reducible exact impl_EvalValues.mono _ _)
      | (with_reducible exact impl_HasEval.mono _ _)
      | (with_reducible exact laws_ascii.mono _ _)
      | (with_reducible exact laws_awakeUtil.mono _)
      | (with_reducible exact spec_Evals.mono _ _)
      | (with_reducible exact spec_SameList.mono _ _ _)
      | (with_reducible exact LeO.refl _)
      | (with_reducible exact LeO.none _)
      | (with_reducible refine LeO.ite ?_ ?_)
      | (with_reducible refine LeO.bind ?_ (fun _ => ?_))
      | exact impl_EvalValues.mono _ _
      | exact impl_HasEval.mono _ _
      | exact laws_ascii.mono _ _
      | exact laws_awakeUtil.mono _
      | exact spec_Evals.mono _ _
      | exact spec_SameList.mono _ _ _
      | exact LeO.none _
      | refine LeO.ite ?_ ?_
      | refine LeO.bind ?_ (fun _ => ?_)
set_option maxHeartbeats 8000000 in
set_option maxRecDepth 100000 in
theorem laws_FnEvals.calls (k : Nat) (a0 : ByteArray) (r : Bool) (w : World) (h : laws_FnEvals.f k a0 = some r) :
    Calls Try.prog 7 #[.string a0] w fun e w' => e = .returned (.bool r) ∧ Below w.heap.size w w' := by
  have HB := Aside0.mk (Below.refl w.heap.size w)
  have H : (if (a0.size : Int) > 2147483647 then (some true) else ((laws_ascii.f k a0).bind fun t152 => (if t152 = true then ((spec_Evals.f k a0).bind fun t154 => ((impl_HasEval.f k a0).bind fun t157 => (if (t157 != (decide ((t154.length : Int) > 0))) = true then (some false) else (if (t154.length : Int) = 0 then ((laws_awakeUtil.f k).bind fun t158 => (if t158 = true then (some true) else ((impl_EvalValues.f k a0).bind fun t159 => ((spec_SameList.f k t159 t154).bind fun t162 => (if t162 = true then ((laws_awakeUtil.f k).bind fun t163 => (some t163)) else (some false)))))) else ((impl_EvalValues.f k a0).bind fun t164 => ((spec_SameList.f k t164 t154).bind fun t167 => (if t167 = true then ((laws_awakeUtil.f k).bind fun t168 => (some t168)) else (some false)))))))) else ((laws_awakeUtil.f k).bind fun t153 => (some t153))))) = some r := h
  clear h
  by_cases c2 : (a0.size : Int) > 2147483647
  · rw [if_pos c2] at H
    have c2b0 : decide (2147483647 < (a0.size : Int)) = true := decide_eq_true c2
    have c2b1 : decide (2147483647 < a0.size) = true := decide_eq_true (by omega)
    clear c2
    obtain rfl := Option.some.inj H
    go_enter Try.func7, Try.ntmps7
    go_wp2
    go_ret
    exact ⟨by first | rfl | (simp [errW_none, errW_some] <;> rfl) | (simp [*, errW_none, errW_some] <;> rfl), by repeat (first | (with_reducible first | exact HB.out | apply below_alloc | apply pw_below_drewN | apply below_drew1) | exact HB.out)⟩
  · rw [if_neg c2] at H
    have c2b0 : decide (2147483647 < (a0.size : Int)) = false := decide_eq_false c2
    have c2b1 : decide (2147483647 < a0.size) = false := decide_eq_false (by omega)
    clear c2
    replace H := Option.bind_eq_some_iff.mp H
    obtain ⟨t152, A30, H⟩ := H
    replace H : (if t152 = true then ((spec_Evals.f k a0).bind fun t154 => ((impl_HasEval.f k a0).bind fun t157 => (if (t157 != (decide ((t154.length : Int) > 0))) = true then (some false) else (if (t154.length : Int) = 0 then ((laws_awakeUtil.f k).bind fun t158 => (if t158 = true then (some true) else ((impl_EvalValues.f k a0).bind fun t159 => ((spec_SameList.f k t159 t154).bind fun t162 => (if t162 = true then ((laws_awakeUtil.f k).bind fun t163 => (some t163)) else (some false)))))) else ((impl_EvalValues.f k a0).bind fun t164 => ((spec_SameList.f k t164 t154).bind fun t167 => (if t167 = true then ((laws_awakeUtil.f k).bind fun t168 => (some t168)) else (some false)))))))) else ((laws_awakeUtil.f k).bind fun t153 => (some t153))) = some r := H
    have A3 := Aside0.mk A30
    clear A30
    by_cases c4 : t152 = true
    · subst c4
      have H1 : ((spec_Evals.f k a0).bind fun t154 => ((impl_HasEval.f k a0).bind fun t157 => (if (t157 != (decide ((t154.length : Int) > 0))) = true then (some false) else (if (t154.length : Int) = 0 then ((laws_awakeUtil.f k).bind fun t158 => (if t158 = true then (some true) else ((impl_EvalValues.f k a0).bind fun t159 => ((spec_SameList.f k t159 t154).bind fun t162 => (if t162 = true then ((laws_awakeUtil.f k).bind fun t163 => (some t163)) else (some false)))))) else ((impl_EvalValues.f k a0).bind fun t164 => ((spec_SameList.f k t164 t154).bind fun t167 => (if t167 = true then ((laws_awakeUtil.f k).bind fun t168 => (some t168)) else (some false)))))))) = some r := by rw [if_pos rfl] at H; exact H
      clear H
      have H := H1
      clear H1
      replace H := Option.bind_eq_some_iff.mp H
      obtain ⟨t154, A50, H⟩ := H
      replace H : ((impl_HasEval.f k a0).bind fun t157 => (if (t157 != (decide ((t154.length : Int) > 0))) = true then (some false) else (if (t154.length : Int) = 0 then ((laws_awakeUtil.f k).bind fun t158 => (if t158 = true then (some true) else ((impl_EvalValues.f k a0).bind fun t159 => ((spec_SameList.f k t159 t154).bind fun t162 => (if t162 = true then ((laws_awakeUtil.f k).bind fun t163 => (some t163)) else (some false)))))) else ((impl_EvalValues.f k a0).bind fun t164 => ((spec_SameList.f k t164 t154).bind fun t167 => (if t167 = true then ((laws_awakeUtil.f k).bind fun t168 => (some t168)) else (some false))))))) = some r := H
      have A5 := Aside0.mk A50
      clear A50
      replace H := Option.bind_eq_some_iff.mp H
      obtain ⟨t157, A60, H⟩ := H
      replace H : (if (t157 != (decide ((t154.length : Int) > 0))) = true then (some false) else (if (t154.length : Int) = 0 then ((laws_awakeUtil.f k).bind fun t158 => (if t158 = true then (some true) else ((impl_EvalValues.f k a0).bind fun t159 => ((spec_SameList.f k t159 t154).bind fun t162 => (if t162 = true then ((laws_awakeUtil.f k).bind fun t163 => (some t163)) else (some false)))))) else ((impl_EvalValues.f k a0).bind fun t164 => ((spec_SameList.f k t164 t154).bind fun t167 => (if t167 = true then ((laws_awakeUtil.f k).bind fun t168 => (some t168)) else (some false)))))) = some r := H
      have A6 := Aside0.mk A60
      clear A60
      by_cases c7 : (t157 != (decide ((t154.length : Int) > 0))) = true
      · rw [if_pos c7] at H
        have c7z : (t157 == decide (0 < t154.length)) = false := by
          have q := c7
          have e : decide ((t154.length : Int) > 0) = decide (0 < t154.length) := by rw [Bool.eq_iff_iff]; simp
          rw [e] at q
          simpa using q
        have c7b0 : (t157 != (decide ((t154.length : Int) > 0))) = true := c7
        (try (have c7b1 : decide (t157 = (decide ((t154.length : Int) > 0))) = false := by simpa using c7))
        (try (have c7b2 : (t157 == (decide ((t154.length : Int) > 0))) = false := by simpa using c7))
        (try (have c7b3 : ¬ (t157 = (decide ((t154.length : Int) > 0))) := by simpa using c7))
        clear c7
        obtain rfl := Option.some.inj H
        go_enter Try.func7, Try.ntmps7
        go_wp2_with (first | ((with_reducible refine gate_callee (f := 23) rfl ?_); refine goesL_ (some 8) rfl rfl Try.func23 (by kernel_rfl) rfl #[.string a0] rfl (by (try simp only [List.map_toArray, List.map_cons, List.map_nil]); first | done | rfl | (simp only [List.length_drop, List.length_take]; rfl)) ?_; (with_reducible refine (laws_ascii.calls k a0 true _ A3.out).mono ?_); rintro e w' ⟨rfl, ⟨nd, rfl⟩⟩; refine ⟨_, rfl, ?_⟩) | ((with_reducible refine gate_callee (f := 30) rfl ?_); refine goesL_ (some 12) rfl rfl Try.func30 (by kernel_rfl) rfl #[.string a0] rfl (by (try simp only [List.map_toArray, List.map_cons, List.map_nil]); first | done | rfl | (simp only [List.length_drop, List.length_take]; rfl)) ?_; (with_reducible refine (spec_Evals.calls k a0 t154 _ A5.out).mono ?_); rintro e w8 ⟨v155, rfl, ho0, hb⟩; refine ⟨_, rfl, ?_⟩; have n0_ := Aside0.mk (Kd.R_lower ho0 (below_size (by repeat (first | (with_reducible first | exact HB.out | apply below_alloc | apply pw_below_drewN | apply below_drew1) | exact HB.out)))); have n1_ := Aside0.mk (below_step (by repeat (first | (with_reducible first | exact HB.out | apply below_alloc | apply pw_below_drewN | apply below_drew1) | exact HB.out)) hb); clear HB; have HO156 := n0_; have HB := n1_; clear n0_ n1_; (try clear hb); (try clear hb2); (try clear hk); (try clear hi); (try clear ho0)) | ((with_reducible refine gate_callee (f := 31) rfl ?_); refine goesL_ (some 14) rfl rfl Try.func31 (by kernel_rfl) rfl #[.string a0] rfl (by (try simp only [List.map_toArray, List.map_cons, List.map_nil]); first | done | rfl | (simp only [List.length_drop, List.length_take]; rfl)) ?_; (with_reducible refine (impl_HasEval.calls k a0 t157 _ A6.out).mono ?_); rintro e w9 ⟨rfl, hb⟩; refine ⟨_, rfl, ?_⟩; have n0_ := Aside0.mk (Kd.R_below (by (with_reducible repeat (first | apply Kd.R_alloc | apply Kd.R_drewN | apply Kd.R_drew)); exact HO156.out) hb); have n1_ := Aside0.mk (below_step (by repeat (first | (with_reducible first | exact HB.out | apply below_alloc | apply pw_below_drewN | apply below_drew1) | exact HB.out)) hb); clear HO156; clear HB; have HO156 := n0_; have HB := n1_; clear n0_ n1_; (try clear hb); (try clear hb2); (try clear hk); (try clear hi); obtain ⟨Ao10, co10, eo10⟩ := Kd.R_slice HO156.out; subst eo10))
        go_ret
        exact ⟨by first | rfl | (simp [errW_none, errW_some] <;> rfl) | (simp [*, errW_none, errW_some] <;> rfl), by repeat (first | (with_reducible first | exact HB.out | apply below_alloc | apply pw_below_drewN | apply below_drew1) | exact HB.out)⟩
      · rw [if_neg c7] at H
        have c7z : (t157 == decide (0 < t154.length)) = true := by
          have q := c7
          have e : decide ((t154.length : Int) > 0) = decide (0 < t154.length) := by rw [Bool.eq_iff_iff]; simp
          rw [e] at q
          simpa using q
        have c7b0 : (t157 != (decide ((t154.length : Int) > 0))) = false := by simpa using c7
        (try (have c7b1 : decide (t157 = (decide ((t154.length : Int) > 0))) = true := by simpa using c7))
        (try (have c7b2 : (t157 == (decide ((t154.length : Int) > 0))) = true := by simpa using c7))
        clear c7
        by_cases c11 : (t154.length : Int) = 0
        · rw [if_pos c11] at H
          have c11b0 : ((t154.length : Int) == 0) = true := beq_iff_eq.mpr c11
          have c11b1 : ((t154.length : Int) != 0) = false := bne_eq_false_iff_eq.mpr c11
          clear c11
          replace H := Option.bind_eq_some_iff.mp H
          obtain ⟨t158, A120, H⟩ := H
          replace H : (if t158 = true then (some true) else ((impl_EvalValues.f k a0).bind fun t159 => ((spec_SameList.f k t159 t154).bind fun t162 => (if t162 = true then ((laws_awakeUtil.f k).bind fun t163 => (some t163)) else (some false))))) = some r := H
          have A12 := Aside0.mk A120
          clear A120
          by_cases c13 : t158 = true
          · subst c13
            have H1 : (some true) = some r := by rw [if_pos rfl] at H; exact H
            clear H
            have H := H1
            clear H1
            obtain rfl := Option.some.inj H
            go_enter Try.func7, Try.ntmps7
            go_wp2_with (first | ((with_reducible refine gate_callee (f := 23) rfl ?_); refine goesL_ (some 8) rfl rfl Try.func23 (by kernel_rfl) rfl #[.string a0] rfl (by (try simp only [List.map_toArray, List.map_cons, List.map_nil]); first | done | rfl | (simp only [List.length_drop, List.length_take]; rfl)) ?_; (with_reducible refine (laws_ascii.calls k a0 true _ A3.out).mono ?_); rintro e w' ⟨rfl, ⟨nd, rfl⟩⟩; refine ⟨_, rfl, ?_⟩) | ((with_reducible refine gate_callee (f := 30) rfl ?_); refine goesL_ (some 12) rfl rfl Try.func30 (by kernel_rfl) rfl #[.string a0] rfl (by (try simp only [List.map_toArray, List.map_cons, List.map_nil]); first | done | rfl | (simp only [List.length_drop, List.length_take]; rfl)) ?_; (with_reducible refine (spec_Evals.calls k a0 t154 _ A5.out).mono ?_); rintro e w14 ⟨v155, rfl, ho0, hb⟩; refine ⟨_, rfl, ?_⟩; have n0_ := Aside0.mk (Kd.R_lower ho0 (below_size (by repeat (first | (with_reducible first | exact HB.out | apply below_alloc | apply pw_below_drewN | apply below_drew1) | exact HB.out)))); have n1_ := Aside0.mk (below_step (by repeat (first | (with_reducible first | exact HB.out | apply below_alloc | apply pw_below_drewN | apply below_drew1) | exact HB.out)) hb); clear HB; have HO156 := n0_; have HB := n1_; clear n0_ n1_; (try clear hb); (try clear hb2); (try clear hk); (try clear hi); (try clear ho0)) | ((with_reducible refine gate_callee (f := 31) rfl ?_); refine goesL_ (some 14) rfl rfl Try.func31 (by kernel_rfl) rfl #[.string a0] rfl (by (try simp only [List.map_toArray, List.map_cons, List.map_nil]); first | done | rfl | (simp only [List.length_drop, List.length_take]; rfl)) ?_; (with_reducible refine (impl_HasEval.calls k a0 t157 _ A6.out).mono ?_); rintro e w15 ⟨rfl, hb⟩; refine ⟨_, rfl, ?_⟩; have n0_ := Aside0.mk (Kd.R_below (by (with_reducible repeat (first | apply Kd.R_alloc | apply Kd.R_drewN | apply Kd.R_drew)); exact HO156.out) hb); have n1_ := Aside0.mk (below_step (by repeat (first | (with_reducible first | exact HB.out | apply below_alloc | apply pw_below_drewN | apply below_drew1) | exact HB.out)) hb); clear HO156; clear HB; have HO156 := n0_; have HB := n1_; clear n0_ n1_; (try clear hb); (try clear hb2); (try clear hk); (try clear hi); obtain ⟨Ao16, co16, eo16⟩ := Kd.R_slice HO156.out; subst eo16) | (go_at_call 14; (with_reducible refine (laws_awakeUtil.calls k  true _ A12.out).mono ?_); rintro e w17 ⟨rfl, hb⟩; have n0_ := Aside0.mk (Kd.R_below (by (with_reducible repeat (first | apply Kd.R_alloc | apply Kd.R_drewN | apply Kd.R_drew)); exact HO156.out) hb); have n1_ := Aside0.mk (below_step (by repeat (first | (with_reducible first | exact HB.out | apply below_alloc | apply pw_below_drewN | apply below_drew1) | exact HB.out)) hb); clear HO156; clear HB; have HO156 := n0_; have HB := n1_; clear n0_ n1_; (try clear hb); (try clear hb2); (try clear hk); (try clear hi)))
            go_ret
            exact ⟨by first | rfl | (simp [errW_none, errW_some] <;> rfl) | (simp [*, errW_none, errW_some] <;> rfl), by repeat (first | (with_reducible first | exact HB.out | apply below_alloc | apply pw_below_drewN | apply below_drew1) | exact HB.out)⟩
          · replace c13 := Bool.eq_false_iff.mpr c13
            subst c13
            have H1 : ((impl_EvalValues.f k a0).bind fun t159 => ((spec_SameList.f k t159 t154).bind fun t162 => (if t162 = true then ((laws_awakeUtil.f k).bind fun t163 => (some t163)) else (some false)))) = some r := by rw [if_neg (show ¬ (false = true) by decide)] at H; exact H
            clear H
            have H := H1
            clear H1
            replace H := Option.bind_eq_some_iff.mp H
            obtain ⟨t159, A180, H⟩ := H
            replace H : ((spec_SameList.f k t159 t154).bind fun t162 => (if t162 = true then ((laws_awakeUtil.f k).bind fun t163 => (some t163)) else (some false))) = some r := H
            have A18 := Aside0.mk A180
            clear A180
            replace H := Option.bind_eq_some_iff.mp H
            obtain ⟨t162, A190, H⟩ := H
            replace H : (if t162 = true then ((laws_awakeUtil.f k).bind fun t163 => (some t163)) else (some false)) = some r := H
            have A19 := Aside0.mk A190
            clear A190
            by_cases c20 : t162 = true
            · subst c20
              have H1 : ((laws_awakeUtil.f k).bind fun t163 => (some t163)) = some r := by rw [if_pos rfl] at H; exact H
              clear H
              have H := H1
              clear H1
              replace H := Option.bind_eq_some_iff.mp H
              obtain ⟨t163, A210, H⟩ := H
              replace H : (some t163) = some r := H
              have A21 := Aside0.mk A210
              obtain rfl := Option.some.inj (A12.out.symm.trans A21.out)
              clear A210
              obtain rfl := Option.some.inj H
              go_enter Try.func7, Try.ntmps7
              go_wp2_with (first | ((with_reducible refine gate_callee (f := 23) rfl ?_); refine goesL_ (some 8) rfl rfl Try.func23 (by kernel_rfl) rfl #[.string a0] rfl (by (try simp only [List.map_toArray, List.map_cons, List.map_nil]); first | done | rfl | (simp only [List.length_drop, List.length_take]; rfl)) ?_; (with_reducible refine (laws_ascii.calls k a0 true _ A3.out).mono ?_); rintro e w' ⟨rfl, ⟨nd, rfl⟩⟩; refine ⟨_, rfl, ?_⟩) | ((with_reducible refine gate_callee (f := 30) rfl ?_); refine goesL_ (some 12) rfl rfl Try.func30 (by kernel_rfl) rfl #[.string a0] rfl (by (try simp only [List.map_toArray, List.map_cons, List.map_nil]); first | done | rfl | (simp only [List.length_drop, List.length_take]; rfl)) ?_; (with_reducible refine (spec_Evals.calls k a0 t154 _ A5.out).mono ?_); rintro e w22 ⟨v155, rfl, ho0, hb⟩; refine ⟨_, rfl, ?_⟩; have n0_ := Aside0.mk (Kd.R_lower ho0 (below_size (by repeat (first | (with_reducible first | exact HB.out | apply below_alloc | apply pw_below_drewN | apply below_drew1) | exact HB.out)))); have n1_ := Aside0.mk (below_step (by repeat (first | (with_reducible first | exact HB.out | apply below_alloc | apply pw_below_drewN | apply below_drew1) | exact HB.out)) hb); clear HB; have HO156 := n0_; have HB := n1_; clear n0_ n1_; (try clear hb); (try clear hb2); (try clear hk); (try clear hi); (try clear ho0)) | ((with_reducible refine gate_callee (f := 31) rfl ?_); refine goesL_ (some 14) rfl rfl Try.func31 (by kernel_rfl) rfl #[.string a0] rfl (by (try simp only [List.map_toArray, List.map_cons, List.map_nil]); first | done | rfl | (simp only [List.length_drop, List.length_take]; rfl)) ?_; (with_reducible refine (impl_HasEval.calls k a0 t157 _ A6.out).mono ?_); rintro e w23 ⟨rfl, hb⟩; refine ⟨_, rfl, ?_⟩; have n0_ := Aside0.mk (Kd.R_below (by (with_reducible repeat (first | apply Kd.R_alloc | apply Kd.R_drewN | apply Kd.R_drew)); exact HO156.out) hb); have n1_ := Aside0.mk (below_step (by repeat (first | (with_reducible first | exact HB.out | apply below_alloc | apply pw_below_drewN | apply below_drew1) | exact HB.out)) hb); clear HO156; clear HB; have HO156 := n0_; have HB := n1_; clear n0_ n1_; (try clear hb); (try clear hb2); (try clear hk); (try clear hi); obtain ⟨Ao24, co24, eo24⟩ := Kd.R_slice HO156.out; subst eo24) | (go_at_call 14; (with_reducible refine (laws_awakeUtil.calls k  false _ A12.out).mono ?_); rintro e w25 ⟨rfl, hb⟩; have n0_ := Aside0.mk (Kd.R_below (by (with_reducible repeat (first | apply Kd.R_alloc | apply Kd.R_drewN | apply Kd.R_drew)); exact HO156.out) hb); have n1_ := Aside0.mk (below_step (by repeat (first | (with_reducible first | exact HB.out | apply below_alloc | apply pw_below_drewN | apply below_drew1) | exact HB.out)) hb); clear HO156; clear HB; have HO156 := n0_; have HB := n1_; clear n0_ n1_; (try clear hb); (try clear hb2); (try clear hk); (try clear hi)) | (go_at_call 32; (with_reducible refine (impl_EvalValues.calls k a0 t159 _ A18.out).mono ?_); rintro e w26 ⟨v160, rfl, ho0, hb⟩; have n0_ := Aside0.mk (Kd.R_elder' (by (with_reducible repeat (first | apply Kd.R_alloc | apply Kd.R_drewN | apply Kd.R_drew)); exact HO156.out) (Kd.R_base ho0) hb); have n1_ := Aside0.mk (Kd.R_lower (Kd.R_new' ho0 (Kd.R_lt (by (with_reducible repeat (first | apply Kd.R_alloc | apply Kd.R_drewN | apply Kd.R_drew)); exact HO156.out))) (below_size (by repeat (first | (with_reducible first | exact HB.out | apply below_alloc | apply pw_below_drewN | apply below_drew1) | exact HB.out)))); have n2_ := Aside0.mk (below_step (by repeat (first | (with_reducible first | exact HB.out | apply below_alloc | apply pw_below_drewN | apply below_drew1) | exact HB.out)) hb); clear HO156; clear HB; have HO156 := n0_; have HO161 := n1_; have HB := n2_; clear n0_ n1_ n2_; (try clear hb); (try clear hb2); (try clear hk); (try clear hi); (try clear ho0); obtain ⟨Ao27, co27, eo27⟩ := Kd.R_slice HO161.out; subst eo27) | (go_at_call 17; (with_reducible refine (spec_SameList.calls k _ _ t159 _ _ t154 true _ ?side1 ?side2 ?side3 ?side4 A19.out).mono ?_); (case side1 => repeat (first | exact (Kd.R_reads' HO161.out).2.2 | (with_reducible refine Kd.C_alloc ?_ _) | (with_reducible refine Kd.C_drewN ?_ _) | (with_reducible refine Kd.C_drew ?_))); (case side2 => exact (Kd.R_reads' HO161.out).2.1); (case side3 => repeat (first | exact (Kd.R_reads' HO156.out).2.2 | (with_reducible refine Kd.C_alloc ?_ _) | (with_reducible refine Kd.C_drewN ?_ _) | (with_reducible refine Kd.C_drew ?_))); (case side4 => exact (Kd.R_reads' HO156.out).2.1); rintro e w' ⟨rfl, ⟨nd, rfl⟩⟩) | (go_at_call 14; (with_reducible refine (laws_awakeUtil.calls k  t163 _ A21.out).mono ?_); rintro e w28 ⟨rfl, hb⟩; have n0_ := Aside0.mk (Kd.R_below (by (with_reducible repeat (first | apply Kd.R_alloc | apply Kd.R_drewN | apply Kd.R_drew)); exact HO156.out) hb); have n1_ := Aside0.mk (Kd.R_below (by (with_reducible repeat (first | apply Kd.R_alloc | apply Kd.R_drewN | apply Kd.R_drew)); exact HO161.out) hb); have n2_ := Aside0.mk (below_step (by repeat (first | (with_reducible first | exact HB.out | apply below_alloc | apply pw_below_drewN | apply below_drew1) | exact HB.out)) hb); clear HO156; clear HO161; clear HB; have HO156 := n0_; have HO161 := n1_; have HB := n2_; clear n0_ n1_ n2_; (try clear hb); (try clear hb2); (try clear hk); (try clear hi)))
              go_ret
              exact ⟨by first | rfl | (simp [errW_none, errW_some] <;> rfl) | (simp [*, errW_none, errW_some] <;> rfl), by repeat (first | (with_reducible first | exact HB.out | apply below_alloc | apply pw_below_drewN | apply below_drew1) | exact HB.out)⟩
            · replace c20 := Bool.eq_false_iff.mpr c20
              subst c20
              have H1 : (some false) = some r := by rw [if_neg (show ¬ (false = true) by decide)] at H; exact H
              clear H
              have H := H1
              clear H1
              obtain rfl := Option.some.inj H
              go_enter Try.func7, Try.ntmps7
              go_wp2_with (first | ((with_reducible refine gate_callee (f := 23) rfl ?_); refine goesL_ (some 8) rfl rfl Try.func23 (by kernel_rfl) rfl #[.string a0] rfl (by (try simp only [List.map_toArray, List.map_cons, List.map_nil]); first | done | rfl | (simp only [List.length_drop, List.length_take]; rfl)) ?_; (with_reducible refine (laws_ascii.calls k a0 true _ A3.out).mono ?_); rintro e w' ⟨rfl, ⟨nd, rfl⟩⟩; refine ⟨_, rfl, ?_⟩) | ((with_reducible refine gate_callee (f := 30) rfl ?_); refine goesL_ (some 12) rfl rfl Try.func30 (by kernel_rfl) rfl #[.string a0] rfl (by (try simp only [List.map_toArray, List.map_cons, List.map_nil]); first | done | rfl | (simp only [List.length_drop, List.length_take]; rfl)) ?_; (with_reducible refine (spec_Evals.calls k a0 t154 _ A5.out).mono ?_); rintro e w29 ⟨v155, rfl, ho0, hb⟩; refine ⟨_, rfl, ?_⟩; have n0_ := Aside0.mk (Kd.R_lower ho0 (below_size (by repeat (first | (with_reducible first | exact HB.out | apply below_alloc | apply pw_below_drewN | apply below_drew1) | exact HB.out)))); have n1_ := Aside0.mk (below_step (by repeat (first | (with_reducible first | exact HB.out | apply below_alloc | apply pw_below_drewN | apply below_drew1) | exact HB.out)) hb); clear HB; have HO156 := n0_; have HB := n1_; clear n0_ n1_; (try clear hb); (try clear hb2); (try clear hk); (try clear hi); (try clear ho0)) | ((with_reducible refine gate_callee (f := 31) rfl ?_); refine goesL_ (some 14) rfl rfl Try.func31 (by kernel_rfl) rfl #[.string a0] rfl (by (try simp only [List.map_toArray, List.map_cons, List.map_nil]); first | done | rfl | (simp only [List.length_drop, List.length_take]; rfl)) ?_; (with_reducible refine (impl_HasEval.calls k a0 t157 _ A6.out).mono ?_); rintro e w30 ⟨rfl, hb⟩; refine ⟨_, rfl, ?_⟩; have n0_ := Aside0.mk (Kd.R_below (by (with_reducible repeat (first | apply Kd.R_alloc | apply Kd.R_drewN | apply Kd.R_drew)); exact HO156.out) hb); have n1_ := Aside0.mk (below_step (by repeat (first | (with_reducible first | exact HB.out | apply below_alloc | apply pw_below_drewN | apply below_drew1) | exact HB.out)) hb); clear HO156; clear HB; have HO156 := n0_; have HB := n1_; clear n0_ n1_; (try clear hb); (try clear hb2); (try clear hk); (try clear hi); obtain ⟨Ao31, co31, eo31⟩ := Kd.R_slice HO156.out; subst eo31) | (go_at_call 14; (with_reducible refine (laws_awakeUtil.calls k  false _ A12.out).mono ?_); rintro e w32 ⟨rfl, hb⟩; have n0_ := Aside0.mk (Kd.R_below (by (with_reducible repeat (first | apply Kd.R_alloc | apply Kd.R_drewN | apply Kd.R_drew)); exact HO156.out) hb); have n1_ := Aside0.mk (below_step (by repeat (first | (with_reducible first | exact HB.out | apply below_alloc | apply pw_below_drewN | apply below_drew1) | exact HB.out)) hb); clear HO156; clear HB; have HO156 := n0_; have HB := n1_; clear n0_ n1_; (try clear hb); (try clear hb2); (try clear hk); (try clear hi)) | (go_at_call 32; (with_reducible refine (impl_EvalValues.calls k a0 t159 _ A18.out).mono ?_); rintro e w33 ⟨v160, rfl, ho0, hb⟩; have n0_ := Aside0.mk (Kd.R_elder' (by (with_reducible repeat (first | apply Kd.R_alloc | apply Kd.R_drewN | apply Kd.R_drew)); exact HO156.out) (Kd.R_base ho0) hb); have n1_ := Aside0.mk (Kd.R_lower (Kd.R_new' ho0 (Kd.R_lt (by (with_reducible repeat (first | apply Kd.R_alloc | apply Kd.R_drewN | apply Kd.R_drew)); exact HO156.out))) (below_size (by repeat (first | (with_reducible first | exact HB.out | apply below_alloc | apply pw_below_drewN | apply below_drew1) | exact HB.out)))); have n2_ := Aside0.mk (below_step (by repeat (first | (with_reducible first | exact HB.out | apply below_alloc | apply pw_below_drewN | apply below_drew1) | exact HB.out)) hb); clear HO156; clear HB; have HO156 := n0_; have HO161 := n1_; have HB := n2_; clear n0_ n1_ n2_; (try clear hb); (try clear hb2); (try clear hk); (try clear hi); (try clear ho0); obtain ⟨Ao34, co34, eo34⟩ := Kd.R_slice HO161.out; subst eo34) | (go_at_call 17; (with_reducible refine (spec_SameList.calls k _ _ t159 _ _ t154 false _ ?side1 ?side2 ?side3 ?side4 A19.out).mono ?_); (case side1 => repeat (first | exact (Kd.R_reads' HO161.out).2.2 | (with_reducible refine Kd.C_alloc ?_ _) | (with_reducible refine Kd.C_drewN ?_ _) | (with_reducible refine Kd.C_drew ?_))); (case side2 => exact (Kd.R_reads' HO161.out).2.1); (case side3 => repeat (first | exact (Kd.R_reads' HO156.out).2.2 | (with_reducible refine Kd.C_alloc ?_ _) | (with_reducible refine Kd.C_drewN ?_ _) | (with_reducible refine Kd.C_drew ?_))); (case side4 => exact (Kd.R_reads' HO156.out).2.1); rintro e w' ⟨rfl, ⟨nd, rfl⟩⟩))
              go_ret
              exact ⟨by first | rfl | (simp [errW_none, errW_some] <;> rfl) | (simp [*, errW_none, errW_some] <;> rfl), by repeat (first | (with_reducible first | exact HB.out | apply below_alloc | apply pw_below_drewN | apply below_drew1) | exact HB.out)⟩
        · rw [if_neg c11] at H
          have c11b0 : ((t154.length : Int) == 0) = false := beq_eq_false_iff_ne.mpr c11
          have c11b1 : ((t154.length : Int) != 0) = true := bne_iff_ne.mpr c11
          have c11b2 : ¬ (t154 = []) := fun h_ => c11 (by rw [h_]; rfl)
          replace H := Option.bind_eq_some_iff.mp H
          obtain ⟨t164, A350, H⟩ := H
          replace H : ((spec_SameList.f k t164 t154).bind fun t167 => (if t167 = true then ((laws_awakeUtil.f k).bind fun t168 => (some t168)) else (some false))) = some r := H
          have A35 := Aside0.mk A350
          clear A350
          replace H := Option.bind_eq_some_iff.mp H
          obtain ⟨t167, A360, H⟩ := H
          replace H : (if t167 = true then ((laws_awakeUtil.f k).bind fun t168 => (some t168)) else (some false)) = some r := H
          have A36 := Aside0.mk A360
          clear A360
          by_cases c37 : t167 = true
          · subst c37
            have H1 : ((laws_awakeUtil.f k).bind fun t168 => (some t168)) = some r := by rw [if_pos rfl] at H; exact H
            clear H
            have H := H1
            clear H1
            replace H := Option.bind_eq_some_iff.mp H
            obtain ⟨t168, A380, H⟩ := H
            replace H : (some t168) = some r := H
            have A38 := Aside0.mk A380
            clear A380
            obtain rfl := Option.some.inj H
            go_enter Try.func7, Try.ntmps7
            go_wp2_with (first | ((with_reducible refine gate_callee (f := 23) rfl ?_); refine goesL_ (some 8) rfl rfl Try.func23 (by kernel_rfl) rfl #[.string a0] rfl (by (try simp only [List.map_toArray, List.map_cons, List.map_nil]); first | done | rfl | (simp only [List.length_drop, List.length_take]; rfl)) ?_; (with_reducible refine (laws_ascii.calls k a0 true _ A3.out).mono ?_); rintro e w' ⟨rfl, ⟨nd, rfl⟩⟩; refine ⟨_, rfl, ?_⟩) | ((with_reducible refine gate_callee (f := 30) rfl ?_); refine goesL_ (some 12) rfl rfl Try.func30 (by kernel_rfl) rfl #[.string a0] rfl (by (try simp only [List.map_toArray, List.map_cons, List.map_nil]); first | done | rfl | (simp only [List.length_drop, List.length_take]; rfl)) ?_; (with_reducible refine (spec_Evals.calls k a0 t154 _ A5.out).mono ?_); rintro e w39 ⟨v155, rfl, ho0, hb⟩; refine ⟨_, rfl, ?_⟩; have n0_ := Aside0.mk (Kd.R_lower ho0 (below_size (by repeat (first | (with_reducible first | exact HB.out | apply below_alloc | apply pw_below_drewN | apply below_drew1) | exact HB.out)))); have n1_ := Aside0.mk (below_step (by repeat (first | (with_reducible first | exact HB.out | apply below_alloc | apply pw_below_drewN | apply below_drew1) | exact HB.out)) hb); clear HB; have HO156 := n0_; have HB := n1_; clear n0_ n1_; (try clear hb); (try clear hb2); (try clear hk); (try clear hi); (try clear ho0)) | ((with_reducible refine gate_callee (f := 31) rfl ?_); refine goesL_ (some 14) rfl rfl Try.func31 (by kernel_rfl) rfl #[.string a0] rfl (by (try simp only [List.map_toArray, List.map_cons, List.map_nil]); first | done | rfl | (simp only [List.length_drop, List.length_take]; rfl)) ?_; (with_reducible refine (impl_HasEval.calls k a0 t157 _ A6.out).mono ?_); rintro e w40 ⟨rfl, hb⟩; refine ⟨_, rfl, ?_⟩; have n0_ := Aside0.mk (Kd.R_below (by (with_reducible repeat (first | apply Kd.R_alloc | apply Kd.R_drewN | apply Kd.R_drew)); exact HO156.out) hb); have n1_ := Aside0.mk (below_step (by repeat (first | (with_reducible first | exact HB.out | apply below_alloc | apply pw_below_drewN | apply below_drew1) | exact HB.out)) hb); clear HO156; clear HB; have HO156 := n0_; have HB := n1_; clear n0_ n1_; (try clear hb); (try clear hb2); (try clear hk); (try clear hi); obtain ⟨Ao41, co41, eo41⟩ := Kd.R_slice HO156.out; subst eo41) | (go_at_call 32; (with_reducible refine (impl_EvalValues.calls k a0 t164 _ A35.out).mono ?_); rintro e w42 ⟨v165, rfl, ho0, hb⟩; have n0_ := Aside0.mk (Kd.R_elder' (by (with_reducible repeat (first | apply Kd.R_alloc | apply Kd.R_drewN | apply Kd.R_drew)); exact HO156.out) (Kd.R_base ho0) hb); have n1_ := Aside0.mk (Kd.R_lower (Kd.R_new' ho0 (Kd.R_lt (by (with_reducible repeat (first | apply Kd.R_alloc | apply Kd.R_drewN | apply Kd.R_drew)); exact HO156.out))) (below_size (by repeat (first | (with_reducible first | exact HB.out | apply below_alloc | apply pw_below_drewN | apply below_drew1) | exact HB.out)))); have n2_ := Aside0.mk (below_step (by repeat (first | (with_reducible first | exact HB.out | apply below_alloc | apply pw_below_drewN | apply below_drew1) | exact HB.out)) hb); clear HO156; clear HB; have HO156 := n0_; have HO166 := n1_; have HB := n2_; clear n0_ n1_ n2_; (try clear hb); (try clear hb2); (try clear hk); (try clear hi); (try clear ho0); obtain ⟨Ao43, co43, eo43⟩ := Kd.R_slice HO166.out; subst eo43) | (go_at_call 17; (with_reducible refine (spec_SameList.calls k _ _ t164 _ _ t154 true _ ?side1 ?side2 ?side3 ?side4 A36.out).mono ?_); (case side1 => repeat (first | exact (Kd.R_reads' HO166.out).2.2 | (with_reducible refine Kd.C_alloc ?_ _) | (with_reducible refine Kd.C_drewN ?_ _) | (with_reducible refine Kd.C_drew ?_))); (case side2 => exact (Kd.R_reads' HO166.out).2.1); (case side3 => repeat (first | exact (Kd.R_reads' HO156.out).2.2 | (with_reducible refine Kd.C_alloc ?_ _) | (with_reducible refine Kd.C_drewN ?_ _) | (with_reducible refine Kd.C_drew ?_))); (case side4 => exact (Kd.R_reads' HO156.out).2.1); rintro e w' ⟨rfl, ⟨nd, rfl⟩⟩) | (go_at_call 14; (with_reducible refine (laws_awakeUtil.calls k  t168 _ A38.out).mono ?_); rintro e w44 ⟨rfl, hb⟩; have n0_ := Aside0.mk (Kd.R_below (by (with_reducible repeat (first | apply Kd.R_alloc | apply Kd.R_drewN | apply Kd.R_drew)); exact HO156.out) hb); have n1_ := Aside0.mk (Kd.R_below (by (with_reducible repeat (first | apply Kd.R_alloc | apply Kd.R_drewN | apply Kd.R_drew)); exact HO166.out) hb); have n2_ := Aside0.mk (below_step (by repeat (first | (with_reducible first | exact HB.out | apply below_alloc | apply pw_below_drewN | apply below_drew1) | exact HB.out)) hb); clear HO156; clear HO166; clear HB; have HO156 := n0_; have HO166 := n1_; have HB := n2_; clear n0_ n1_ n2_; (try clear hb); (try clear hb2); (try clear hk); (try clear hi)))
            go_ret
            exact ⟨by first | rfl | (simp [errW_none, errW_some] <;> rfl) | (simp [*, errW_none, errW_some] <;> rfl), by repeat (first | (with_reducible first | exact HB.out | apply below_alloc | apply pw_below_drewN | apply below_drew1) | exact HB.out)⟩
          · replace c37 := Bool.eq_false_iff.mpr c37
            subst c37
            have H1 : (some false) = some r := by rw [if_neg (show ¬ (false = true) by decide)] at H; exact H
            clear H
            have H := H1
            clear H1
            obtain rfl := Option.some.inj H
            go_enter Try.func7, Try.ntmps7
            go_wp2_with (first | ((with_reducible refine gate_callee (f := 23) rfl ?_); refine goesL_ (some 8) rfl rfl Try.func23 (by kernel_rfl) rfl #[.string a0] rfl (by (try simp only [List.map_toArray, List.map_cons, List.map_nil]); first | done | rfl | (simp only [List.length_drop, List.length_take]; rfl)) ?_; (with_reducible refine (laws_ascii.calls k a0 true _ A3.out).mono ?_); rintro e w' ⟨rfl, ⟨nd, rfl⟩⟩; refine ⟨_, rfl, ?_⟩) | ((with_reducible refine gate_callee (f := 30) rfl ?_); refine goesL_ (some 12) rfl rfl Try.func30 (by kernel_rfl) rfl #[.string a0] rfl (by (try simp only [List.map_toArray, List.map_cons, List.map_nil]); first | done | rfl | (simp only [List.length_drop, List.length_take]; rfl)) ?_; (with_reducible refine (spec_Evals.calls k a0 t154 _ A5.out).mono ?_); rintro e w45 ⟨v155, rfl, ho0, hb⟩; refine ⟨_, rfl, ?_⟩; have n0_ := Aside0.mk (Kd.R_lower ho0 (below_size (by repeat (first | (with_reducible first | exact HB.out | apply below_alloc | apply pw_below_drewN | apply below_drew1) | exact HB.out)))); have n1_ := Aside0.mk (below_step (by repeat (first | (with_reducible first | exact HB.out | apply below_alloc | apply pw_below_drewN | apply below_drew1) | exact HB.out)) hb); clear HB; have HO156 := n0_; have HB := n1_; clear n0_ n1_; (try clear hb); (try clear hb2); (try clear hk); (try clear hi); (try clear ho0)) | ((with_reducible refine gate_callee (f := 31) rfl ?_); refine goesL_ (some 14) rfl rfl Try.func31 (by kernel_rfl) rfl #[.string a0] rfl (by (try simp only [List.map_toArray, List.map_cons, List.map_nil]); first | done | rfl | (simp only [List.length_drop, List.length_take]; rfl)) ?_; (with_reducible refine (impl_HasEval.calls k a0 t157 _ A6.out).mono ?_); rintro e w46 ⟨rfl, hb⟩; refine ⟨_, rfl, ?_⟩; have n0_ := Aside0.mk (Kd.R_below (by (with_reducible repeat (first | apply Kd.R_alloc | apply Kd.R_drewN | apply Kd.R_drew)); exact HO156.out) hb); have n1_ := Aside0.mk (below_step (by repeat (first | (with_reducible first | exact HB.out | apply below_alloc | apply pw_below_drewN | apply below_drew1) | exact HB.out)) hb); clear HO156; clear HB; have HO156 := n0_; have HB := n1_; clear n0_ n1_; (try clear hb); (try clear hb2); (try clear hk); (try clear hi); obtain ⟨Ao47, co47, eo47⟩ := Kd.R_slice HO156.out; subst eo47) | (go_at_call 32; (with_reducible refine (impl_EvalValues.calls k a0 t164 _ A35.out).mono ?_); rintro e w48 ⟨v165, rfl, ho0, hb⟩; have n0_ := Aside0.mk (Kd.R_elder' (by (with_reducible repeat (first | apply Kd.R_alloc | apply Kd.R_drewN | apply Kd.R_drew)); exact HO156.out) (Kd.R_base ho0) hb); have n1_ := Aside0.mk (Kd.R_lower (Kd.R_new' ho0 (Kd.R_lt (by (with_reducible repeat (first | apply Kd.R_alloc | apply Kd.R_drewN | apply Kd.R_drew)); exact HO156.out))) (below_size (by repeat (first | (with_reducible first | exact HB.out | apply below_alloc | apply pw_below_drewN | apply below_drew1) | exact HB.out)))); have n2_ := Aside0.mk (below_step (by repeat (first | (with_reducible first | exact HB.out | apply below_alloc | apply pw_below_drewN | apply below_drew1) | exact HB.out)) hb); clear HO156; clear HB; have HO156 := n0_; have HO166 := n1_; have HB := n2_; clear n0_ n1_ n2_; (try clear hb); (try clear hb2); (try clear hk); (try clear hi); (try clear ho0); obtain ⟨Ao49, co49, eo49⟩ := Kd.R_slice HO166.out; subst eo49) | (go_at_call 17; (with_reducible refine (spec_SameList.calls k _ _ t164 _ _ t154 false _ ?side1 ?side2 ?side3 ?side4 A36.out).mono ?_); (case side1 => repeat (first | exact (Kd.R_reads' HO166.out).2.2 | (with_reducible refine Kd.C_alloc ?_ _) | (with_reducible refine Kd.C_drewN ?_ _) | (with_reducible refine Kd.C_drew ?_))); (case side2 => exact (Kd.R_reads' HO166.out).2.1); (case side3 => repeat (first | exact (Kd.R_reads' HO156.out).2.2 | (with_reducible refine Kd.C_alloc ?_ _) | (with_reducible refine Kd.C_drewN ?_ _) | (with_reducible refine Kd.C_drew ?_))); (case side4 => exact (Kd.R_reads' HO156.out).2.1); rintro e w' ⟨rfl, ⟨nd, rfl⟩⟩))
            go_ret
            exact ⟨by first | rfl | (simp [errW_none, errW_some] <;> rfl) | (simp [*, errW_none, errW_some] <;> rfl), by repeat (first | (with_reducible first | exact HB.out | apply below_alloc | apply pw_below_drewN | apply below_drew1) | exact HB.out)⟩
    · replace c4 := Bool.eq_false_iff.mpr c4
      subst c4
      have H1 : ((laws_awakeUtil.f k).bind fun t153 => (some t153)) = some r := by rw [if_neg (show ¬ (false = true) by decide)] at H; exact H
      clear H
      have H := H1
      clear H1
      replace H := Option.bind_eq_some_iff.mp H
      obtain ⟨t153, A500, H⟩ := H
      replace H : (some t153) = some r := H
      have A50 := Aside0.mk A500
      clear A500
      obtain rfl := Option.some.inj H
      go_enter Try.func7, Try.ntmps7
      go_wp2_with (first | ((with_reducible refine gate_callee (f := 23) rfl ?_); refine goesL_ (some 8) rfl rfl Try.func23 (by kernel_rfl) rfl #[.string a0] rfl (by (try simp only [List.map_toArray, List.map_cons, List.map_nil]); first | done | rfl | (simp only [List.length_drop, List.length_take]; rfl)) ?_; (with_reducible refine (laws_ascii.calls k a0 false _ A3.out).mono ?_); rintro e w' ⟨rfl, ⟨nd, rfl⟩⟩; refine ⟨_, rfl, ?_⟩) | ((with_reducible refine gate_callee (f := 14) rfl ?_); refine goesL_ (some 10) rfl rfl Try.func14 (by kernel_rfl) rfl #[] rfl (by (try simp only [List.map_toArray, List.map_cons, List.map_nil]); first | done | rfl | (simp only [List.length_drop, List.length_take]; rfl)) ?_; (with_reducible refine (laws_awakeUtil.calls k  t153 _ A50.out).mono ?_); rintro e w51 ⟨rfl, hb⟩; refine ⟨_, rfl, ?_⟩; have n0_ := Aside0.mk (below_step (by repeat (first | (with_reducible first | exact HB.out | apply below_alloc | apply pw_below_drewN | apply below_drew1) | exact HB.out)) hb); clear HB; have HB := n0_; clear n0_; (try clear hb); (try clear hb2); (try clear hk); (try clear hi)))
      go_ret
      exact ⟨by first | rfl | (simp [errW_none, errW_some] <;> rfl) | (simp [*, errW_none, errW_some] <;> rfl), by repeat (first | (with_reducible first | exact HB.out | apply below_alloc | apply pw_below_drewN | apply below_drew1) | exact HB.out)⟩

/-- THE ONE PURE STATEMENT of laws_FnEvals: yours. -/
def laws_FnEvals.Pure : Prop := ∀ (a0 : ByteArray), a0.size ≤ 140737488351232 → ∃ k, laws_FnEvals.f k a0 = some true
theorem laws_FnEvals.walk (P : laws_FnEvals.Pure) (a0 : ByteArray) (w : World) (w0 : a0.size ≤ 140737488351232) :
    Calls Try.prog 7 #[.string a0] w fun e w' => e = .returned (.bool true) ∧ Below w.heap.size w w' := by
  obtain ⟨k, h⟩ := P a0 w0
  refine (laws_FnEvals.calls k a0 true w h).mono ?_
  rintro e w' ⟨rfl, hd⟩
  exact ⟨rfl, hd⟩

end Go.Proofs.Ytnbcohabllkneaa.PFnEvals
