/- The machine side of laws.FnEvals: each function of this text answers what its Lean function answers (written for this claim by a program of this session over the kit's print; no condition beyond what each theorem says). -/
import Derived.Test.YtnbcohabllkneaaOFnEvalsx0
import Derived.Test.YtnbcohabllkneaaOFnEvalsx3
namespace Go.Proofs.Ytnbcohabllkneaa.PFnEvals
open Go.RowKit Go.Proofs.YtnbcohabllkneaaW.PrintWords Go.Proofs.YtnbcohabllkneaaW.PrintLast Go.Proofs.YtnbcohabllkneaaW.PrintMore
attribute [local go_sem] max2_int min2_int max_two min_two max_three min_three max_four min_four   -- for this text's walks alone
set_option linter.unusedVariables false
set_option linter.unusedSimpArgs false

/-! ### spec_evalAt: function 46 -/
mutual
def spec_evalAt.l0 : Nat → ByteArray → Int → Option (Int × Int × Int × Bool)
  | 0, _, _ => none
  | k + 1, x0, x8 => if (wrap64 (x8 + 5)) ≤ (x0.size : Int) then (if 0 ≤ x8 then (if x8 ≤ (wrap64 (x8 + 5)) then (if (x0.extract (x8 : Int).toNat ((wrap64 (x8 + 5)) : Int).toNat).toList = ([101, 118, 97, 108, 40] : List UInt8) then (if x8 > 0 then (if 0 ≤ (wrap64 (x8 - 1)) then (if (wrap64 (x8 - 1)) < (x0.size : Int) then ((spec_WordByte.f (bt x0 (wrap64 (x8 - 1)))).bind fun t125 => (spec_evalAt.j1 k x0 x8 t125)) else (none)) else (none)) else (spec_evalAt.j1 k x0 x8 false)) else (spec_evalAt.j1 k x0 x8 true)) else (none)) else (none)) else (some (0, 0, 0, false))
def spec_evalAt.j1 : Nat → ByteArray → Int → Bool → Option (Int × Int × Int × Bool)
  | 0, _, _, _ => none
  | k + 1, x0, x8, x34 => if x34 = true then (spec_evalAt.l0 k x0 (wrap64 (x8 + 1))) else (spec_evalAt.l1 k x0 x8 (wrap64 (x8 + 5)))
def spec_evalAt.l1 : Nat → ByteArray → Int → Int → Option (Int × Int × Int × Bool)
  | 0, _, _, _ => none
  | k + 1, x0, x8, x9 => if x9 < (x0.size : Int) then (if 0 ≤ x9 then (if (bt x0 x9) = 41 then (some (x8, wrap64 (x8 + 5), x9, true)) else (spec_evalAt.l1 k x0 x8 (wrap64 (x9 + 1)))) else (none)) else (spec_evalAt.l0 k x0 (wrap64 (x8 + 1)))
end
def spec_evalAt.f (k : Nat) (a0 : ByteArray) (a1 : Int) : Option (Int × Int × Int × Bool) := spec_evalAt.l0 k a0 a1
theorem spec_evalAt.mono_l : ∀ k, (∀ y0 y1, LeO (spec_evalAt.l0 k y0 y1) (spec_evalAt.l0 (k + 1) y0 y1)) ∧ (∀ y0 y1 y2, LeO (spec_evalAt.j1 k y0 y1 y2) (spec_evalAt.j1 (k + 1) y0 y1 y2)) ∧ (∀ y0 y1 y2, LeO (spec_evalAt.l1 k y0 y1 y2) (spec_evalAt.l1 (k + 1) y0 y1 y2))
  | 0 => ⟨fun _ _ r h => by simp [spec_evalAt.l0] at h, fun _ _ _ r h => by simp [spec_evalAt.j1] at h, fun _ _ _ r h => by simp [spec_evalAt.l1] at h⟩
  | k + 1 => by
    obtain ⟨ih0, ih1, ih2⟩ := spec_evalAt.mono_l k
    refine ⟨?_, ?_, ?_⟩
    · intro y0 y1
      unfold spec_evalAt.l0
      repeat' first
      | (with_reducible exact ih0 _ _)
      | (with_reducible exact ih1 _ _ _)
      | (with_reducible exact ih2 _ _ _)
      | (with_reducible exact LeO.refl _)
      | (with_reducible exact LeO.none _)
      | (with_reducible refine LeO.ite ?_ ?_)
      | (with_reducible refine LeO.bind ?_ (fun _ => ?_))
      | exact ih0 _ _
      | exact ih1 _ _ _
      | exact ih2 _ _ _
      | exact LeO.none _
      | refine LeO.ite ?_ ?_
      | refine LeO.bind ?_ (fun _ => ?_)
    · intro y0 y1 y2
      unfold spec_evalAt.j1
      repeat' first
      | (with_reducible exact ih0 _ _)
      | (with_reducible exact ih1 _ _ _)
      | (with_reducible exact ih2 _ _ _)
      | (with_reducible exact LeO.refl _)
      | (with_reducible exact LeO.none _)
      | (with_reducible refine LeO.ite ?_ ?_)
      | (with_reducible refine LeO.bind ?_ (fun _ => ?_))
      | exact ih0 _ _
      | exact ih1 _ _ _
      | exact ih2 _ _ _
      | exact LeO.none _
      | refine LeO.ite ?_ ?_
      | refine LeO.bind ?_ (fun _ => ?_)
    · intro y0 y1 y2
      unfold spec_evalAt.l1
      repeat' first
      | (with_reducible exact ih0 _ _)
      | (with_reducible exact ih1 _ _ _)
      | (with_reducible exact ih2 _ _ _)
      | (with_reducible exact LeO.refl _)
      | (with_reducible exact LeO.none _)
      | (with_reducible refine LeO.ite ?_ ?_)
      | (with_reducible refine LeO.bind ?_ (fun _ => ?_))
      | exact ih0 _ _
      | exact ih1 _ _ _
      | exact ih2 _ _ _
      | exact LeO.none _
      | refine LeO.ite ?_ ?_
      | refine LeO.bind ?_ (fun _ => ?_)
theorem spec_evalAt.mono : ∀ a0 a1 k, LeO (spec_evalAt.f k a0 a1) (spec_evalAt.f (k + 1) a0 a1) := by
  intro a0 a1 k
  obtain ⟨ih0, ih1, ih2⟩ := spec_evalAt.mono_l k
  unfold spec_evalAt.f
  repeat' first
      | (with_reducible exact ih0 _ _)
      | (with_reducible exact ih1 _ _ _)
      | (with_reducible exact ih2 _ _ _)
      | (with_reducible exact LeO.refl _)
      | (with_reducible exact LeO.none _)
      | (with_reducible refine LeO.ite ?_ ?_)
      | (with_reducible refine LeO.bind ?_ (fun _ => ?_))
      | exact ih0 _ _
      | exact ih1 _ _ _
      | exact ih2 _ _ _
      | exact LeO.none _
      | refine LeO.ite ?_ ?_
      | refine LeO.bind ?_ (fun _ => ?_)
set_option maxHeartbeats 8000000 in
set_option maxRecDepth 100000 in
theorem spec_evalAt.calls (k : Nat) (a0 : ByteArray) (a1 : Int) (r1 : Int) (r2 : Int) (r3 : Int) (r4 : Bool) (w : World) (h : spec_evalAt.f k a0 a1 = some (r1, r2, r3, r4)) :
    Calls Try.prog 46 #[.string a0, .int .i64 a1] w fun e w' => e = .returned (.tuple #[.int .i64 r1, .int .i64 r2, .int .i64 r3, .bool r4]) ∧ Drawn0 w w' := by
  have H : (spec_evalAt.l0 k a0 a1) = some (r1, r2, r3, r4) := h
  clear h
  have H' := Aside0.mk H
  clear H
  go_enter Try.func46, Try.ntmps46
  go_wp2
  go_loopg [8] k (fun kq v8 w' => ∃ (x8_1 : Int), v8 = .int .i64 x8_1 ∧ Aside0 (spec_evalAt.l0 kq a0 x8_1 = some (r1, r2, r3, r4)) ∧ Aside0 (kq ≤ k) ∧ Drawn0 w w')
  case atStart => exact ⟨(a1), (by first | rfl | (simp; done) | (simp [*]; done)), H', ⟨Nat.le_refl _⟩, by repeat (first | exact Drawn0.refl _ | apply Drawn0.step)⟩
  case round =>
    clear H'
    try clear p2
    obtain ⟨x8_1, rfl, HA, HK1, ⟨m1, rfl⟩⟩ := hrel
    cases gk with
    | zero => exact absurd HA.out (by simp [spec_evalAt.l0])
    | succ k1 =>
      have H := HA.out
      clear HA
      simp only [spec_evalAt.l0] at H
      by_cases c3 : (wrap64 (x8_1 + 5)) ≤ (a0.size : Int)
      · rw [if_pos c3] at H
        have c3b0 : decide ((wrap64 (x8_1 + 5)) ≤ (a0.size : Int)) = true := decide_eq_true c3
        clear c3
        have HC4 := Aside0.mk H
        clear H
        go_upto_region 4 with (fail)
        go_cut [34] (fun v34 wc => ∃ (kq : Nat) (x34_3 : Bool), v34 = .bool x34_3 ∧ Aside0 (spec_evalAt.j1 kq a0 x8_1 x34_3 = some (r1, r2, r3, r4)) ∧ Aside0 (kq ≤ k1) ∧ Drawn0 w wc)
        case first =>
          have H := HC4.out
          clear HC4
          by_cases c5 : 0 ≤ x8_1
          · rw [if_pos c5] at H
            have c5b0 := eq_true c5
            have c5b1 : decide (0 ≤ x8_1) = true := decide_eq_true c5
            clear c5
            by_cases c6 : x8_1 ≤ (wrap64 (x8_1 + 5))
            · rw [if_pos c6] at H
              have c6b0 := eq_true c6
              have c6b1 : decide (x8_1 ≤ (wrap64 (x8_1 + 5))) = true := decide_eq_true c6
              have c7b0 := eq_true (of_decide_eq_true (by first | (with_reducible assumption) | assumption) : (wrap64 (x8_1 + 5)) ≤ (a0.size : Int))
              by_cases c8 : (a0.extract (x8_1 : Int).toNat ((wrap64 (x8_1 + 5)) : Int).toNat).toList = ([101, 118, 97, 108, 40] : List UInt8)
              · rw [if_pos c8] at H
                have c8b0 : ((a0.extract (x8_1 : Int).toNat ((wrap64 (x8_1 + 5)) : Int).toNat).toList == ([101, 118, 97, 108, 40] : List UInt8)) = true := beq_iff_eq.mpr c8
                have c8b1 : ((a0.extract (x8_1 : Int).toNat ((wrap64 (x8_1 + 5)) : Int).toNat).toList != ([101, 118, 97, 108, 40] : List UInt8)) = false := bne_eq_false_iff_eq.mpr c8
                clear c8
                (first | rw [c8b0] | (simp only [i64_w, i32_w]; rw [c8b0]) | skip)
                by_cases c9 : x8_1 > 0
                · rw [if_pos c9] at H
                  have c9b0 : decide (0 < x8_1) = true := decide_eq_true c9
                  clear c9
                  obtain ⟨ji10, hji10⟩ : ∃ j_ : Int, (wrap64 (x8_1 - 1)) = j_ := ⟨_, rfl⟩
                  replace H : (if 0 ≤ (ji10) then (if (ji10) < (a0.size : Int) then ((spec_WordByte.f (bt a0 (ji10))).bind fun t125 => (spec_evalAt.j1 k1 a0 x8_1 t125)) else (none)) else (none)) = some (r1, r2, r3, r4) := by first | (rw [hji10] at H; exact H) | (simp only [hji10] at H ⊢; exact H)
                  have hji10w : (IntKind.i64.wrap (x8_1 - 1)) = ji10 := (i64_w _).trans hji10
                  by_cases c11 : 0 ≤ (ji10)
                  · rw [if_pos c11] at H
                    have c11b0 : decide (0 ≤ (ji10)) = true := decide_eq_true c11
                    clear c11
                    by_cases c12 : (ji10) < (a0.size : Int)
                    · rw [if_pos c12] at H
                      have c12b0 : decide ((ji10) < (a0.size : Int)) = true := decide_eq_true c12
                      clear c12
                      replace H := Option.bind_eq_some_iff.mp H
                      obtain ⟨t125, A140, H⟩ := H
                      replace H : (spec_evalAt.j1 k1 a0 x8_1 t125) = some (r1, r2, r3, r4) := H
                      have A14 := Aside0.mk A140
                      clear A140
                      have H' := Aside0.mk H
                      clear H
                      have p13 : 0 ≤ ((ji10) : Int) := of_decide_eq_true (by first | (with_reducible assumption) | assumption)
                      have q13 : (ji10) < (a0.size : Int) := of_decide_eq_true (by first | (with_reducible assumption) | assumption)
                      have hx13 := bt_at a0 (ji10)
                      replace p13 := eq_true p13
                      replace q13 := eq_true q13
                      go_wp2_with (first | (go_at_call 61; (with_reducible refine (spec_WordByte.calls (bt a0 (ji10)) t125 _ A14.out).mono ?_); rintro e w' ⟨rfl, ⟨nd, rfl⟩⟩))
                      go_meet
                      case rel => exact ⟨_, (t125), (by first | rfl | (simp; done) | (simp [*]; done)), H', ⟨by have := HK1.out; first | omega | exact Nat.le_refl _⟩, by repeat (first | exact Drawn0.refl _ | apply Drawn0.step)⟩
                    · rw [if_neg c12] at H
                      exact absurd H (by simp)
                  · rw [if_neg c11] at H
                    exact absurd H (by simp)
                · rw [if_neg c9] at H
                  have c9b0 : decide (0 < x8_1) = false := decide_eq_false c9
                  clear c9
                  have H' := Aside0.mk H
                  clear H
                  go_wp2
                  go_meet
                  case rel => exact ⟨_, (false), (by first | rfl | (simp; done) | (simp [*]; done)), H', ⟨by have := HK1.out; first | omega | exact Nat.le_refl _⟩, by repeat (first | exact Drawn0.refl _ | apply Drawn0.step)⟩
              · rw [if_neg c8] at H
                have c8b0 : ((a0.extract (x8_1 : Int).toNat ((wrap64 (x8_1 + 5)) : Int).toNat).toList == ([101, 118, 97, 108, 40] : List UInt8)) = false := beq_eq_false_iff_ne.mpr c8
                have c8b1 : ((a0.extract (x8_1 : Int).toNat ((wrap64 (x8_1 + 5)) : Int).toNat).toList != ([101, 118, 97, 108, 40] : List UInt8)) = true := bne_iff_ne.mpr c8
                (first | rw [c8b0] | (simp only [i64_w, i32_w]; rw [c8b0]) | skip)
                have H' := Aside0.mk H
                clear H
                go_wp2
                go_meet
                case rel => exact ⟨_, (true), (by first | rfl | (simp; done) | (simp [*]; done)), H', ⟨by have := HK1.out; first | omega | exact Nat.le_refl _⟩, by repeat (first | exact Drawn0.refl _ | apply Drawn0.step)⟩
            · rw [if_neg c6] at H
              exact absurd H (by simp)
          · rw [if_neg c5] at H
            exact absurd H (by simp)
        case rest =>
          clear HC4
          try clear c1
          try clear p1
          try clear q1
          try clear hx1
          try clear p2
          try clear c3
          try clear c3b0
          try clear c4
          try clear c5
          try clear c5b0
          try clear c5b1
          try clear c6
          try clear c6b0
          try clear c6b1
          try clear p6
          try clear c7
          try clear c7b0
          try clear c8
          try clear c8b0
          try clear c8b1
          try clear c9
          try clear c9b0
          try clear c11
          try clear c11b0
          try clear c12
          try clear c12b0
          try clear p13
          try clear q13
          try clear hx13
          try clear p13
          try clear p2
          try clear q13
          obtain ⟨kq, x34_3, rfl, HA, HJ3, ⟨mc3, rfl⟩⟩ := hcut
          cases kq with
          | zero => exact absurd HA.out (by simp [spec_evalAt.j1])
          | succ kj3 =>
            have H := HA.out
            clear HA
            simp only [spec_evalAt.j1] at H
            by_cases c15 : x34_3 = true
            · subst c15
              have H1 : (spec_evalAt.l0 kj3 a0 (wrap64 (x8_1 + 1))) = some (r1, r2, r3, r4) := by rw [if_pos rfl] at H; exact H
              clear H
              have H := H1
              clear H1
              have H' := Aside0.mk H
              clear H
              go_wp2
              go_roundg kj3
              case measure => have := HK1.out; have := HJ3.out; omega
              case rel => exact ⟨(wrap64 (x8_1 + 1)), (by first | rfl | (simp; done) | (simp [*]; done)), H', ⟨by have := HK1.out; have := HJ3.out; omega⟩, by repeat (first | exact Drawn0.refl _ | apply Drawn0.step)⟩
            · replace c15 := Bool.eq_false_iff.mpr c15
              subst c15
              have H1 : (spec_evalAt.l1 kj3 a0 x8_1 (wrap64 (x8_1 + 5))) = some (r1, r2, r3, r4) := by rw [if_neg (show ¬ (false = true) by decide)] at H; exact H
              clear H
              have H := H1
              clear H1
              have H' := Aside0.mk H
              clear H
              go_wp2
              go_loopg [9] kj3 (fun kq v9 w' => ∃ (x9_3 : Int), v9 = .int .i64 x9_3 ∧ Aside0 (spec_evalAt.l1 kq a0 x8_1 x9_3 = some (r1, r2, r3, r4)) ∧ Aside0 (kq ≤ kj3) ∧ Drawn0 w w')
              case atStart => exact ⟨(wrap64 (x8_1 + 5)), (by first | rfl | (simp; done) | (simp [*]; done)), H', ⟨Nat.le_refl _⟩, by repeat (first | exact Drawn0.refl _ | apply Drawn0.step)⟩
              case round =>
                clear H'
                try clear c1
                try clear p1
                try clear q1
                try clear hx1
                try clear p2
                try clear c3
                try clear c3b0
                try clear c4
                try clear c5
                try clear c5b0
                try clear c5b1
                try clear c6
                try clear c6b0
                try clear c6b1
                try clear p6
                try clear c7
                try clear c7b0
                try clear c8
                try clear c8b0
                try clear c8b1
                try clear c9
                try clear c9b0
                try clear c11
                try clear c11b0
                try clear c12
                try clear c12b0
                try clear p13
                try clear q13
                try clear hx13
                try clear c15
                try clear p1
                try clear p13
                try clear p2
                try clear p6
                try clear q1
                try clear q13
                obtain ⟨x9_3, rfl, HA, HK3, ⟨m3, rfl⟩⟩ := hrel
                cases gk with
                | zero => exact absurd HA.out (by simp [spec_evalAt.l1])
                | succ k3 =>
                  have H := HA.out
                  clear HA
                  simp only [spec_evalAt.l1] at H
                  by_cases c16 : x9_3 < (a0.size : Int)
                  · rw [if_pos c16] at H
                    have c16b0 : decide (x9_3 < (a0.size : Int)) = true := decide_eq_true c16
                    clear c16
                    by_cases c17 : 0 ≤ x9_3
                    · rw [if_pos c17] at H
                      have c17b0 : decide (0 ≤ x9_3) = true := decide_eq_true c17
                      clear c17
                      by_cases c19 : (bt a0 x9_3) = 41
                      · rw [if_pos c19] at H
                        have c19b0 : ((bt a0 x9_3) == 41) = true := beq_iff_eq.mpr c19
                        have c19b1 : ((bt a0 x9_3) != 41) = false := bne_eq_false_iff_eq.mpr c19
                        clear c19
                        simp only [Option.some.injEq, Prod.mk.injEq] at H
                        obtain ⟨rfl, rfl, rfl, rfl⟩ := H
                        have p18 : 0 ≤ (x9_3 : Int) := of_decide_eq_true (by first | (with_reducible assumption) | assumption)
                        have q18 : x9_3 < (a0.size : Int) := of_decide_eq_true (by first | (with_reducible assumption) | assumption)
                        have hx18 := bt_at a0 x9_3
                        replace p18 := eq_true p18
                        replace q18 := eq_true q18
                        go_wp2
                        refine bodyPost_ret (results_list (rs := [.tmp 4, .tmp 5, .tmp 6, .tmp 7]) rfl (by simp) (.tmp (.tmp (.tmp (.tmp .nil))))) rfl ?_
                        exact ⟨by first | rfl | (simp; done) | (simp [*]; done), by repeat (first | exact Drawn0.refl _ | apply Drawn0.step)⟩
                      · rw [if_neg c19] at H
                        have c19b0 : ((bt a0 x9_3) == 41) = false := beq_eq_false_iff_ne.mpr c19
                        have c19b1 : ((bt a0 x9_3) != 41) = true := bne_iff_ne.mpr c19
                        have H' := Aside0.mk H
                        clear H
                        have p18 : 0 ≤ (x9_3 : Int) := of_decide_eq_true (by first | (with_reducible assumption) | assumption)
                        have q18 : x9_3 < (a0.size : Int) := of_decide_eq_true (by first | (with_reducible assumption) | assumption)
                        have hx18 := bt_at a0 x9_3
                        replace p18 := eq_true p18
                        replace q18 := eq_true q18
                        go_wp2
                        go_roundg k3
                        case measure => have := HK1.out; have := HJ3.out; have := HK3.out; omega
                        case rel => exact ⟨(wrap64 (x9_3 + 1)), (by first | rfl | (simp; done) | (simp [*]; done)), H', ⟨by have := HK1.out; have := HJ3.out; have := HK3.out; omega⟩, by repeat (first | exact Drawn0.refl _ | apply Drawn0.step)⟩
                    · rw [if_neg c17] at H
                      exact absurd H (by simp)
                  · rw [if_neg c16] at H
                    have c16b0 : decide (x9_3 < (a0.size : Int)) = false := decide_eq_false c16
                    clear c16
                    have H' := Aside0.mk H
                    clear H
                    go_wp2
                    go_roundg k3
                    case measure => have := HK1.out; have := HJ3.out; have := HK3.out; omega
                    case rel => exact ⟨(wrap64 (x8_1 + 1)), (by first | rfl | (simp; done) | (simp [*]; done)), H', ⟨by have := HK1.out; have := HJ3.out; have := HK3.out; omega⟩, by repeat (first | exact Drawn0.refl _ | apply Drawn0.step)⟩
      · rw [if_neg c3] at H
        have c3b0 : decide ((wrap64 (x8_1 + 5)) ≤ (a0.size : Int)) = false := decide_eq_false c3
        clear c3
        simp only [Option.some.injEq, Prod.mk.injEq] at H
        obtain ⟨rfl, rfl, rfl, rfl⟩ := H
        go_wp2
        refine bodyPost_ret (results_list (rs := [.tmp 4, .tmp 5, .tmp 6, .tmp 7]) rfl (by simp) (.tmp (.tmp (.tmp (.tmp .nil))))) rfl ?_
        exact ⟨by first | rfl | (simp; done) | (simp [*]; done), by repeat (first | exact Drawn0.refl _ | apply Drawn0.step)⟩

/-! ### spec_Evals: function 30 -/
def spec_Evals.l0 : Nat → ByteArray → List ByteArray → Int → Option (List ByteArray)
  | 0, _, _, _ => none
  | k + 1, x0, x3, x4 => (spec_evalAt.f k x0 x4).bind fun bt126 => (if bt126.2.2.2 = true then (if 0 ≤ bt126.2.1 then (if bt126.2.1 ≤ bt126.2.2.1 then (if bt126.2.2.1 ≤ (x0.size : Int) then (if x3.length < 8796093022208 then (spec_Evals.l0 k x0 (x3 ++ [x0.extract (bt126.2.1 : Int).toNat (bt126.2.2.1 : Int).toNat]) (wrap64 (bt126.2.2.1 + 1))) else (none)) else (none)) else (none)) else (none)) else (some x3))
def spec_Evals.f (k : Nat) (a0 : ByteArray) : Option (List ByteArray) := spec_Evals.l0 k a0 ([] : List ByteArray) 0
theorem spec_Evals.mono_l : ∀ k, (∀ y0 y1 y2, LeO (spec_Evals.l0 k y0 y1 y2) (spec_Evals.l0 (k + 1) y0 y1 y2))
  | 0 => fun _ _ _ r h => by simp [spec_Evals.l0] at h
  | k + 1 => by
    have ih0 := spec_Evals.mono_l k
    · intro y0 y1 y2
      unfold spec_Evals.l0
      repeat' first
      | (with_reducible exact ih0 _ _ _)
      | (with_reducible exact spec_evalAt.mono _ _ _)
      | (with_reducible exact LeO.refl _)
      | (with_reducible exact LeO.none _)
      | (with_reducible refine LeO.ite ?_ ?_)
      | (with_reducible refine LeO.bind ?_ (fun _ => ?_))
      | exact ih0 _ _ _
      | exact spec_evalAt.mono _ _ _
      | exact LeO.none _
      | refine LeO.ite ?_ ?_
      | refine LeO.bind ?_ (fun _ => ?_)
theorem spec_Evals.mono : ∀ a0 k, LeO (spec_Evals.f k a0) (spec_Evals.f (k + 1) a0) := by
  intro a0 k
  have ih0 := spec_Evals.mono_l k
  unfold spec_Evals.f
  repeat' first
      | (with_reducible exact ih0 _ _ _)
      | (with_reducible exact spec_evalAt.mono _ _ _)
      | (with_reducible exact LeO.refl _)
      | (with_reducible exact LeO.none _)
      | (with_reducible refine LeO.ite ?_ ?_)
      | (with_reducible refine LeO.bind ?_ (fun _ => ?_))
      | exact ih0 _ _ _
      | exact spec_evalAt.mono _ _ _
      | exact LeO.none _
      | refine LeO.ite ?_ ?_
      | refine LeO.bind ?_ (fun _ => ?_)
set_option maxHeartbeats 8000000 in
set_option maxRecDepth 100000 in
theorem spec_Evals.calls (k : Nat) (a0 : ByteArray) (r : List ByteArray) (w : World) (h : spec_Evals.f k a0 = some r) :
    Calls Try.prog 30 #[.string a0] w fun e w' => ∃ v0_ : Value, e = .returned (v0_) ∧ Kd.R Kd.string 9 w' w.heap.size (fun _ => True) v0_ r ∧ Below w.heap.size w w' := by
  have HB := Aside0.mk (Below.refl w.heap.size w)
  have H : (spec_Evals.l0 k a0 ([] : List ByteArray) 0) = some r := h
  clear h
  have H' := Aside0.mk H
  clear H
  go_enter Try.func30, Try.ntmps30
  go_wp2
  go_loopg [3, 4] k (fun kq v3 v4 w' => ∃ (x3_1 : List ByteArray) (x4_1 : Int), v4 = .int .i64 x4_1 ∧ Aside0 (spec_Evals.l0 kq a0 x3_1 x4_1 = some r) ∧ Aside0 (kq ≤ k) ∧ Aside0 (Kd.R Kd.string 9 w' w.heap.size (fun _ => True) v3 x3_1) ∧ Aside0 (Below w.heap.size w w'))
  case atStart => exact ⟨(([] : List ByteArray)), (0), (by first | rfl | (simp; done) | (simp [*]; done)), H', ⟨Nat.le_refl _⟩, ⟨by first | exact Kd.R_nil _ _ _ _ _ | exact Kd.N_nil _ _ _ _ _ | exact Kd.V_nil _ _ _ _ _ | exact Kd.Q_nil _ _ _ _ _ | exact Kd.S_nil _ _ _ _ _⟩, ⟨by repeat (first | (with_reducible first | exact HB.out | apply below_alloc | apply pw_below_drewN | apply below_drew1) | exact HB.out)⟩⟩
  case round =>
    clear H'
    obtain ⟨x3_1, x4_1, rfl, HA, HK1, HO_3, HB⟩ := hrel
    cases gk with
    | zero => exact absurd HA.out (by simp [spec_Evals.l0])
    | succ k1 =>
      have H := HA.out
      clear HA
      simp only [spec_Evals.l0] at H
      replace H := Option.bind_eq_some_iff.mp H
      obtain ⟨⟨t126, t127, t128, t129⟩, A20, H⟩ := H
      replace H : (if t129 = true then (if 0 ≤ t127 then (if t127 ≤ t128 then (if t128 ≤ (a0.size : Int) then (if x3_1.length < 8796093022208 then (spec_Evals.l0 k1 a0 (x3_1 ++ [a0.extract (t127 : Int).toNat (t128 : Int).toNat]) (wrap64 (t128 + 1))) else (none)) else (none)) else (none)) else (none)) else (some x3_1)) = some r := H
      have A2 := Aside0.mk A20
      clear A20
      by_cases c3 : t129 = true
      · subst c3
        have H1 : (if 0 ≤ t127 then (if t127 ≤ t128 then (if t128 ≤ (a0.size : Int) then (if x3_1.length < 8796093022208 then (spec_Evals.l0 k1 a0 (x3_1 ++ [a0.extract (t127 : Int).toNat (t128 : Int).toNat]) (wrap64 (t128 + 1))) else (none)) else (none)) else (none)) else (none)) = some r := by rw [if_pos rfl] at H; exact H
        clear H
        have H := H1
        clear H1
        by_cases c4 : 0 ≤ t127
        · rw [if_pos c4] at H
          have c4b0 := eq_true c4
          have c4b1 : decide (0 ≤ t127) = true := decide_eq_true c4
          clear c4
          by_cases c5 : t127 ≤ t128
          · rw [if_pos c5] at H
            have c5b0 := eq_true c5
            have c5b1 : decide (t127 ≤ t128) = true := decide_eq_true c5
            clear c5
            by_cases c6 : t128 ≤ (a0.size : Int)
            · rw [if_pos c6] at H
              have c6b0 := eq_true c6
              have c6b1 : decide (t128 ≤ (a0.size : Int)) = true := decide_eq_true c6
              clear c6
              by_cases c7 : x3_1.length < 8796093022208
              · rw [if_pos c7] at H
                have LMc7 := Aside0.mk c7
                clear c7
                obtain ⟨y130, hy130⟩ : ∃ y_ : List ByteArray, y_ = (x3_1 ++ [a0.extract (t127 : Int).toNat (t128 : Int).toNat]) := ⟨_, rfl⟩
                replace H : (spec_Evals.l0 k1 a0 y130 (wrap64 (t128 + 1))) = some r := by first | (rw [hy130]; with_reducible exact H) | (have H2_ := (Option.bind_some _ _).symm.trans H; rw [hy130]; with_reducible exact H2_) | (have H2_ := (Option.bind_some _ _).symm.trans H; with_reducible exact H2_) | with_reducible exact H | (rw [hy130]; exact H) | exact H
                have Ny130 := Aside0.mk hy130
                clear hy130
                have H' := Aside0.mk H
                clear H
                go_wp2_with (first | ((with_reducible refine gate_callee (f := 46) rfl ?_); refine goesL_ (some 12) rfl rfl Try.func46 (by kernel_rfl) rfl #[.string a0, .int .i64 x4_1] rfl (by (try simp only [List.map_toArray, List.map_cons, List.map_nil]); first | done | rfl | (simp only [List.length_drop, List.length_take]; rfl)) ?_; (with_reducible refine (spec_evalAt.calls k1 a0 x4_1 t126 t127 t128 true _ A2.out).mono ?_); rintro e w' ⟨rfl, ⟨nd, rfl⟩⟩; refine ⟨_, rfl, ?_⟩) | ((with_reducible refine gate_builtin (b := .append) (xs := #[.tmp 20, .tmp 25]) rfl ?_); at_builtin; refine Kd.R_append Kd.string (w0 := w) w.heap.size rfl (.tmp 20) (.tmp 25) 22 9 (.string ⟨#[]⟩) 16 rfl Try.underlying22 info9 rfl (by decide) (by omega) u3 x3_1 (a0.extract (t127 : Int).toNat (t128 : Int).toNat) [.string (a0.extract (t127 : Int).toNat (t128 : Int).toNat)] (fun _ => True) (fun _ => False) rfl rfl ?aP (fun _ hk => hk.elim) ?aF ?aO ?aB ?aS ?aL ?_; (case aP => exact rfl); (case aB => exact (by repeat (first | (with_reducible first | exact HB.out | apply below_alloc | apply pw_below_drewN | apply below_drew1) | exact HB.out))); (case aF => exact (fun _ _ => trivial)); (case aO => exact (by (with_reducible repeat (first | apply Kd.R_alloc | apply Kd.R_drewN | apply Kd.R_drew)); exact HO_3.out)); (case aS => exact (below_size (by repeat (first | (with_reducible first | exact HB.out | apply below_alloc | apply pw_below_drewN | apply below_drew1) | exact HB.out)))); (case aL => have := LMc7.out; omega); intro v131 w8 ho hb hg hat; rw [← Ny130.out] at ho; have n0_ := Aside0.mk (hb); have n1_ := Aside0.mk (ho); clear HB; clear HO_3; have HB := n0_; have HO132 := n1_; clear n0_ n1_; clear ho hb hg hat))
                go_roundg k1
                case measure => have := HK1.out; omega
                case rel => exact ⟨(y130), (wrap64 (t128 + 1)), (by first | rfl | (simp; done) | (simp [*]; done)), H', ⟨by have := HK1.out; omega⟩, ⟨by (with_reducible repeat (first | apply Kd.R_alloc | apply Kd.R_drewN | apply Kd.R_drew)); exact HO132.out⟩, ⟨by repeat (first | (with_reducible first | exact HB.out | apply below_alloc | apply pw_below_drewN | apply below_drew1) | exact HB.out)⟩⟩
              · rw [if_neg c7] at H
                exact absurd H (by simp)
            · rw [if_neg c6] at H
              exact absurd H (by simp)
          · rw [if_neg c5] at H
            exact absurd H (by simp)
        · rw [if_neg c4] at H
          exact absurd H (by simp)
      · replace c3 := Bool.eq_false_iff.mpr c3
        subst c3
        have H1 : (some x3_1) = some r := by rw [if_neg (show ¬ (false = true) by decide)] at H; exact H
        clear H
        have H := H1
        clear H1
        obtain rfl := Option.some.inj H
        go_wp2_with (first | ((with_reducible refine gate_callee (f := 46) rfl ?_); refine goesL_ (some 12) rfl rfl Try.func46 (by kernel_rfl) rfl #[.string a0, .int .i64 x4_1] rfl (by (try simp only [List.map_toArray, List.map_cons, List.map_nil]); first | done | rfl | (simp only [List.length_drop, List.length_take]; rfl)) ?_; (with_reducible refine (spec_evalAt.calls k1 a0 x4_1 t126 t127 t128 false _ A2.out).mono ?_); rintro e w' ⟨rfl, ⟨nd, rfl⟩⟩; refine ⟨_, rfl, ?_⟩))
        go_ret
        exact ⟨_, by first | rfl | (simp [errW_none, errW_some] <;> rfl) | (simp [*, errW_none, errW_some] <;> rfl), by (with_reducible repeat (first | apply Kd.R_alloc | apply Kd.R_drewN | apply Kd.R_drew)); exact HO_3.out, by repeat (first | (with_reducible first | exact HB.out | apply below_alloc | apply pw_below_drewN | apply below_drew1) | exact HB.out)⟩

/-! ### util_zzWord: function 68 -/
def util_zzWord.f (a0 : Int) : Option (Bool) := if a0 = 95 then (some true) else (if a0 ≥ 48 then (if a0 ≤ 57 then (some true) else (if a0 ≥ 97 then (if a0 ≤ 122 then (some true) else (if a0 ≥ 65 then (some (decide (a0 ≤ 90))) else (some false))) else (if a0 ≥ 65 then (some (decide (a0 ≤ 90))) else (some false)))) else (if a0 ≥ 97 then (if a0 ≤ 122 then (some true) else (if a0 ≥ 65 then (some (decide (a0 ≤ 90))) else (some false))) else (if a0 ≥ 65 then (some (decide (a0 ≤ 90))) else (some false))))
set_option maxHeartbeats 8000000 in
set_option maxRecDepth 100000 in
theorem util_zzWord.calls (a0 : Int) (r : Bool) (w : World) (h : util_zzWord.f a0 = some r) :
    Calls Try.prog 68 #[.int .u8 a0] w fun e w' => e = .returned (.bool r) ∧ Drawn0 w w' := by
  have H : (if a0 = 95 then (some true) else (if a0 ≥ 48 then (if a0 ≤ 57 then (some true) else (if a0 ≥ 97 then (if a0 ≤ 122 then (some true) else (if a0 ≥ 65 then (some (decide (a0 ≤ 90))) else (some false))) else (if a0 ≥ 65 then (some (decide (a0 ≤ 90))) else (some false)))) else (if a0 ≥ 97 then (if a0 ≤ 122 then (some true) else (if a0 ≥ 65 then (some (decide (a0 ≤ 90))) else (some false))) else (if a0 ≥ 65 then (some (decide (a0 ≤ 90))) else (some false))))) = some r := h
  clear h
  by_cases c2 : a0 = 95
  · rw [if_pos c2] at H
    have c2b0 : (a0 == 95) = true := beq_iff_eq.mpr c2
    have c2b1 : (a0 != 95) = false := bne_eq_false_iff_eq.mpr c2
    clear c2
    obtain rfl := Option.some.inj H
    go_enter Try.func68, Try.ntmps68
    go_wp2
    go_ret
    exact ⟨by first | rfl | (simp; done) | (simp [*]; done), by repeat (first | exact Drawn0.refl _ | apply Drawn0.step)⟩
  · rw [if_neg c2] at H
    have c2b0 : (a0 == 95) = false := beq_eq_false_iff_ne.mpr c2
    have c2b1 : (a0 != 95) = true := bne_iff_ne.mpr c2
    by_cases c3 : a0 ≥ 48
    · rw [if_pos c3] at H
      have c3b0 : decide (48 ≤ a0) = true := decide_eq_true c3
      clear c3
      by_cases c4 : a0 ≤ 57
      · rw [if_pos c4] at H
        have c4b0 : decide (a0 ≤ 57) = true := decide_eq_true c4
        clear c4
        obtain rfl := Option.some.inj H
        go_enter Try.func68, Try.ntmps68
        go_wp2
        go_ret
        exact ⟨by first | rfl | (simp; done) | (simp [*]; done), by repeat (first | exact Drawn0.refl _ | apply Drawn0.step)⟩
      · rw [if_neg c4] at H
        have c4b0 : decide (a0 ≤ 57) = false := decide_eq_false c4
        clear c4
        by_cases c5 : a0 ≥ 97
        · rw [if_pos c5] at H
          have c5b0 : decide (97 ≤ a0) = true := decide_eq_true c5
          clear c5
          by_cases c6 : a0 ≤ 122
          · rw [if_pos c6] at H
            have c6b0 : decide (a0 ≤ 122) = true := decide_eq_true c6
            clear c6
            obtain rfl := Option.some.inj H
            go_enter Try.func68, Try.ntmps68
            go_wp2
            go_ret
            exact ⟨by first | rfl | (simp; done) | (simp [*]; done), by repeat (first | exact Drawn0.refl _ | apply Drawn0.step)⟩
          · rw [if_neg c6] at H
            have c6b0 : decide (a0 ≤ 122) = false := decide_eq_false c6
            clear c6
            by_cases c7 : a0 ≥ 65
            · rw [if_pos c7] at H
              have c7b0 : decide (65 ≤ a0) = true := decide_eq_true c7
              clear c7
              obtain rfl := Option.some.inj H
              go_enter Try.func68, Try.ntmps68
              go_wp2
              go_ret
              exact ⟨by first | rfl | (simp; done) | (simp [*]; done), by repeat (first | exact Drawn0.refl _ | apply Drawn0.step)⟩
            · rw [if_neg c7] at H
              have c7b0 : decide (65 ≤ a0) = false := decide_eq_false c7
              clear c7
              obtain rfl := Option.some.inj H
              go_enter Try.func68, Try.ntmps68
              go_wp2
              go_ret
              exact ⟨by first | rfl | (simp; done) | (simp [*]; done), by repeat (first | exact Drawn0.refl _ | apply Drawn0.step)⟩
        · rw [if_neg c5] at H
          have c5b0 : decide (97 ≤ a0) = false := decide_eq_false c5
          clear c5
          by_cases c8 : a0 ≥ 65
          · rw [if_pos c8] at H
            have c8b0 : decide (65 ≤ a0) = true := decide_eq_true c8
            clear c8
            obtain rfl := Option.some.inj H
            go_enter Try.func68, Try.ntmps68
            go_wp2
            go_ret
            exact ⟨by first | rfl | (simp; done) | (simp [*]; done), by repeat (first | exact Drawn0.refl _ | apply Drawn0.step)⟩
          · rw [if_neg c8] at H
            have c8b0 : decide (65 ≤ a0) = false := decide_eq_false c8
            clear c8
            obtain rfl := Option.some.inj H
            go_enter Try.func68, Try.ntmps68
            go_wp2
            go_ret
            exact ⟨by first | rfl | (simp; done) | (simp [*]; done), by repeat (first | exact Drawn0.refl _ | apply Drawn0.step)⟩
    · rw [if_neg c3] at H
      have c3b0 : decide (48 ≤ a0) = false := decide_eq_false c3
      clear c3
      by_cases c9 : a0 ≥ 97
      · rw [if_pos c9] at H
        have c9b0 : decide (97 ≤ a0) = true := decide_eq_true c9
        clear c9
        by_cases c10 : a0 ≤ 122
        · rw [if_pos c10] at H
          have c10b0 : decide (a0 ≤ 122) = true := decide_eq_true c10
          clear c10
          obtain rfl := Option.some.inj H
          go_enter Try.func68, Try.ntmps68
          go_wp2
          go_ret
          exact ⟨by first | rfl | (simp; done) | (simp [*]; done), by repeat (first | exact Drawn0.refl _ | apply Drawn0.step)⟩
        · rw [if_neg c10] at H
          have c10b0 : decide (a0 ≤ 122) = false := decide_eq_false c10
          clear c10
          by_cases c11 : a0 ≥ 65
          · rw [if_pos c11] at H
            have c11b0 : decide (65 ≤ a0) = true := decide_eq_true c11
            clear c11
            obtain rfl := Option.some.inj H
            go_enter Try.func68, Try.ntmps68
            go_wp2
            go_ret
            exact ⟨by first | rfl | (simp; done) | (simp [*]; done), by repeat (first | exact Drawn0.refl _ | apply Drawn0.step)⟩
          · rw [if_neg c11] at H
            have c11b0 : decide (65 ≤ a0) = false := decide_eq_false c11
            clear c11
            obtain rfl := Option.some.inj H
            go_enter Try.func68, Try.ntmps68
            go_wp2
            go_ret
            exact ⟨by first | rfl | (simp; done) | (simp [*]; done), by repeat (first | exact Drawn0.refl _ | apply Drawn0.step)⟩
      · rw [if_neg c9] at H
        have c9b0 : decide (97 ≤ a0) = false := decide_eq_false c9
        clear c9
        by_cases c12 : a0 ≥ 65
        · rw [if_pos c12] at H
          have c12b0 : decide (65 ≤ a0) = true := decide_eq_true c12
          clear c12
          obtain rfl := Option.some.inj H
          go_enter Try.func68, Try.ntmps68
          go_wp2
          go_ret
          exact ⟨by first | rfl | (simp; done) | (simp [*]; done), by repeat (first | exact Drawn0.refl _ | apply Drawn0.step)⟩
        · rw [if_neg c12] at H
          have c12b0 : decide (65 ≤ a0) = false := decide_eq_false c12
          clear c12
          obtain rfl := Option.some.inj H
          go_enter Try.func68, Try.ntmps68
          go_wp2
          go_ret
          exact ⟨by first | rfl | (simp; done) | (simp [*]; done), by repeat (first | exact Drawn0.refl _ | apply Drawn0.step)⟩

end Go.Proofs.Ytnbcohabllkneaa.PFnEvals
