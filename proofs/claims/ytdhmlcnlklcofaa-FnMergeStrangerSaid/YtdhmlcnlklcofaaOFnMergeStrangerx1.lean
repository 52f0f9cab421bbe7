/- The machine side of laws.FnMergeStranger: each function of this text answers what its Lean function answers (written for this claim by a program of this session over the kit's print; no condition beyond what each theorem says). -/
import Derived.Test.YtdhmlcnlklcofaaOFnMergeStrangerx0
namespace Go.Proofs.Ytdhmlcnlklcofaa.PFnMergeStranger
open Go.RowKit Go.Proofs.YtdhmlcnlklcofaaW.PrintWords Go.Proofs.YtdhmlcnlklcofaaW.PrintLast Go.Proofs.YtdhmlcnlklcofaaW.PrintMore
attribute [local go_sem] max2_int min2_int max_two min_two max_three min_three max_four min_four   -- for this text's walks alone
set_option linter.unusedVariables false
set_option linter.unusedSimpArgs false

/-! ### laws_effects: function 28 -/
def laws_effects.l0 : Nat → List Int → List Bool → Int → Option (Bool)
  | 0, _, _, _ => none
  | k + 1, x0, x1, x5 => if x5 < (x0.length : Int) then (if 0 ≤ x5 then (if (rd x0 x5) < 0 then (some false) else (if (rd x0 x5) > 2 then (some false) else (laws_effects.l0 k x0 x1 (wrap64 (x5 + 1))))) else (none)) else (if (x0.length : Int) ≥ 1 then (if (x0.length : Int) ≤ 20 then (some ((x1.length : Int) == (x0.length : Int))) else (some false)) else (some false))
def laws_effects.f (k : Nat) (l0 : List Int) (l1 : List Bool) : Option (Bool) := if (l0.length : Int) > 20 then (some false) else (laws_effects.l0 k l0 l1 0)
theorem laws_effects.mono_l : ∀ k, (∀ y0 y1 y2, LeO (laws_effects.l0 k y0 y1 y2) (laws_effects.l0 (k + 1) y0 y1 y2))
  | 0 => fun _ _ _ r h => by simp [laws_effects.l0] at h
  | k + 1 => by
    have ih0 := laws_effects.mono_l k
    · intro y0 y1 y2
      unfold laws_effects.l0
      repeat' first
      | (with_reducible exact ih0 _ _ _)
      | (with_reducible exact LeO.refl _)
      | (with_reducible exact LeO.none _)
      | (with_reducible refine LeO.ite ?_ ?_)
      | (with_reducible refine LeO.bind ?_ (fun _ => ?_))
      | exact ih0 _ _ _
      | exact LeO.none _
      | refine LeO.ite ?_ ?_
      | refine LeO.bind ?_ (fun _ => ?_)
theorem laws_effects.mono : ∀ a0 a1 k, LeO (laws_effects.f k a0 a1) (laws_effects.f (k + 1) a0 a1) := by
  intro a0 a1 k
  have ih0 := laws_effects.mono_l k
  unfold laws_effects.f
  repeat' first
      | (with_reducible exact ih0 _ _ _)
      | (with_reducible exact LeO.refl _)
      | (with_reducible exact LeO.none _)
      | (with_reducible refine LeO.ite ?_ ?_)
      | (with_reducible refine LeO.bind ?_ (fun _ => ?_))
      | exact ih0 _ _ _
      | exact LeO.none _
      | refine LeO.ite ?_ ?_
      | refine LeO.bind ?_ (fun _ => ?_)
set_option maxHeartbeats 8000000 in
set_option maxRecDepth 100000 in
theorem laws_effects.calls (k : Nat) (A0 : Option Addr) (c0 : Nat) (l0 : List Int) (A1 : Option Addr) (c1 : Nat) (l1 : List Bool) (r : Bool) (w : World) (hr0 : Kd.C (Kd.int .i64) w A0 l0.length l0) (hc0 : l0.length ≤ c0) (hr1 : Kd.C Kd.bool w A1 l1.length l1) (hc1 : l1.length ≤ c1) (h : laws_effects.f k l0 l1 = some r) :
    Calls Try.prog 28 #[.slice A0 l0.length c0, .slice A1 l1.length c1] w fun e w' => e = .returned (.bool r) ∧ Drawn0 w w' := by
  have HR0 := Aside0.mk hr0
  have HC0 := Aside0.mk hc0
  clear hr0 hc0
  have HR1 := Aside0.mk hr1
  have HC1 := Aside0.mk hc1
  clear hr1 hc1
  have H : (if (l0.length : Int) > 20 then (some false) else (laws_effects.l0 k l0 l1 0)) = some r := h
  clear h
  by_cases c3 : (l0.length : Int) > 20
  · rw [if_pos c3] at H
    have c3b0 : decide (20 < (l0.length : Int)) = true := decide_eq_true c3
    have c3b1 : decide (20 < l0.length) = true := decide_eq_true (by omega)
    clear c3
    obtain rfl := Option.some.inj H
    go_enter Try.func28, Try.ntmps28
    go_wp2
    go_ret
    exact ⟨by first | rfl | (simp; done) | (simp [*]; done), by repeat (first | exact Drawn0.refl _ | apply Drawn0.step)⟩
  · rw [if_neg c3] at H
    have c3b0 : decide (20 < (l0.length : Int)) = false := decide_eq_false c3
    have c3b1 : decide (20 < l0.length) = false := decide_eq_false (by omega)
    clear c3
    have H' := Aside0.mk H
    clear H
    go_enter Try.func28, Try.ntmps28
    go_wp2
    go_loopg [5] k (fun kq v5 w' => ∃ (x5_1 : Int), v5 = .int .i64 x5_1 ∧ Aside0 (laws_effects.l0 kq l0 l1 x5_1 = some r) ∧ Aside0 (kq ≤ k) ∧ Drawn0 w w')
    case atStart => exact ⟨(0), (by first | rfl | (simp; done) | (simp [*]; done)), H', ⟨Nat.le_refl _⟩, by repeat (first | exact Drawn0.refl _ | apply Drawn0.step)⟩
    case round =>
      clear H'
      try clear c1
      try clear c2
      try clear p2
      try clear c3
      try clear c3b0
      try clear c3b1
      obtain ⟨x5_1, rfl, HA, HK1, ⟨m1, rfl⟩⟩ := hrel
      cases gk with
      | zero => exact absurd HA.out (by simp [laws_effects.l0])
      | succ k1 =>
        have H := HA.out
        clear HA
        simp only [laws_effects.l0] at H
        by_cases c4 : x5_1 < (l0.length : Int)
        · rw [if_pos c4] at H
          have c4b0 : decide (x5_1 < (l0.length : Int)) = true := decide_eq_true c4
          clear c4
          by_cases c5 : 0 ≤ x5_1
          · rw [if_pos c5] at H
            have c5b0 : decide (0 ≤ x5_1) = true := decide_eq_true c5
            clear c5
            by_cases c6 : (rd l0 x5_1) < 0
            · rw [if_pos c6] at H
              have c6b0 : decide ((rd l0 x5_1) < 0) = true := decide_eq_true c6
              clear c6
              obtain rfl := Option.some.inj H
              have p101 : 0 ≤ (x5_1 : Int) := of_decide_eq_true (by first | (with_reducible assumption) | assumption)
              have q101 : x5_1 < (l0.length : Int) := of_decide_eq_true (by first | (with_reducible assumption) | assumption)
              obtain ⟨ad101, e101, hx101_0⟩ := Kd.at_int HR0.out x5_1 p101 q101
              cases e101
              replace p101 := eq_true p101
              replace q101 := eq_true q101
              go_wp2
              go_ret
              exact ⟨by first | rfl | (simp; done) | (simp [*]; done), by repeat (first | exact Drawn0.refl _ | apply Drawn0.step)⟩
            · rw [if_neg c6] at H
              have c6b0 : decide ((rd l0 x5_1) < 0) = false := decide_eq_false c6
              clear c6
              by_cases c7 : (rd l0 x5_1) > 2
              · rw [if_pos c7] at H
                have c7b0 : decide (2 < (rd l0 x5_1)) = true := decide_eq_true c7
                clear c7
                obtain rfl := Option.some.inj H
                have p101 : 0 ≤ (x5_1 : Int) := of_decide_eq_true (by first | (with_reducible assumption) | assumption)
                have q101 : x5_1 < (l0.length : Int) := of_decide_eq_true (by first | (with_reducible assumption) | assumption)
                obtain ⟨ad101, e101, hx101_0⟩ := Kd.at_int HR0.out x5_1 p101 q101
                cases e101
                replace p101 := eq_true p101
                replace q101 := eq_true q101
                have p102 : 0 ≤ (x5_1 : Int) := of_decide_eq_true (by first | (with_reducible assumption) | assumption)
                have q102 : x5_1 < (l0.length : Int) := of_decide_eq_true (by first | (with_reducible assumption) | assumption)
                obtain ⟨ad102, e102, hx102_0⟩ := Kd.at_int HR0.out x5_1 p102 q102
                obtain rfl : ad101 = ad102 := (by injection e102)
                replace p102 := eq_true p102
                replace q102 := eq_true q102
                go_wp2
                go_ret
                exact ⟨by first | rfl | (simp; done) | (simp [*]; done), by repeat (first | exact Drawn0.refl _ | apply Drawn0.step)⟩
              · rw [if_neg c7] at H
                have c7b0 : decide (2 < (rd l0 x5_1)) = false := decide_eq_false c7
                clear c7
                have H' := Aside0.mk H
                clear H
                have p101 : 0 ≤ (x5_1 : Int) := of_decide_eq_true (by first | (with_reducible assumption) | assumption)
                have q101 : x5_1 < (l0.length : Int) := of_decide_eq_true (by first | (with_reducible assumption) | assumption)
                obtain ⟨ad101, e101, hx101_0⟩ := Kd.at_int HR0.out x5_1 p101 q101
                cases e101
                replace p101 := eq_true p101
                replace q101 := eq_true q101
                have p102 : 0 ≤ (x5_1 : Int) := of_decide_eq_true (by first | (with_reducible assumption) | assumption)
                have q102 : x5_1 < (l0.length : Int) := of_decide_eq_true (by first | (with_reducible assumption) | assumption)
                obtain ⟨ad102, e102, hx102_0⟩ := Kd.at_int HR0.out x5_1 p102 q102
                obtain rfl : ad101 = ad102 := (by injection e102)
                replace p102 := eq_true p102
                replace q102 := eq_true q102
                go_wp2
                go_roundg k1
                case measure => have := HK1.out; omega
                case rel => exact ⟨(wrap64 (x5_1 + 1)), (by first | rfl | (simp; done) | (simp [*]; done)), H', ⟨by have := HK1.out; omega⟩, by repeat (first | exact Drawn0.refl _ | apply Drawn0.step)⟩
          · rw [if_neg c5] at H
            exact absurd H (by simp)
        · rw [if_neg c4] at H
          have c4b0 : decide (x5_1 < (l0.length : Int)) = false := decide_eq_false c4
          clear c4
          by_cases c8 : (l0.length : Int) ≥ 1
          · rw [if_pos c8] at H
            have c8b0 : decide (1 ≤ (l0.length : Int)) = true := decide_eq_true c8
            have c8b1 : decide (1 ≤ l0.length) = true := decide_eq_true (by omega)
            clear c8
            by_cases c9 : (l0.length : Int) ≤ 20
            · rw [if_pos c9] at H
              have c9b0 : decide ((l0.length : Int) ≤ 20) = true := decide_eq_true c9
              have c9b1 : decide (l0.length ≤ 20) = true := decide_eq_true (by omega)
              clear c9
              obtain rfl := Option.some.inj H
              go_wp2
              go_ret
              exact ⟨by first | rfl | (simp; done) | (simp [*]; done), by repeat (first | exact Drawn0.refl _ | apply Drawn0.step)⟩
            · rw [if_neg c9] at H
              have c9b0 : decide ((l0.length : Int) ≤ 20) = false := decide_eq_false c9
              have c9b1 : decide (l0.length ≤ 20) = false := decide_eq_false (by omega)
              clear c9
              obtain rfl := Option.some.inj H
              go_wp2
              go_ret
              exact ⟨by first | rfl | (simp; done) | (simp [*]; done), by repeat (first | exact Drawn0.refl _ | apply Drawn0.step)⟩
          · rw [if_neg c8] at H
            have c8b0 : decide (1 ≤ (l0.length : Int)) = false := decide_eq_false c8
            have c8b1 : decide (1 ≤ l0.length) = false := decide_eq_false (by omega)
            clear c8
            obtain rfl := Option.some.inj H
            go_wp2
            go_ret
            exact ⟨by first | rfl | (simp; done) | (simp [*]; done), by repeat (first | exact Drawn0.refl _ | apply Drawn0.step)⟩

/-! ### effector_NewDefaultEffector: function 48 -/
/-- (the pointer itself is never looked into) -/
def effector_NewDefaultEffector.f : Option Int := some 0
theorem effector_NewDefaultEffector.calls (r : Int) (w : World) (h : effector_NewDefaultEffector.f = some r) :
    Calls Try.prog 48 #[] w fun e w' => (∃ pa : Option Addr, e = .returned (.pointer pa)) ∧ Below w.heap.size w w' := by
  clear h
  go_enter Try.func48, Try.ntmps48
  go_wp2
  go_ret
  exact ⟨⟨_, rfl⟩, (Below.refl _ _).alloc (Nat.le_refl _) _⟩

/-! ### errors_New: function 57 -/
/-- what stands for an error: nothing, or something under some type -/
def EV : Option Int → Value → Prop
  | none, v => v = .nilIface
  | some _, v => ∃ t x, v = .iface t x
def errors_New.f (a0 : ByteArray) : Option (Option Int) := some (some 0)
theorem errors_New.calls (a0 : ByteArray) (r : Option Int) (w : World) (h : errors_New.f a0 = some r) :
    Calls Try.prog 57 #[.string a0] w fun e w' => (∃ ev, EV r ev ∧ e = .returned ev) ∧ Below w.heap.size w w' := by
  obtain rfl := Option.some.inj h
  clear h
  go_enter Try.func57, Try.ntmps57
  go_wp2
  go_ret
  exact ⟨⟨_, ⟨_, _, rfl⟩, rfl⟩, (Below.refl _ _).alloc (Nat.le_refl _) _⟩

end Go.Proofs.Ytdhmlcnlklcofaa.PFnMergeStranger
