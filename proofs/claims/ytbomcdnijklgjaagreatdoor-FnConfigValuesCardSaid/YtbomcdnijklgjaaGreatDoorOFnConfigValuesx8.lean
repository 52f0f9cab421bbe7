/- The machine side of laws.FnConfigValues: each function of this text answers what its Lean function answers (written for this claim by a program of this session over the kit's print; no condition beyond what each theorem says). -/
import Derived.Test.YtbomcdnijklgjaaGreatDoorOFnConfigValuesx0
import Derived.Test.YtbomcdnijklgjaaGreatDoorOFnConfigValuesx5
import Derived.Test.YtbomcdnijklgjaaGreatDoorOFnConfigValuesx6
namespace Go.Proofs.YtbomcdnijklgjaaGreatDoor.PFnConfigValues
open Go.RowKit Go.Proofs.YtbomcdnijklgjaaGreatDoorW.PrintWords Go.Proofs.YtbomcdnijklgjaaGreatDoorW.PrintLast Go.Proofs.YtbomcdnijklgjaaGreatDoorW.PrintMore
attribute [local go_sem] max2_int min2_int max_two min_two max_three min_three max_four min_four   -- for this text's walks alone
set_option linter.unusedVariables false
set_option linter.unusedSimpArgs false

/-! ### spec_ConfValue: function 13 -/
mutual
def spec_ConfValue.l0 : Nat → List (S50) → ByteArray → ByteArray → Int → Option (ByteArray)
  | 0, _, _, _, _ => none
  | k + 1, x0, x1, x2, x7 => if x7 < (x0.length : Int) then (spec_ConfValue.l1 k x0 x1 x2 x7 0) else (some (⟨#[]⟩ : ByteArray))
def spec_ConfValue.l1 : Nat → List (S50) → ByteArray → ByteArray → Int → Int → Option (ByteArray)
  | 0, _, _, _, _, _ => none
  | k + 1, x0, x1, x2, x7, x8 => if 0 ≤ x7 then (if x7 < (x0.length : Int) then (if x8 < (((rd_T50 x0 x7).f2).length : Int) then (spec_ConfValue.j2 k x0 x1 x2 x7 x8 (((rd_T50 x0 x7).f0).toList == x1.toList)) else (spec_ConfValue.j2 k x0 x1 x2 x7 x8 false)) else (none)) else (none)
def spec_ConfValue.j2 : Nat → List (S50) → ByteArray → ByteArray → Int → Int → Bool → Option (ByteArray)
  | 0, _, _, _, _, _, _ => none
  | k + 1, x0, x1, x2, x7, x8, x31 => if x31 = true then (if 0 ≤ x7 then (if x7 < (x0.length : Int) then (if 0 ≤ x8 then (if x8 < (((rd_T50 x0 x7).f2).length : Int) then (if ((rd_T53 ((rd_T50 x0 x7).f2) x8).f0).toList = x2.toList then ((spec_Joined.f k ((rd_T53 ((rd_T50 x0 x7).f2) x8).f1) (⟨#[32]⟩ : ByteArray)).bind fun t177 => (some t177)) else (spec_ConfValue.l1 k x0 x1 x2 x7 (wrap64 (x8 + 1)))) else (none)) else (none)) else (none)) else (none)) else (spec_ConfValue.l0 k x0 x1 x2 (wrap64 (x7 + 1)))
end
def spec_ConfValue.f (k : Nat) (l0 : List (S50)) (a1 : ByteArray) (a2 : ByteArray) : Option (ByteArray) := spec_ConfValue.l0 k l0 a1 a2 0
theorem spec_ConfValue.mono_l : ∀ k, (∀ y0 y1 y2 y3, LeO (spec_ConfValue.l0 k y0 y1 y2 y3) (spec_ConfValue.l0 (k + 1) y0 y1 y2 y3)) ∧ (∀ y0 y1 y2 y3 y4, LeO (spec_ConfValue.l1 k y0 y1 y2 y3 y4) (spec_ConfValue.l1 (k + 1) y0 y1 y2 y3 y4)) ∧ (∀ y0 y1 y2 y3 y4 y5, LeO (spec_ConfValue.j2 k y0 y1 y2 y3 y4 y5) (spec_ConfValue.j2 (k + 1) y0 y1 y2 y3 y4 y5))
  | 0 => ⟨fun _ _ _ _ r h => by simp [spec_ConfValue.l0] at h, fun _ _ _ _ _ r h => by simp [spec_ConfValue.l1] at h, fun _ _ _ _ _ _ r h => by simp [spec_ConfValue.j2] at h⟩
  | k + 1 => by
    obtain ⟨ih0, ih1, ih2⟩ := spec_ConfValue.mono_l k
    refine ⟨?_, ?_, ?_⟩
    · intro y0 y1 y2 y3
      unfold spec_ConfValue.l0
      repeat' first
      | (with_reducible exact ih0 _ _ _ _)
      | (with_reducible exact ih1 _ _ _ _ _)
      | (with_reducible exact ih2 _ _ _ _ _ _)
      | (with_reducible exact spec_Joined.mono _ _ _)
      | (with_reducible exact LeO.refl _)
      | (with_reducible exact LeO.none _)
      | (with_reducible refine LeO.ite ?_ ?_)
      | (with_reducible refine LeO.bind ?_ (fun _ => ?_))
      | exact ih0 _ _ _ _
      | exact ih1 _ _ _ _ _
      | exact ih2 _ _ _ _ _ _
      | exact spec_Joined.mono _ _ _
      | exact LeO.none _
      | refine LeO.ite ?_ ?_
      | refine LeO.bind ?_ (fun _ => ?_)
    · intro y0 y1 y2 y3 y4
      unfold spec_ConfValue.l1
      repeat' first
      | (with_reducible exact ih0 _ _ _ _)
      | (with_reducible exact ih1 _ _ _ _ _)
      | (with_reducible exact ih2 _ _ _ _ _ _)
      | (with_reducible exact spec_Joined.mono _ _ _)
      | (with_reducible exact LeO.refl _)
      | (with_reducible exact LeO.none _)
      | (with_reducible refine LeO.ite ?_ ?_)
      | (with_reducible refine LeO.bind ?_ (fun _ => ?_))
      | exact ih0 _ _ _ _
      | exact ih1 _ _ _ _ _
      | exact ih2 _ _ _ _ _ _
      | exact spec_Joined.mono _ _ _
      | exact LeO.none _
      | refine LeO.ite ?_ ?_
      | refine LeO.bind ?_ (fun _ => ?_)
    · intro y0 y1 y2 y3 y4 y5
      unfold spec_ConfValue.j2
      repeat' first
      | (with_reducible exact ih0 _ _ _ _)
      | (with_reducible exact ih1 _ _ _ _ _)
      | (with_reducible exact ih2 _ _ _ _ _ _)
      | (with_reducible exact spec_Joined.mono _ _ _)
      | (with_reducible exact LeO.refl _)
      | (with_reducible exact LeO.none _)
      | (with_reducible refine LeO.ite ?_ ?_)
      | (with_reducible refine LeO.bind ?_ (fun _ => ?_))
      | exact ih0 _ _ _ _
      | exact ih1 _ _ _ _ _
      | exact ih2 _ _ _ _ _ _
      | exact spec_Joined.mono _ _ _
      | exact LeO.none _
      | refine LeO.ite ?_ ?_
      | refine LeO.bind ?_ (fun _ => ?_)
theorem spec_ConfValue.mono : ∀ a0 a1 a2 k, LeO (spec_ConfValue.f k a0 a1 a2) (spec_ConfValue.f (k + 1) a0 a1 a2) := by
  intro a0 a1 a2 k
  obtain ⟨ih0, ih1, ih2⟩ := spec_ConfValue.mono_l k
  unfold spec_ConfValue.f
  repeat' first
      | (with_reducible exact ih0 _ _ _ _)
      | (with_reducible exact ih1 _ _ _ _ _)
      | (with_reducible exact ih2 _ _ _ _ _ _)
      | (with_reducible exact spec_Joined.mono _ _ _)
      | (with_reducible exact LeO.refl _)
      | (with_reducible exact LeO.none _)
      | (with_reducible refine LeO.ite ?_ ?_)
      | (with_reducible refine LeO.bind ?_ (fun _ => ?_))
      | exact ih0 _ _ _ _
      | exact ih1 _ _ _ _ _
      | exact ih2 _ _ _ _ _ _
      | exact spec_Joined.mono _ _ _
      | exact LeO.none _
      | refine LeO.ite ?_ ?_
      | refine LeO.bind ?_ (fun _ => ?_)
set_option maxHeartbeats 8000000 in
set_option maxRecDepth 100000 in
theorem spec_ConfValue.calls (k : Nat) (A0 : Option Addr) (c0 : Nat) (l0 : List (S50)) (a1 : ByteArray) (a2 : ByteArray) (r : ByteArray) (w : World) (hr0 : Kd.C k50 w A0 l0.length l0) (hc0 : l0.length ≤ c0) (h : spec_ConfValue.f k l0 a1 a2 = some r) :
    Calls Tryz.prog 13 #[.slice A0 l0.length c0, .string a1, .string a2] w fun e w' => e = .returned (.string r) ∧ Drawn0 w w' := by
  have HR0 := Aside0.mk hr0
  have HC0 := Aside0.mk hc0
  clear hr0 hc0
  have H : (spec_ConfValue.l0 k l0 a1 a2 0) = some r := h
  clear h
  have H' := Aside0.mk H
  clear H
  go_enter Tryz.func13, Tryz.ntmps13
  go_wp2
  go_loopg [7] k (fun kq v7 w' => ∃ (x7_1 : Int), v7 = .int .i64 x7_1 ∧ Aside0 (spec_ConfValue.l0 kq l0 a1 a2 x7_1 = some r) ∧ Aside0 (kq ≤ k) ∧ Drawn0 w w')
  case atStart => exact ⟨(0), (by first | rfl | (simp; done) | (simp [*]; done)), H', ⟨Nat.le_refl _⟩, by repeat (first | exact Drawn0.refl _ | apply Drawn0.step)⟩
  case round =>
    clear H'
    try clear c1
    try clear p2
    obtain ⟨x7_1, rfl, HA, HK1, ⟨m1, rfl⟩⟩ := hrel
    cases gk with
    | zero => exact absurd HA.out (by simp [spec_ConfValue.l0])
    | succ k1 =>
      have H := HA.out
      clear HA
      simp only [spec_ConfValue.l0] at H
      by_cases c4 : x7_1 < (l0.length : Int)
      · rw [if_pos c4] at H
        have c4b0 : decide (x7_1 < (l0.length : Int)) = true := decide_eq_true c4
        clear c4
        have H' := Aside0.mk H
        clear H
        go_wp2
        go_loopg [8] k1 (fun kq v8 w' => ∃ (x8_2 : Int), v8 = .int .i64 x8_2 ∧ Aside0 (spec_ConfValue.l1 kq l0 a1 a2 x7_1 x8_2 = some r) ∧ Aside0 (kq ≤ k1) ∧ Drawn0 w w')
        case atStart => exact ⟨(0), (by first | rfl | (simp; done) | (simp [*]; done)), H', ⟨Nat.le_refl _⟩, by repeat (first | exact Drawn0.refl _ | apply Drawn0.step)⟩
        case round =>
          clear H'
          try clear c1
          try clear p2
          try clear c4
          try clear c4b0
          try clear p2
          obtain ⟨x8_2, rfl, HA, HK2, ⟨m2, rfl⟩⟩ := hrel
          cases gk with
          | zero => exact absurd HA.out (by simp [spec_ConfValue.l1])
          | succ k2 =>
            have H := HA.out
            clear HA
            simp only [spec_ConfValue.l1] at H
            have HC5 := Aside0.mk H
            clear H
            go_upto_region 5 with (fail)
            go_cut [31] (fun v31 wc => ∃ (kq : Nat) (x31_4 : Bool), v31 = .bool x31_4 ∧ Aside0 (spec_ConfValue.j2 kq l0 a1 a2 x7_1 x8_2 x31_4 = some r) ∧ Aside0 (kq ≤ k2) ∧ Drawn0 w wc)
            case first =>
              have H := HC5.out
              clear HC5
              by_cases c6 : 0 ≤ x7_1
              · rw [if_pos c6] at H
                have c6b0 : decide (0 ≤ x7_1) = true := decide_eq_true c6
                clear c6
                (first | rw [c6b0] | (simp only [i64_w, i32_w]; rw [c6b0]) | skip)
                by_cases c7 : x7_1 < (l0.length : Int)
                · rw [if_pos c7] at H
                  have c7b0 : decide (x7_1 < (l0.length : Int)) = true := decide_eq_true c7
                  clear c7
                  by_cases c8 : x8_2 < (((rd_T50 l0 x7_1).f2).length : Int)
                  · rw [if_pos c8] at H
                    have c8b0 : decide (x8_2 < (((rd_T50 l0 x7_1).f2).length : Int)) = true := decide_eq_true c8
                    clear c8
                    have H' := Aside0.mk H
                    clear H
                    have p171 : 0 ≤ (x7_1 : Int) := of_decide_eq_true (by first | (with_reducible assumption) | assumption)
                    have q171 : x7_1 < (l0.length : Int) := of_decide_eq_true (by first | (with_reducible assumption) | assumption)
                    obtain ⟨ad171, A171_1, c171_1, A171_2, c171_2, e171, hx171_0, hx171_1, hx171_2, hl171_1, hi171_1, hl171_2, hi171_2⟩ := at_T50 HR0.out x7_1 p171 q171
                    cases e171
                    have HR171_1 := Aside0.mk hi171_1
                    have HC171_1 := Aside0.mk hl171_1
                    clear hi171_1 hl171_1
                    have HR171_2 := Aside0.mk hi171_2
                    have HC171_2 := Aside0.mk hl171_2
                    clear hi171_2 hl171_2
                    replace p171 := eq_true p171
                    replace q171 := eq_true q171
                    have p172 : 0 ≤ (x7_1 : Int) := of_decide_eq_true (by first | (with_reducible assumption) | assumption)
                    have q172 : x7_1 < (l0.length : Int) := of_decide_eq_true (by first | (with_reducible assumption) | assumption)
                    obtain ⟨ad172, A172_1, c172_1, A172_2, c172_2, e172, hx172_0, hx172_1, hx172_2, hl172_1, hi172_1, hl172_2, hi172_2⟩ := at_T50 HR0.out x7_1 p172 q172
                    obtain rfl : ad171 = ad172 := (by injection e172)
                    have HR172_1 := Aside0.mk hi172_1
                    have HC172_1 := Aside0.mk hl172_1
                    clear hi172_1 hl172_1
                    have HR172_2 := Aside0.mk hi172_2
                    have HC172_2 := Aside0.mk hl172_2
                    clear hi172_2 hl172_2
                    replace p172 := eq_true p172
                    replace q172 := eq_true q172
                    have ea_ := Option.some.inj (hx171_1.symm.trans hx172_1)
                    injection ea_ with ea_ en_ ec_
                    subst ea_
                    subst ec_
                    clear en_
                    have ea_ := Option.some.inj (hx171_2.symm.trans hx172_2)
                    injection ea_ with ea_ en_ ec_
                    subst ea_
                    subst ec_
                    clear en_
                    go_wp2
                    go_meet
                    case rel => exact ⟨_, ((((rd_T50 l0 x7_1).f0).toList == a1.toList)), (by first | rfl | (simp; done) | (simp [*]; done)), H', ⟨by have := HK1.out; have := HK2.out; first | omega | exact Nat.le_refl _⟩, by repeat (first | exact Drawn0.refl _ | apply Drawn0.step)⟩
                  · rw [if_neg c8] at H
                    have c8b0 : decide (x8_2 < (((rd_T50 l0 x7_1).f2).length : Int)) = false := decide_eq_false c8
                    clear c8
                    have H' := Aside0.mk H
                    clear H
                    have p171 : 0 ≤ (x7_1 : Int) := of_decide_eq_true (by first | (with_reducible assumption) | assumption)
                    have q171 : x7_1 < (l0.length : Int) := of_decide_eq_true (by first | (with_reducible assumption) | assumption)
                    obtain ⟨ad171, A171_1, c171_1, A171_2, c171_2, e171, hx171_0, hx171_1, hx171_2, hl171_1, hi171_1, hl171_2, hi171_2⟩ := at_T50 HR0.out x7_1 p171 q171
                    cases e171
                    have HR171_1 := Aside0.mk hi171_1
                    have HC171_1 := Aside0.mk hl171_1
                    clear hi171_1 hl171_1
                    have HR171_2 := Aside0.mk hi171_2
                    have HC171_2 := Aside0.mk hl171_2
                    clear hi171_2 hl171_2
                    replace p171 := eq_true p171
                    replace q171 := eq_true q171
                    go_wp2
                    go_meet
                    case rel => exact ⟨_, (false), (by first | rfl | (simp; done) | (simp [*]; done)), H', ⟨by have := HK1.out; have := HK2.out; first | omega | exact Nat.le_refl _⟩, by repeat (first | exact Drawn0.refl _ | apply Drawn0.step)⟩
                · rw [if_neg c7] at H
                  exact absurd H (by simp)
              · rw [if_neg c6] at H
                exact absurd H (by simp)
            case rest =>
              clear HC5
              try clear c1
              try clear p1
              try clear q1
              try clear hx1
              try clear p2
              try clear c4
              try clear c4b0
              try clear c6
              try clear c6b0
              try clear c7
              try clear c7b0
              try clear c8
              try clear c8b0
              try clear hx171_0
              try clear hx171_1
              try clear hx171_2
              try clear hx172_0
              try clear hx172_1
              try clear hx172_2
              try clear p171
              try clear p172
              try clear p2
              try clear q171
              try clear q172
              obtain ⟨kq, x31_4, rfl, HA, HJ4, ⟨mc4, rfl⟩⟩ := hcut
              cases kq with
              | zero => exact absurd HA.out (by simp [spec_ConfValue.j2])
              | succ kj4 =>
                have H := HA.out
                clear HA
                simp only [spec_ConfValue.j2] at H
                by_cases c9 : x31_4 = true
                · subst c9
                  have H1 : (if 0 ≤ x7_1 then (if x7_1 < (l0.length : Int) then (if 0 ≤ x8_2 then (if x8_2 < (((rd_T50 l0 x7_1).f2).length : Int) then (if ((rd_T53 ((rd_T50 l0 x7_1).f2) x8_2).f0).toList = a2.toList then ((spec_Joined.f kj4 ((rd_T53 ((rd_T50 l0 x7_1).f2) x8_2).f1) (⟨#[32]⟩ : ByteArray)).bind fun t177 => (some t177)) else (spec_ConfValue.l1 kj4 l0 a1 a2 x7_1 (wrap64 (x8_2 + 1)))) else (none)) else (none)) else (none)) else (none)) = some r := by rw [if_pos rfl] at H; exact H
                  clear H
                  have H := H1
                  clear H1
                  by_cases c10 : 0 ≤ x7_1
                  · rw [if_pos c10] at H
                    have c10b0 : decide (0 ≤ x7_1) = true := decide_eq_true c10
                    clear c10
                    by_cases c11 : x7_1 < (l0.length : Int)
                    · rw [if_pos c11] at H
                      have c11b0 : decide (x7_1 < (l0.length : Int)) = true := decide_eq_true c11
                      clear c11
                      by_cases c12 : 0 ≤ x8_2
                      · rw [if_pos c12] at H
                        have c12b0 : decide (0 ≤ x8_2) = true := decide_eq_true c12
                        clear c12
                        by_cases c13 : x8_2 < (((rd_T50 l0 x7_1).f2).length : Int)
                        · rw [if_pos c13] at H
                          have c13b0 : decide (x8_2 < (((rd_T50 l0 x7_1).f2).length : Int)) = true := decide_eq_true c13
                          clear c13
                          by_cases c14 : ((rd_T53 ((rd_T50 l0 x7_1).f2) x8_2).f0).toList = a2.toList
                          · rw [if_pos c14] at H
                            have c14b0 : (((rd_T53 ((rd_T50 l0 x7_1).f2) x8_2).f0).toList == a2.toList) = true := beq_iff_eq.mpr c14
                            have c14b1 : (((rd_T53 ((rd_T50 l0 x7_1).f2) x8_2).f0).toList != a2.toList) = false := bne_eq_false_iff_eq.mpr c14
                            clear c14
                            replace H := Option.bind_eq_some_iff.mp H
                            obtain ⟨t177, A150, H⟩ := H
                            replace H : (some t177) = some r := H
                            have A15 := Aside0.mk A150
                            clear A150
                            obtain rfl := Option.some.inj H
                            have p173 : 0 ≤ (x7_1 : Int) := of_decide_eq_true (by first | (with_reducible assumption) | assumption)
                            have q173 : x7_1 < (l0.length : Int) := of_decide_eq_true (by first | (with_reducible assumption) | assumption)
                            obtain ⟨ad173, A173_1, c173_1, A173_2, c173_2, e173, hx173_0, hx173_1, hx173_2, hl173_1, hi173_1, hl173_2, hi173_2⟩ := at_T50 HR0.out x7_1 p173 q173
                            cases e173
                            have HR173_1 := Aside0.mk hi173_1
                            have HC173_1 := Aside0.mk hl173_1
                            clear hi173_1 hl173_1
                            have HR173_2 := Aside0.mk hi173_2
                            have HC173_2 := Aside0.mk hl173_2
                            clear hi173_2 hl173_2
                            replace p173 := eq_true p173
                            replace q173 := eq_true q173
                            have p174 : 0 ≤ (x8_2 : Int) := of_decide_eq_true (by first | (with_reducible assumption) | assumption)
                            have q174 : x8_2 < (((rd_T50 l0 x7_1).f2).length : Int) := of_decide_eq_true (by first | (with_reducible assumption) | assumption)
                            obtain ⟨ad174, A174_1, c174_1, e174, hx174_0, hx174_1, hl174_1, hi174_1⟩ := at_T53 HR173_2.out x8_2 p174 q174
                            cases e174
                            have HR174_1 := Aside0.mk hi174_1
                            have HC174_1 := Aside0.mk hl174_1
                            clear hi174_1 hl174_1
                            replace p174 := eq_true p174
                            replace q174 := eq_true q174
                            have p175 : 0 ≤ (x7_1 : Int) := of_decide_eq_true (by first | (with_reducible assumption) | assumption)
                            have q175 : x7_1 < (l0.length : Int) := of_decide_eq_true (by first | (with_reducible assumption) | assumption)
                            obtain ⟨ad175, A175_1, c175_1, A175_2, c175_2, e175, hx175_0, hx175_1, hx175_2, hl175_1, hi175_1, hl175_2, hi175_2⟩ := at_T50 HR0.out x7_1 p175 q175
                            obtain rfl : ad173 = ad175 := (by injection e175)
                            have HR175_1 := Aside0.mk hi175_1
                            have HC175_1 := Aside0.mk hl175_1
                            clear hi175_1 hl175_1
                            have HR175_2 := Aside0.mk hi175_2
                            have HC175_2 := Aside0.mk hl175_2
                            clear hi175_2 hl175_2
                            replace p175 := eq_true p175
                            replace q175 := eq_true q175
                            have ea_ := Option.some.inj (hx173_1.symm.trans hx175_1)
                            injection ea_ with ea_ en_ ec_
                            subst ea_
                            subst ec_
                            clear en_
                            have ea_ := Option.some.inj (hx173_2.symm.trans hx175_2)
                            injection ea_ with ea_ en_ ec_
                            subst ea_
                            subst ec_
                            clear en_
                            have p176 : 0 ≤ (x8_2 : Int) := of_decide_eq_true (by first | (with_reducible assumption) | assumption)
                            have q176 : x8_2 < (((rd_T50 l0 x7_1).f2).length : Int) := of_decide_eq_true (by first | (with_reducible assumption) | assumption)
                            obtain ⟨ad176, A176_1, c176_1, e176, hx176_0, hx176_1, hl176_1, hi176_1⟩ := at_T53 HR175_2.out x8_2 p176 q176
                            cases e176
                            have HR176_1 := Aside0.mk hi176_1
                            have HC176_1 := Aside0.mk hl176_1
                            clear hi176_1 hl176_1
                            replace p176 := eq_true p176
                            replace q176 := eq_true q176
                            go_wp2_with (first | ((with_reducible refine gate_callee (f := 26) rfl ?_); refine goesL_ (some 54) rfl rfl Tryz.func26 (by kernel_rfl) rfl #[.slice A174_1 ((rd_T53 ((rd_T50 l0 x7_1).f2) x8_2).f1).length c174_1, .string (⟨#[32]⟩ : ByteArray)] rfl (by (try simp only [List.map_toArray, List.map_cons, List.map_nil]); first | done | rfl | (simp only [List.length_drop, List.length_take]; rfl)) ?_; (with_reducible refine (spec_Joined.calls kj4 _ _ ((rd_T53 ((rd_T50 l0 x7_1).f2) x8_2).f1) (⟨#[32]⟩ : ByteArray) t177 _ ?side1 ?side2 A15.out).mono ?_); (case side1 => repeat (first | exact HR174_1.out | (with_reducible refine Kd.C_alloc ?_ _) | (with_reducible refine Kd.C_drewN ?_ _) | (with_reducible refine Kd.C_drew ?_))); (case side2 => exact HC174_1.out); rintro e w' ⟨rfl, ⟨nd, rfl⟩⟩; refine ⟨_, rfl, ?_⟩))
                            go_ret
                            exact ⟨by first | rfl | (simp; done) | (simp [*]; done), by repeat (first | exact Drawn0.refl _ | apply Drawn0.step)⟩
                          · rw [if_neg c14] at H
                            have c14b0 : (((rd_T53 ((rd_T50 l0 x7_1).f2) x8_2).f0).toList == a2.toList) = false := beq_eq_false_iff_ne.mpr c14
                            have c14b1 : (((rd_T53 ((rd_T50 l0 x7_1).f2) x8_2).f0).toList != a2.toList) = true := bne_iff_ne.mpr c14
                            have H' := Aside0.mk H
                            clear H
                            have p173 : 0 ≤ (x7_1 : Int) := of_decide_eq_true (by first | (with_reducible assumption) | assumption)
                            have q173 : x7_1 < (l0.length : Int) := of_decide_eq_true (by first | (with_reducible assumption) | assumption)
                            obtain ⟨ad173, A173_1, c173_1, A173_2, c173_2, e173, hx173_0, hx173_1, hx173_2, hl173_1, hi173_1, hl173_2, hi173_2⟩ := at_T50 HR0.out x7_1 p173 q173
                            cases e173
                            have HR173_1 := Aside0.mk hi173_1
                            have HC173_1 := Aside0.mk hl173_1
                            clear hi173_1 hl173_1
                            have HR173_2 := Aside0.mk hi173_2
                            have HC173_2 := Aside0.mk hl173_2
                            clear hi173_2 hl173_2
                            replace p173 := eq_true p173
                            replace q173 := eq_true q173
                            have p174 : 0 ≤ (x8_2 : Int) := of_decide_eq_true (by first | (with_reducible assumption) | assumption)
                            have q174 : x8_2 < (((rd_T50 l0 x7_1).f2).length : Int) := of_decide_eq_true (by first | (with_reducible assumption) | assumption)
                            obtain ⟨ad174, A174_1, c174_1, e174, hx174_0, hx174_1, hl174_1, hi174_1⟩ := at_T53 HR173_2.out x8_2 p174 q174
                            cases e174
                            have HR174_1 := Aside0.mk hi174_1
                            have HC174_1 := Aside0.mk hl174_1
                            clear hi174_1 hl174_1
                            replace p174 := eq_true p174
                            replace q174 := eq_true q174
                            go_wp2
                            go_roundg kj4
                            case measure => have := HK1.out; have := HK2.out; have := HJ4.out; omega
                            case rel => exact ⟨(wrap64 (x8_2 + 1)), (by first | rfl | (simp; done) | (simp [*]; done)), H', ⟨by have := HK1.out; have := HK2.out; have := HJ4.out; omega⟩, by repeat (first | exact Drawn0.refl _ | apply Drawn0.step)⟩
                        · rw [if_neg c13] at H
                          exact absurd H (by simp)
                      · rw [if_neg c12] at H
                        exact absurd H (by simp)
                    · rw [if_neg c11] at H
                      exact absurd H (by simp)
                  · rw [if_neg c10] at H
                    exact absurd H (by simp)
                · replace c9 := Bool.eq_false_iff.mpr c9
                  subst c9
                  have H1 : (spec_ConfValue.l0 kj4 l0 a1 a2 (wrap64 (x7_1 + 1))) = some r := by rw [if_neg (show ¬ (false = true) by decide)] at H; exact H
                  clear H
                  have H := H1
                  clear H1
                  have H' := Aside0.mk H
                  clear H
                  go_wp2
                  go_roundg kj4
                  case measure => have := HK1.out; have := HK2.out; have := HJ4.out; omega
                  case rel => exact ⟨(wrap64 (x7_1 + 1)), (by first | rfl | (simp; done) | (simp [*]; done)), H', ⟨by have := HK1.out; have := HK2.out; have := HJ4.out; omega⟩, by repeat (first | exact Drawn0.refl _ | apply Drawn0.step)⟩
      · rw [if_neg c4] at H
        have c4b0 : decide (x7_1 < (l0.length : Int)) = false := decide_eq_false c4
        clear c4
        obtain rfl := Option.some.inj H
        go_wp2
        go_ret
        exact ⟨by first | rfl | (simp; done) | (simp [*]; done), by repeat (first | exact Drawn0.refl _ | apply Drawn0.step)⟩

/-! ### impl_ConfigStrings: function 16 -/
section
open Go.Proofs
def comma : ByteArray := ⟨#[44]⟩
set_option maxHeartbeats 4000000 in
set_option maxRecDepth 100000 in
theorem conf_Strings {w : World} {p m : Nat} {st : Secs} (h : ConfIs w p m st) (key v : ByteArray) (hk : lowKey key = true) (hv : getConf (confOf st) key = v) (hne : v.toList ≠ []) (hz : v.size ≤ 1000000) :
    Calls Tryz.prog 94 #[.pointer (some ⟨p, 0, none⟩), .string key] w fun e w' => ∃ v0_ : Value, e = .returned (v0_) ∧ Kd.R Kd.string 9 w' w.heap.size (fun _ => True) v0_ (splitB comma v.size v) ∧ Below w.heap.size w w' := by
  have hg := conf_get h key hk
  rw [hv] at hg
  have b1 : (v.toList == ([] : List UInt8)) = false := beq_eq_false_iff_ne.2 hne
  have b2 : v.toList.isEmpty = false := by
    cases hq : v.toList with
    | nil => exact absurd hq hne
    | cons _ _ => rfl
  have HZ := Aside0.mk hz
  clear h hk hv hne hz
  go_enter Tryz.func94, Tryz.ntmps94
  go_wp2_with (first
    | (go_at_call 96; refine hg.mono ?_; rintro e w2 ⟨rfl, hb⟩; have HB2 := Aside0.mk hb; clear hb)
    | (go_at_call 98; refine (zz_split v comma _ HZ.out (by decide) (by decide)).mono ?_; rintro e w3 ⟨v0_, rfl, ho, hb⟩; have HB3 := Aside0.mk hb; have HO := Aside0.mk ho; clear hb ho))
  go_ret
  exact ⟨_, rfl, Kd.R_lower HO.out HB2.out.size, HB2.out.trans (HB3.out.mono HB2.out.size)⟩
def impl_ConfigStrings.f (text key : ByteArray) : Option (List ByteArray × Int) :=
  if goodText text && lowKey key then (parseP text.data.toList).bind fun D => if (getConf D key).toList = [] ∨ 1000000 < (getConf D key).size then none else some (splitB comma (getConf D key).size (getConf D key), 0) else none
set_option maxHeartbeats 4000000 in
set_option maxRecDepth 100000 in
theorem config_strings {pe pb : Addr} {W : World} (hG : GlobsIn pe pb W) (a0 a1 : ByteArray) (r0 : List ByteArray) (r1 : Int) (h : impl_ConfigStrings.f a0 a1 = some (r0, r1)) :
    Calls Tryz.prog 16 #[.string a0, .string a1] W fun e w' => ∃ v0_ : Value, e = .returned (.tuple #[v0_, .int .i64 r1]) ∧ Kd.R Kd.string 9 w' W.heap.size (fun _ => True) v0_ r0 ∧ Below W.heap.size W w' := by
  unfold impl_ConfigStrings.f at h
  by_cases hc : (goodText a0 && lowKey a1) = true
  · rw [if_pos hc] at h
    rw [Bool.and_eq_true] at hc
    obtain ⟨D, hD, hr⟩ := Option.bind_eq_some_iff.1 h
    by_cases hq : (getConf D a1).toList = [] ∨ 1000000 < (getConf D a1).size
    · rw [if_pos hq] at hr; cases hr
    rw [if_neg hq, Option.some.injEq, Prod.mk.injEq] at hr
    rw [not_or] at hq
    obtain ⟨rfl, rfl⟩ := hr
    have hn := Aside0.mk (new_config hG a0 D hc.1 hD)
    have HK := Aside0.mk hc.2
    have HQ := Aside0.mk hq
    have hnn : ∀ w : World, (binOp .neq 57 .nilIface .nilIface).run Tryz.prog w = .ok (.bool false) w := fun w => by kernel_rfl
    clear h hc hD hG hq
    go_enter Tryz.func16, Tryz.ntmps16
    go_wp2_with (first
      | (go_at_call 25; refine hn.out.mono ?_; rintro e w2 ⟨p, m, st, rfl, hC, hD, hle, hb⟩; have H2 := Aside0.mk (And.intro hC (And.intro hD (And.intro hle hb))); clear hC hD hle hb)
      | (go_at_call 94; refine (conf_Strings H2.out.1 a1 (getConf D a1) HK.out (by rw [H2.out.2.1]) HQ.out.1 (by have := HQ.out.2; omega)).mono ?_; rintro e w3 ⟨v0_, rfl, ho, hb⟩; have HB3 := Aside0.mk hb; have HO := Aside0.mk ho; clear hb ho))
    go_ret2
    have h2 := H2.out
    exact ⟨_, rfl, Kd.R_lower HO.out h2.2.2.2.size, h2.2.2.2.trans (HB3.out.mono h2.2.2.2.size)⟩
  · rw [if_neg hc] at h; cases h
end
theorem impl_ConfigStrings.calls (a0 a1 : ByteArray) (r0 : List ByteArray) (r1 : Int) (w : World) (hprem : Prem w) (h : impl_ConfigStrings.f a0 a1 = some (r0, r1)) :
    Calls Tryz.prog 16 #[.string a0, .string a1] w fun e w' => ∃ v0_ : Value, e = .returned (.tuple #[v0_, .int .i64 r1]) ∧ Kd.R Kd.string 9 w' w.heap.size (fun _ => True) v0_ r0 ∧ Below w.heap.size w w' := by
  obtain ⟨pe, pb, hg⟩ := hprem
  exact config_strings hg a0 a1 r0 r1 h

/-! ### spec_SameList: function 17 -/
def spec_SameList.l0 : Nat → List ByteArray → List ByteArray → Int → Option (Bool)
  | 0, _, _, _ => none
  | k + 1, x0, x1, x5 => if x5 < (x0.length : Int) then (if 0 ≤ x5 then (if x5 < (x1.length : Int) then (if (rdOf ByteArray.empty x0 x5).toList = (rdOf ByteArray.empty x1 x5).toList then (spec_SameList.l0 k x0 x1 (wrap64 (x5 + 1))) else (some false)) else (none)) else (none)) else (some true)
def spec_SameList.f (k : Nat) (l0 : List ByteArray) (l1 : List ByteArray) : Option (Bool) := if (l0.length : Int) = (l1.length : Int) then (spec_SameList.l0 k l0 l1 0) else (some false)
theorem spec_SameList.mono_l : ∀ k, (∀ y0 y1 y2, LeO (spec_SameList.l0 k y0 y1 y2) (spec_SameList.l0 (k + 1) y0 y1 y2))
  | 0 => fun _ _ _ r h => by simp [spec_SameList.l0] at h
  | k + 1 => by
    have ih0 := spec_SameList.mono_l k
    · intro y0 y1 y2
      unfold spec_SameList.l0
      repeat' first
      | (with_reducible exact ih0 _ _ _)
      | (with_reducible exact LeO.refl _)
      | (with_reducible exact LeO.none _)
      | (with_reducible refine LeO.ite ?_ ?_)
      | (with_reducible refine LeO.bind ?_ (fun _ => ?_))
      | exact ih0 _ _ _
      | exact LeO.none _
      | refine LeO.ite ?_ ?_
      | refine LeO.bind ?_ (fun _ => ?_)
theorem spec_SameList.mono : ∀ a0 a1 k, LeO (spec_SameList.f k a0 a1) (spec_SameList.f (k + 1) a0 a1) := by
  intro a0 a1 k
  have ih0 := spec_SameList.mono_l k
  unfold spec_SameList.f
  repeat' first
      | (with_reducible exact ih0 _ _ _)
      | (with_reducible exact LeO.refl _)
      | (with_reducible exact LeO.none _)
      | (with_reducible refine LeO.ite ?_ ?_)
      | (with_reducible refine LeO.bind ?_ (fun _ => ?_))
      | exact ih0 _ _ _
      | exact LeO.none _
      | refine LeO.ite ?_ ?_
      | refine LeO.bind ?_ (fun _ => ?_)
set_option maxHeartbeats 8000000 in
set_option maxRecDepth 100000 in
theorem spec_SameList.calls (k : Nat) (A0 : Option Addr) (c0 : Nat) (l0 : List ByteArray) (A1 : Option Addr) (c1 : Nat) (l1 : List ByteArray) (r : Bool) (w : World) (hr0 : Kd.C Kd.string w A0 l0.length l0) (hc0 : l0.length ≤ c0) (hr1 : Kd.C Kd.string w A1 l1.length l1) (hc1 : l1.length ≤ c1) (h : spec_SameList.f k l0 l1 = some r) :
    Calls Tryz.prog 17 #[.slice A0 l0.length c0, .slice A1 l1.length c1] w fun e w' => e = .returned (.bool r) ∧ Drawn0 w w' := by
  have HR0 := Aside0.mk hr0
  have HC0 := Aside0.mk hc0
  clear hr0 hc0
  have HR1 := Aside0.mk hr1
  have HC1 := Aside0.mk hc1
  clear hr1 hc1
  have H : (if (l0.length : Int) = (l1.length : Int) then (spec_SameList.l0 k l0 l1 0) else (some false)) = some r := h
  clear h
  by_cases c3 : (l0.length : Int) = (l1.length : Int)
  · rw [if_pos c3] at H
    have c3b0 : ((l0.length : Int) == (l1.length : Int)) = true := beq_iff_eq.mpr c3
    have c3b1 : ((l0.length : Int) != (l1.length : Int)) = false := bne_eq_false_iff_eq.mpr c3
    have c3b2 : (l0.length == l1.length) = true := by first | simpa using c3 | (simp at c3 ⊢; omega)
    clear c3
    have H' := Aside0.mk H
    clear H
    go_enter Tryz.func17, Tryz.ntmps17
    go_wp2
    repeat (go_quiet (fail); try go_wp2)
    go_loopg [5] k (fun kq v5 w' => ∃ (x5_1 : Int), v5 = .int .i64 x5_1 ∧ Aside0 (spec_SameList.l0 kq l0 l1 x5_1 = some r) ∧ Aside0 (kq ≤ k) ∧ Drawn0 w w')
    case atStart => exact ⟨(0), (by first | rfl | (simp; done) | (simp [*]; done)), H', ⟨Nat.le_refl _⟩, by repeat (first | exact Drawn0.refl _ | apply Drawn0.step)⟩
    case round =>
      clear H'
      try clear c1
      try clear p2
      try clear c3
      try clear c3b0
      try clear c3b1
      try clear c3b2
      obtain ⟨x5_1, rfl, HA, HK1, ⟨m1, rfl⟩⟩ := hrel
      cases gk with
      | zero => exact absurd HA.out (by simp [spec_SameList.l0])
      | succ k1 =>
        have H := HA.out
        clear HA
        simp only [spec_SameList.l0] at H
        by_cases c4 : x5_1 < (l0.length : Int)
        · rw [if_pos c4] at H
          have c4b0 : decide (x5_1 < (l0.length : Int)) = true := decide_eq_true c4
          clear c4
          by_cases c5 : 0 ≤ x5_1
          · rw [if_pos c5] at H
            have c5b0 : decide (0 ≤ x5_1) = true := decide_eq_true c5
            clear c5
            by_cases c6 : x5_1 < (l1.length : Int)
            · rw [if_pos c6] at H
              have c6b0 : decide (x5_1 < (l1.length : Int)) = true := decide_eq_true c6
              clear c6
              by_cases c7 : (rdOf ByteArray.empty l0 x5_1).toList = (rdOf ByteArray.empty l1 x5_1).toList
              · rw [if_pos c7] at H
                have c7b0 : ((rdOf ByteArray.empty l0 x5_1).toList == (rdOf ByteArray.empty l1 x5_1).toList) = true := beq_iff_eq.mpr c7
                have c7b1 : ((rdOf ByteArray.empty l0 x5_1).toList != (rdOf ByteArray.empty l1 x5_1).toList) = false := bne_eq_false_iff_eq.mpr c7
                clear c7
                have H' := Aside0.mk H
                clear H
                have p178 : 0 ≤ (x5_1 : Int) := of_decide_eq_true (by first | (with_reducible assumption) | assumption)
                have q178 : x5_1 < (l0.length : Int) := of_decide_eq_true (by first | (with_reducible assumption) | assumption)
                obtain ⟨ad178, e178, hx178_0⟩ := Kd.at_string HR0.out x5_1 p178 q178
                cases e178
                replace p178 := eq_true p178
                replace q178 := eq_true q178
                have p179 : 0 ≤ (x5_1 : Int) := of_decide_eq_true (by first | (with_reducible assumption) | assumption)
                have q179 : x5_1 < (l1.length : Int) := of_decide_eq_true (by first | (with_reducible assumption) | assumption)
                obtain ⟨ad179, e179, hx179_0⟩ := Kd.at_string HR1.out x5_1 p179 q179
                cases e179
                replace p179 := eq_true p179
                replace q179 := eq_true q179
                go_wp2
                repeat (go_quiet (fail); try go_wp2)
                go_roundg k1
                case measure => have := HK1.out; omega
                case rel => exact ⟨(wrap64 (x5_1 + 1)), (by first | rfl | (simp; done) | (simp [*]; done)), H', ⟨by have := HK1.out; omega⟩, by repeat (first | exact Drawn0.refl _ | apply Drawn0.step)⟩
              · rw [if_neg c7] at H
                have c7b0 : ((rdOf ByteArray.empty l0 x5_1).toList == (rdOf ByteArray.empty l1 x5_1).toList) = false := beq_eq_false_iff_ne.mpr c7
                have c7b1 : ((rdOf ByteArray.empty l0 x5_1).toList != (rdOf ByteArray.empty l1 x5_1).toList) = true := bne_iff_ne.mpr c7
                obtain rfl := Option.some.inj H
                have p178 : 0 ≤ (x5_1 : Int) := of_decide_eq_true (by first | (with_reducible assumption) | assumption)
                have q178 : x5_1 < (l0.length : Int) := of_decide_eq_true (by first | (with_reducible assumption) | assumption)
                obtain ⟨ad178, e178, hx178_0⟩ := Kd.at_string HR0.out x5_1 p178 q178
                cases e178
                replace p178 := eq_true p178
                replace q178 := eq_true q178
                have p179 : 0 ≤ (x5_1 : Int) := of_decide_eq_true (by first | (with_reducible assumption) | assumption)
                have q179 : x5_1 < (l1.length : Int) := of_decide_eq_true (by first | (with_reducible assumption) | assumption)
                obtain ⟨ad179, e179, hx179_0⟩ := Kd.at_string HR1.out x5_1 p179 q179
                cases e179
                replace p179 := eq_true p179
                replace q179 := eq_true q179
                go_wp2
                repeat (go_quiet (fail); try go_wp2)
                go_ret
                exact ⟨by first | rfl | (simp; done) | (simp [*]; done), by repeat (first | exact Drawn0.refl _ | apply Drawn0.step)⟩
            · rw [if_neg c6] at H
              exact absurd H (by simp)
          · rw [if_neg c5] at H
            exact absurd H (by simp)
        · rw [if_neg c4] at H
          have c4b0 : decide (x5_1 < (l0.length : Int)) = false := decide_eq_false c4
          clear c4
          obtain rfl := Option.some.inj H
          go_wp2
          repeat (go_quiet (fail); try go_wp2)
          go_ret
          exact ⟨by first | rfl | (simp; done) | (simp [*]; done), by repeat (first | exact Drawn0.refl _ | apply Drawn0.step)⟩
  · rw [if_neg c3] at H
    have c3b0 : ((l0.length : Int) == (l1.length : Int)) = false := beq_eq_false_iff_ne.mpr c3
    have c3b1 : ((l0.length : Int) != (l1.length : Int)) = true := bne_iff_ne.mpr c3
    have c3b2 : (l0.length == l1.length) = false := by first | simpa using c3 | (simp at c3 ⊢; omega)
    obtain rfl := Option.some.inj H
    go_enter Tryz.func17, Tryz.ntmps17
    go_wp2
    repeat (go_quiet (fail); try go_wp2)
    go_ret
    exact ⟨by first | rfl | (simp; done) | (simp [*]; done), by repeat (first | exact Drawn0.refl _ | apply Drawn0.step)⟩

/-! ### spec_Split: function 18 -/
def spec_Split.l0 : Nat → ByteArray → List ByteArray → Int → Int → Option (List ByteArray)
  | 0, _, _, _, _ => none
  | k + 1, x0, x3, x4, x5 => if x5 < (x0.size : Int) then (if 0 ≤ x5 then (if (bt x0 x5) = 44 then (if 0 ≤ x4 then (if x4 ≤ x5 then (if x5 ≤ (x0.size : Int) then (if x3.length < 8796093022208 then (spec_Split.l0 k x0 (x3 ++ [x0.extract (x4 : Int).toNat (x5 : Int).toNat]) (wrap64 (x5 + 1)) (wrap64 (x5 + 1))) else (none)) else (none)) else (none)) else (none)) else (spec_Split.l0 k x0 x3 x4 (wrap64 (x5 + 1)))) else (none)) else (if 0 ≤ x4 then (if x4 ≤ (x0.size : Int) then (if x3.length < 8796093022208 then (some (x3 ++ [x0.extract (x4 : Int).toNat x0.size])) else (none)) else (none)) else (none))
def spec_Split.f (k : Nat) (a0 : ByteArray) : Option (List ByteArray) := spec_Split.l0 k a0 ([] : List ByteArray) 0 0
theorem spec_Split.mono_l : ∀ k, (∀ y0 y1 y2 y3, LeO (spec_Split.l0 k y0 y1 y2 y3) (spec_Split.l0 (k + 1) y0 y1 y2 y3))
  | 0 => fun _ _ _ _ r h => by simp [spec_Split.l0] at h
  | k + 1 => by
    have ih0 := spec_Split.mono_l k
    · intro y0 y1 y2 y3
      unfold spec_Split.l0
      repeat' first
      | (with_reducible exact ih0 _ _ _ _)
      | (with_reducible exact LeO.refl _)
      | (with_reducible exact LeO.none _)
      | (with_reducible refine LeO.ite ?_ ?_)
      | (with_reducible refine LeO.bind ?_ (fun _ => ?_))
      | exact ih0 _ _ _ _
      | exact LeO.none _
      | refine LeO.ite ?_ ?_
      | refine LeO.bind ?_ (fun _ => ?_)
theorem spec_Split.mono : ∀ a0 k, LeO (spec_Split.f k a0) (spec_Split.f (k + 1) a0) := by
  intro a0 k
  have ih0 := spec_Split.mono_l k
  unfold spec_Split.f
  repeat' first
      | (with_reducible exact ih0 _ _ _ _)
      | (with_reducible exact LeO.refl _)
      | (with_reducible exact LeO.none _)
      | (with_reducible refine LeO.ite ?_ ?_)
      | (with_reducible refine LeO.bind ?_ (fun _ => ?_))
      | exact ih0 _ _ _ _
      | exact LeO.none _
      | refine LeO.ite ?_ ?_
      | refine LeO.bind ?_ (fun _ => ?_)
set_option maxHeartbeats 8000000 in
set_option maxRecDepth 100000 in
theorem spec_Split.calls (k : Nat) (a0 : ByteArray) (r : List ByteArray) (w : World) (h : spec_Split.f k a0 = some r) :
    Calls Tryz.prog 18 #[.string a0] w fun e w' => ∃ v0_ : Value, e = .returned (v0_) ∧ Kd.R Kd.string 9 w' w.heap.size (fun _ => True) v0_ r ∧ Below w.heap.size w w' := by
  have HB := Aside0.mk (Below.refl w.heap.size w)
  have H : (spec_Split.l0 k a0 ([] : List ByteArray) 0 0) = some r := h
  clear h
  have H' := Aside0.mk H
  clear H
  go_enter Tryz.func18, Tryz.ntmps18
  go_wp2
  go_loopg [3, 4, 5] k (fun kq v3 v4 v5 w' => ∃ (x3_1 : List ByteArray) (x4_1 : Int) (x5_1 : Int), v4 = .int .i64 x4_1 ∧ v5 = .int .i64 x5_1 ∧ Aside0 (spec_Split.l0 kq a0 x3_1 x4_1 x5_1 = some r) ∧ Aside0 (kq ≤ k) ∧ Aside0 (Kd.R Kd.string 9 w' w.heap.size (fun _ => True) v3 x3_1) ∧ Aside0 (Below w.heap.size w w'))
  case atStart => exact ⟨(([] : List ByteArray)), (0), (0), (by first | rfl | (simp; done) | (simp [*]; done)), (by first | rfl | (simp; done) | (simp [*]; done)), H', ⟨Nat.le_refl _⟩, ⟨by first | exact Kd.R_nil _ _ _ _ _ | exact Kd.N_nil _ _ _ _ _ | exact Kd.V_nil _ _ _ _ _ | exact Kd.Q_nil _ _ _ _ _ | exact Kd.S_nil _ _ _ _ _⟩, ⟨by repeat (first | (with_reducible first | exact HB.out | apply below_alloc | apply pw_below_drewN | apply below_drew1) | exact HB.out)⟩⟩
  case round =>
    clear H'
    try clear c1
    obtain ⟨x3_1, x4_1, x5_1, rfl, rfl, HA, HK1, HO_3, HB⟩ := hrel
    cases gk with
    | zero => exact absurd HA.out (by simp [spec_Split.l0])
    | succ k1 =>
      have H := HA.out
      clear HA
      simp only [spec_Split.l0] at H
      by_cases c2 : x5_1 < (a0.size : Int)
      · rw [if_pos c2] at H
        have c2b0 : decide (x5_1 < (a0.size : Int)) = true := decide_eq_true c2
        clear c2
        by_cases c3 : 0 ≤ x5_1
        · rw [if_pos c3] at H
          have c3b0 : decide (0 ≤ x5_1) = true := decide_eq_true c3
          clear c3
          by_cases c5 : (bt a0 x5_1) = 44
          · rw [if_pos c5] at H
            have c5b0 : ((bt a0 x5_1) == 44) = true := beq_iff_eq.mpr c5
            have c5b1 : ((bt a0 x5_1) != 44) = false := bne_eq_false_iff_eq.mpr c5
            clear c5
            by_cases c6 : 0 ≤ x4_1
            · rw [if_pos c6] at H
              have c6b0 := eq_true c6
              have c6b1 : decide (0 ≤ x4_1) = true := decide_eq_true c6
              clear c6
              by_cases c7 : x4_1 ≤ x5_1
              · rw [if_pos c7] at H
                have c7b0 := eq_true c7
                have c7b1 : decide (x4_1 ≤ x5_1) = true := decide_eq_true c7
                clear c7
                by_cases c8 : x5_1 ≤ (a0.size : Int)
                · rw [if_pos c8] at H
                  have c8b0 := eq_true c8
                  have c8b1 : decide (x5_1 ≤ (a0.size : Int)) = true := decide_eq_true c8
                  clear c8
                  by_cases c9 : x3_1.length < 8796093022208
                  · rw [if_pos c9] at H
                    have LMc9 := Aside0.mk c9
                    clear c9
                    obtain ⟨y180, hy180⟩ : ∃ y_ : List ByteArray, y_ = (x3_1 ++ [a0.extract (x4_1 : Int).toNat (x5_1 : Int).toNat]) := ⟨_, rfl⟩
                    replace H : (spec_Split.l0 k1 a0 y180 (wrap64 (x5_1 + 1)) (wrap64 (x5_1 + 1))) = some r := by first | (rw [hy180]; with_reducible exact H) | (have H2_ := (Option.bind_some _ _).symm.trans H; rw [hy180]; with_reducible exact H2_) | (have H2_ := (Option.bind_some _ _).symm.trans H; with_reducible exact H2_) | with_reducible exact H | (rw [hy180]; exact H) | exact H
                    have Ny180 := Aside0.mk hy180
                    clear hy180
                    have H' := Aside0.mk H
                    clear H
                    have p4 : 0 ≤ (x5_1 : Int) := of_decide_eq_true (by first | (with_reducible assumption) | assumption)
                    have q4 : x5_1 < (a0.size : Int) := of_decide_eq_true (by first | (with_reducible assumption) | assumption)
                    have hx4 := bt_at a0 x5_1
                    replace p4 := eq_true p4
                    replace q4 := eq_true q4
                    go_wp2_with (first | ((with_reducible refine gate_builtin (b := .append) (xs := #[.tmp 16, .tmp 21]) rfl ?_); at_builtin; refine Kd.R_append Kd.string (w0 := w) w.heap.size rfl (.tmp 16) (.tmp 21) 35 9 (.string ⟨#[]⟩) 16 rfl Tryz.underlying35 info9 rfl (by decide) (by omega) u3 x3_1 (a0.extract (x4_1 : Int).toNat (x5_1 : Int).toNat) [.string (a0.extract (x4_1 : Int).toNat (x5_1 : Int).toNat)] (fun _ => True) (fun _ => False) rfl rfl ?aP (fun _ hk => hk.elim) ?aF ?aO ?aB ?aS ?aL ?_; (case aP => exact rfl); (case aB => exact (by repeat (first | (with_reducible first | exact HB.out | apply below_alloc | apply pw_below_drewN | apply below_drew1) | exact HB.out))); (case aF => exact (fun _ _ => trivial)); (case aO => exact (by (with_reducible repeat (first | apply Kd.R_alloc | apply Kd.R_drewN | apply Kd.R_drew)); exact HO_3.out)); (case aS => exact (below_size (by repeat (first | (with_reducible first | exact HB.out | apply below_alloc | apply pw_below_drewN | apply below_drew1) | exact HB.out)))); (case aL => have := LMc9.out; omega); intro v181 w10 ho hb hg hat; rw [← Ny180.out] at ho; have n0_ := Aside0.mk (hb); have n1_ := Aside0.mk (ho); clear HB; clear HO_3; have HB := n0_; have HO182 := n1_; clear n0_ n1_; clear ho hb hg hat))
                    go_roundg k1
                    case measure => have := HK1.out; omega
                    case rel => exact ⟨(y180), (wrap64 (x5_1 + 1)), (wrap64 (x5_1 + 1)), (by first | rfl | (simp; done) | (simp [*]; done)), (by first | rfl | (simp; done) | (simp [*]; done)), H', ⟨by have := HK1.out; omega⟩, ⟨by (with_reducible repeat (first | apply Kd.R_alloc | apply Kd.R_drewN | apply Kd.R_drew)); exact HO182.out⟩, ⟨by repeat (first | (with_reducible first | exact HB.out | apply below_alloc | apply pw_below_drewN | apply below_drew1) | exact HB.out)⟩⟩
                  · rw [if_neg c9] at H
                    exact absurd H (by simp)
                · rw [if_neg c8] at H
                  exact absurd H (by simp)
              · rw [if_neg c7] at H
                exact absurd H (by simp)
            · rw [if_neg c6] at H
              exact absurd H (by simp)
          · rw [if_neg c5] at H
            have c5b0 : ((bt a0 x5_1) == 44) = false := beq_eq_false_iff_ne.mpr c5
            have c5b1 : ((bt a0 x5_1) != 44) = true := bne_iff_ne.mpr c5
            have H' := Aside0.mk H
            clear H
            have p4 : 0 ≤ (x5_1 : Int) := of_decide_eq_true (by first | (with_reducible assumption) | assumption)
            have q4 : x5_1 < (a0.size : Int) := of_decide_eq_true (by first | (with_reducible assumption) | assumption)
            have hx4 := bt_at a0 x5_1
            replace p4 := eq_true p4
            replace q4 := eq_true q4
            go_wp2
            go_roundg k1
            case measure => have := HK1.out; omega
            case rel => exact ⟨(x3_1), (x4_1), (wrap64 (x5_1 + 1)), (by first | rfl | (simp; done) | (simp [*]; done)), (by first | rfl | (simp; done) | (simp [*]; done)), H', ⟨by have := HK1.out; omega⟩, ⟨by (with_reducible repeat (first | apply Kd.R_alloc | apply Kd.R_drewN | apply Kd.R_drew)); exact HO_3.out⟩, ⟨by repeat (first | (with_reducible first | exact HB.out | apply below_alloc | apply pw_below_drewN | apply below_drew1) | exact HB.out)⟩⟩
        · rw [if_neg c3] at H
          exact absurd H (by simp)
      · rw [if_neg c2] at H
        have c2b0 : decide (x5_1 < (a0.size : Int)) = false := decide_eq_false c2
        clear c2
        by_cases c11 : 0 ≤ x4_1
        · rw [if_pos c11] at H
          have c11b0 := eq_true c11
          have c11b1 : decide (0 ≤ x4_1) = true := decide_eq_true c11
          clear c11
          by_cases c12 : x4_1 ≤ (a0.size : Int)
          · rw [if_pos c12] at H
            have c12b0 := eq_true c12
            have c12b1 : decide (x4_1 ≤ (a0.size : Int)) = true := decide_eq_true c12
            clear c12
            by_cases c13 : x3_1.length < 8796093022208
            · rw [if_pos c13] at H
              have LMc13 := Aside0.mk c13
              clear c13
              obtain ⟨y183, hy183⟩ : ∃ y_ : List ByteArray, y_ = (x3_1 ++ [a0.extract (x4_1 : Int).toNat a0.size]) := ⟨_, rfl⟩
              replace H : (some y183) = some r := by first | (rw [hy183]; with_reducible exact H) | (have H2_ := (Option.bind_some _ _).symm.trans H; rw [hy183]; with_reducible exact H2_) | (have H2_ := (Option.bind_some _ _).symm.trans H; with_reducible exact H2_) | with_reducible exact H | (rw [hy183]; exact H) | exact H
              have Ny183 := Aside0.mk hy183
              clear hy183
              obtain rfl := Option.some.inj H
              go_wp2_with (first | ((with_reducible refine gate_builtin (b := .append) (xs := #[.tmp 25, .tmp 29]) rfl ?_); at_builtin; refine Kd.R_append Kd.string (w0 := w) w.heap.size rfl (.tmp 25) (.tmp 29) 35 9 (.string ⟨#[]⟩) 16 rfl Tryz.underlying35 info9 rfl (by decide) (by omega) u3 x3_1 (a0.extract (x4_1 : Int).toNat a0.size) [.string (a0.extract (x4_1 : Int).toNat a0.size)] (fun _ => True) (fun _ => False) rfl rfl ?aP (fun _ hk => hk.elim) ?aF ?aO ?aB ?aS ?aL ?_; (case aP => exact rfl); (case aB => exact (by repeat (first | (with_reducible first | exact HB.out | apply below_alloc | apply pw_below_drewN | apply below_drew1) | exact HB.out))); (case aF => exact (fun _ _ => trivial)); (case aO => exact (by (with_reducible repeat (first | apply Kd.R_alloc | apply Kd.R_drewN | apply Kd.R_drew)); exact HO_3.out)); (case aS => exact (below_size (by repeat (first | (with_reducible first | exact HB.out | apply below_alloc | apply pw_below_drewN | apply below_drew1) | exact HB.out)))); (case aL => have := LMc13.out; omega); intro v184 w14 ho hb hg hat; rw [← Ny183.out] at ho; have n0_ := Aside0.mk (hb); have n1_ := Aside0.mk (ho); clear HB; clear HO_3; have HB := n0_; have HO185 := n1_; clear n0_ n1_; clear ho hb hg hat))
              go_ret
              exact ⟨_, by first | rfl | (simp [errW_none, errW_some] <;> rfl) | (simp [*, errW_none, errW_some] <;> rfl), by (with_reducible repeat (first | apply Kd.R_alloc | apply Kd.R_drewN | apply Kd.R_drew)); exact HO185.out, by repeat (first | (with_reducible first | exact HB.out | apply below_alloc | apply pw_below_drewN | apply below_drew1) | exact HB.out)⟩
            · rw [if_neg c13] at H
              exact absurd H (by simp)
          · rw [if_neg c12] at H
            exact absurd H (by simp)
        · rw [if_neg c11] at H
          exact absurd H (by simp)

end Go.Proofs.YtbomcdnijklgjaaGreatDoor.PFnConfigValues
