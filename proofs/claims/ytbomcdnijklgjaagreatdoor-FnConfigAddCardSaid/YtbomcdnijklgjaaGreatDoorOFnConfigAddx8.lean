/- The machine side of laws.FnConfigAdd: each function of this text answers what its Lean function answers (written for this claim by a program of this session over the kit's print; no condition beyond what each theorem says). -/
import Derived.Test.YtbomcdnijklgjaaGreatDoorOFnConfigAddx0
import Derived.Test.YtbomcdnijklgjaaGreatDoorOFnConfigAddx5
import Derived.Test.YtbomcdnijklgjaaGreatDoorOFnConfigAddx6
namespace Go.Proofs.YtbomcdnijklgjaaGreatDoor.PFnConfigAdd
open Go.RowKit Go.Proofs.YtbomcdnijklgjaaGreatDoorW.PrintWords Go.Proofs.YtbomcdnijklgjaaGreatDoorW.PrintLast Go.Proofs.YtbomcdnijklgjaaGreatDoorW.PrintMore
attribute [local go_sem] max2_int min2_int max_two min_two max_three min_three max_four min_four   -- for this text's walks alone
set_option linter.unusedVariables false
set_option linter.unusedSimpArgs false

/-! ### spec_ConfValue: function 13 -/
mutual
def spec_ConfValue.l0 : Nat → List (S50) → ByteArray → ByteArray → Int → Option (ByteArray)
  | 0, _, _, _, _ => none
  | k + 1, x0, x1, x2, x7 => if x7 < (x0.length : Int) then (spec_ConfValue.l1 k x0 x1 x2 x7 0) else (some (⟨#[]⟩ : ByteArray))
def spec_ConfValue.l1 : Nat → List (S50) → ByteArray → ByteArray → Int → Int → Option (ByteArray)
  | 0, _, _, _, _, _ => none
  | k + 1, x0, x1, x2, x7, x8 => if 0 ≤ x7 then (if x7 < (x0.length : Int) then (if x8 < (((rd_T50 x0 x7).f2).length : Int) then (spec_ConfValue.j2 k x0 x1 x2 x7 x8 (((rd_T50 x0 x7).f0).toList == x1.toList)) else (spec_ConfValue.j2 k x0 x1 x2 x7 x8 false)) else (none)) else (none)
def spec_ConfValue.j2 : Nat → List (S50) → ByteArray → ByteArray → Int → Int → Bool → Option (ByteArray)
  | 0, _, _, _, _, _, _ => none
  | k + 1, x0, x1, x2, x7, x8, x31 => if x31 = true then (if 0 ≤ x7 then (if x7 < (x0.length : Int) then (if 0 ≤ x8 then (if x8 < (((rd_T50 x0 x7).f2).length : Int) then (if ((rd_T53 ((rd_T50 x0 x7).f2) x8).f0).toList = x2.toList then ((spec_Joined.f k ((rd_T53 ((rd_T50 x0 x7).f2) x8).f1) (⟨#[32]⟩ : ByteArray)).bind fun t177 => (some t177)) else (spec_ConfValue.l1 k x0 x1 x2 x7 (wrap64 (x8 + 1)))) else (none)) else (none)) else (none)) else (none)) else (spec_ConfValue.l0 k x0 x1 x2 (wrap64 (x7 + 1)))
end
def spec_ConfValue.f (k : Nat) (l0 : List (S50)) (a1 : ByteArray) (a2 : ByteArray) : Option (ByteArray) := spec_ConfValue.l0 k l0 a1 a2 0
theorem spec_ConfValue.mono_l : ∀ k, (∀ y0 y1 y2 y3, LeO (spec_ConfValue.l0 k y0 y1 y2 y3) (spec_ConfValue.l0 (k + 1) y0 y1 y2 y3)) ∧ (∀ y0 y1 y2 y3 y4, LeO (spec_ConfValue.l1 k y0 y1 y2 y3 y4) (spec_ConfValue.l1 (k + 1) y0 y1 y2 y3 y4)) ∧ (∀ y0 y1 y2 y3 y4 y5, LeO (spec_ConfValue.j2 k y0 y1 y2 y3 y4 y5) (spec_ConfValue.j2 (k + 1) y0 y1 y2 y3 y4 y5))
  | 0 => ⟨fun _ _ _ _ r h => by simp [spec_ConfValue.l0] at h, fun _ _ _ _ _ r h => by simp [spec_ConfValue.l1] at h, fun _ _ _ _ _ _ r h => by simp [spec_ConfValue.j2] at h⟩
  | k + 1 => by
    obtain ⟨ih0, ih1, ih2⟩ := spec_ConfValue.mono_l k
    refine ⟨?_, ?_, ?_⟩
    · intro y0 y1 y2 y3
      unfold spec_ConfValue.l0
      repeat' first
      | (with_reducible exact ih0 _ _ _ _)
      | (with_reducible exact ih1 _ _ _ _ _)
      | (with_reducible exact ih2 _ _ _ _ _ _)
      | (with_reducible exact spec_Joined.mono _ _ _)
      | (with_reducible exact LeO.refl _)
      | (with_reducible exact LeO.none _)
      | (with_reducible refine LeO.ite ?_ ?_)
      | (with_reducible refine LeO.bind ?_ (fun _ => ?_))
      | exact ih0 _ _ _ _
      | exact ih1 _ _ _ _ _
      | exact ih2 _ _ _ _ _ _
      | exact spec_Joined.mono _ _ _
      | exact LeO.none _
      | refine LeO.ite ?_ ?_
      | refine LeO.bind ?_ (fun _ => ?_)
    · intro y0 y1 y2 y3 y4
      unfold spec_ConfValue.l1
      repeat' first
      | (with_reducible exact ih0 _ _ _ _)
      | (with_reducible exact ih1 _ _ _ _ _)
      | (with_reducible exact ih2 _ _ _ _ _ _)
      | (with_reducible exact spec_Joined.mono _ _ _)
      | (with_reducible exact LeO.refl _)
      | (with_reducible exact LeO.none _)
      | (with_reducible refine LeO.ite ?_ ?_)
      | (with_reducible refine LeO.bind ?_ (fun _ => ?_))
      | exact ih0 _ _ _ _
      | exact ih1 _ _ _ _ _
      | exact ih2 _ _ _ _ _ _
      | exact spec_Joined.mono _ _ _
      | exact LeO.none _
      | refine LeO.ite ?_ ?_
      | refine LeO.bind ?_ (fun _ => ?_)
    · intro y0 y1 y2 y3 y4 y5
      unfold spec_ConfValue.j2
      repeat' first
      | (with_reducible exact ih0 _ _ _ _)
      | (with_reducible exact ih1 _ _ _ _ _)
      | (with_reducible exact ih2 _ _ _ _ _ _)
      | (with_reducible exact spec_Joined.mono _ _ _)
      | (with_reducible exact LeO.refl _)
      | (with_reducible exact LeO.none _)
      | (with_reducible refine LeO.ite ?_ ?_)
      | (with_reducible refine LeO.bind ?_ (fun _ => ?_))
      | exact ih0 _ _ _ _
      | exact ih1 _ _ _ _ _
      | exact ih2 _ _ _ _ _ _
      | exact spec_Joined.mono _ _ _
      | exact LeO.none _
      | refine LeO.ite ?_ ?_
      | refine LeO.bind ?_ (fun _ => ?_)
theorem spec_ConfValue.mono : ∀ a0 a1 a2 k, LeO (spec_ConfValue.f k a0 a1 a2) (spec_ConfValue.f (k + 1) a0 a1 a2) := by
  intro a0 a1 a2 k
  obtain ⟨ih0, ih1, ih2⟩ := spec_ConfValue.mono_l k
  unfold spec_ConfValue.f
  repeat' first
      | (with_reducible exact ih0 _ _ _ _)
      | (with_reducible exact ih1 _ _ _ _ _)
      | (with_reducible exact ih2 _ _ _ _ _ _)
      | (with_reducible exact spec_Joined.mono _ _ _)
      | (with_reducible exact LeO.refl _)
      | (with_reducible exact LeO.none _)
      | (with_reducible refine LeO.ite ?_ ?_)
      | (with_reducible refine LeO.bind ?_ (fun _ => ?_))
      | exact ih0 _ _ _ _
      | exact ih1 _ _ _ _ _
      | exact ih2 _ _ _ _ _ _
      | exact spec_Joined.mono _ _ _
      | exact LeO.none _
      | refine LeO.ite ?_ ?_
      | refine LeO.bind ?_ (fun _ => ?_)
set_option maxHeartbeats 8000000 in
set_option maxRecDepth 100000 in
theorem spec_ConfValue.calls (k : Nat) (A0 : Option Addr) (c0 : Nat) (l0 : List (S50)) (a1 : ByteArray) (a2 : ByteArray) (r : ByteArray) (w : World) (hr0 : Kd.C k50 w A0 l0.length l0) (hc0 : l0.length ≤ c0) (h : spec_ConfValue.f k l0 a1 a2 = some r) :
    Calls Tryz.prog 13 #[.slice A0 l0.length c0, .string a1, .string a2] w fun e w' => e = .returned (.string r) ∧ Drawn0 w w' := by
  have HR0 := Aside0.mk hr0
  have HC0 := Aside0.mk hc0
  clear hr0 hc0
  have H : (spec_ConfValue.l0 k l0 a1 a2 0) = some r := h
  clear h
  have H' := Aside0.mk H
  clear H
  go_enter Tryz.func13, Tryz.ntmps13
  go_wp2
  go_loopg [7] k (fun kq v7 w' => ∃ (x7_1 : Int), v7 = .int .i64 x7_1 ∧ Aside0 (spec_ConfValue.l0 kq l0 a1 a2 x7_1 = some r) ∧ Aside0 (kq ≤ k) ∧ Drawn0 w w')
  case atStart => exact ⟨(0), (by first | rfl | (simp; done) | (simp [*]; done)), H', ⟨Nat.le_refl _⟩, by repeat (first | exact Drawn0.refl _ | apply Drawn0.step)⟩
  case round =>
    clear H'
    try clear c1
    try clear p2
    obtain ⟨x7_1, rfl, HA, HK1, ⟨m1, rfl⟩⟩ := hrel
    cases gk with
    | zero => exact absurd HA.out (by simp [spec_ConfValue.l0])
    | succ k1 =>
      have H := HA.out
      clear HA
      simp only [spec_ConfValue.l0] at H
      by_cases c4 : x7_1 < (l0.length : Int)
      · rw [if_pos c4] at H
        have c4b0 : decide (x7_1 < (l0.length : Int)) = true := decide_eq_true c4
        clear c4
        have H' := Aside0.mk H
        clear H
        go_wp2
        go_loopg [8] k1 (fun kq v8 w' => ∃ (x8_2 : Int), v8 = .int .i64 x8_2 ∧ Aside0 (spec_ConfValue.l1 kq l0 a1 a2 x7_1 x8_2 = some r) ∧ Aside0 (kq ≤ k1) ∧ Drawn0 w w')
        case atStart => exact ⟨(0), (by first | rfl | (simp; done) | (simp [*]; done)), H', ⟨Nat.le_refl _⟩, by repeat (first | exact Drawn0.refl _ | apply Drawn0.step)⟩
        case round =>
          clear H'
          try clear c1
          try clear p2
          try clear c4
          try clear c4b0
          try clear p2
          obtain ⟨x8_2, rfl, HA, HK2, ⟨m2, rfl⟩⟩ := hrel
          cases gk with
          | zero => exact absurd HA.out (by simp [spec_ConfValue.l1])
          | succ k2 =>
            have H := HA.out
            clear HA
            simp only [spec_ConfValue.l1] at H
            have HC5 := Aside0.mk H
            clear H
            go_upto_region 5 with (fail)
            go_cut [31] (fun v31 wc => ∃ (kq : Nat) (x31_4 : Bool), v31 = .bool x31_4 ∧ Aside0 (spec_ConfValue.j2 kq l0 a1 a2 x7_1 x8_2 x31_4 = some r) ∧ Aside0 (kq ≤ k2) ∧ Drawn0 w wc)
            case first =>
              have H := HC5.out
              clear HC5
              by_cases c6 : 0 ≤ x7_1
              · rw [if_pos c6] at H
                have c6b0 : decide (0 ≤ x7_1) = true := decide_eq_true c6
                clear c6
                (first | rw [c6b0] | (simp only [i64_w, i32_w]; rw [c6b0]) | skip)
                by_cases c7 : x7_1 < (l0.length : Int)
                · rw [if_pos c7] at H
                  have c7b0 : decide (x7_1 < (l0.length : Int)) = true := decide_eq_true c7
                  clear c7
                  by_cases c8 : x8_2 < (((rd_T50 l0 x7_1).f2).length : Int)
                  · rw [if_pos c8] at H
                    have c8b0 : decide (x8_2 < (((rd_T50 l0 x7_1).f2).length : Int)) = true := decide_eq_true c8
                    clear c8
                    have H' := Aside0.mk H
                    clear H
                    have p171 : 0 ≤ (x7_1 : Int) := of_decide_eq_true (by first | (with_reducible assumption) | assumption)
                    have q171 : x7_1 < (l0.length : Int) := of_decide_eq_true (by first | (with_reducible assumption) | assumption)
                    obtain ⟨ad171, A171_1, c171_1, A171_2, c171_2, e171, hx171_0, hx171_1, hx171_2, hl171_1, hi171_1, hl171_2, hi171_2⟩ := at_T50 HR0.out x7_1 p171 q171
                    cases e171
                    have HR171_1 := Aside0.mk hi171_1
                    have HC171_1 := Aside0.mk hl171_1
                    clear hi171_1 hl171_1
                    have HR171_2 := Aside0.mk hi171_2
                    have HC171_2 := Aside0.mk hl171_2
                    clear hi171_2 hl171_2
                    replace p171 := eq_true p171
                    replace q171 := eq_true q171
                    have p172 : 0 ≤ (x7_1 : Int) := of_decide_eq_true (by first | (with_reducible assumption) | assumption)
                    have q172 : x7_1 < (l0.length : Int) := of_decide_eq_true (by first | (with_reducible assumption) | assumption)
                    obtain ⟨ad172, A172_1, c172_1, A172_2, c172_2, e172, hx172_0, hx172_1, hx172_2, hl172_1, hi172_1, hl172_2, hi172_2⟩ := at_T50 HR0.out x7_1 p172 q172
                    obtain rfl : ad171 = ad172 := (by injection e172)
                    have HR172_1 := Aside0.mk hi172_1
                    have HC172_1 := Aside0.mk hl172_1
                    clear hi172_1 hl172_1
                    have HR172_2 := Aside0.mk hi172_2
                    have HC172_2 := Aside0.mk hl172_2
                    clear hi172_2 hl172_2
                    replace p172 := eq_true p172
                    replace q172 := eq_true q172
                    have ea_ := Option.some.inj (hx171_1.symm.trans hx172_1)
                    injection ea_ with ea_ en_ ec_
                    subst ea_
                    subst ec_
                    clear en_
                    have ea_ := Option.some.inj (hx171_2.symm.trans hx172_2)
                    injection ea_ with ea_ en_ ec_
                    subst ea_
                    subst ec_
                    clear en_
                    go_wp2
                    go_meet
                    case rel => exact ⟨_, ((((rd_T50 l0 x7_1).f0).toList == a1.toList)), (by first | rfl | (simp; done) | (simp [*]; done)), H', ⟨by have := HK1.out; have := HK2.out; first | omega | exact Nat.le_refl _⟩, by repeat (first | exact Drawn0.refl _ | apply Drawn0.step)⟩
                  · rw [if_neg c8] at H
                    have c8b0 : decide (x8_2 < (((rd_T50 l0 x7_1).f2).length : Int)) = false := decide_eq_false c8
                    clear c8
                    have H' := Aside0.mk H
                    clear H
                    have p171 : 0 ≤ (x7_1 : Int) := of_decide_eq_true (by first | (with_reducible assumption) | assumption)
                    have q171 : x7_1 < (l0.length : Int) := of_decide_eq_true (by first | (with_reducible assumption) | assumption)
                    obtain ⟨ad171, A171_1, c171_1, A171_2, c171_2, e171, hx171_0, hx171_1, hx171_2, hl171_1, hi171_1, hl171_2, hi171_2⟩ := at_T50 HR0.out x7_1 p171 q171
                    cases e171
                    have HR171_1 := Aside0.mk hi171_1
                    have HC171_1 := Aside0.mk hl171_1
                    clear hi171_1 hl171_1
                    have HR171_2 := Aside0.mk hi171_2
                    have HC171_2 := Aside0.mk hl171_2
                    clear hi171_2 hl171_2
                    replace p171 := eq_true p171
                    replace q171 := eq_true q171
                    go_wp2
                    go_meet
                    case rel => exact ⟨_, (false), (by first | rfl | (simp; done) | (simp [*]; done)), H', ⟨by have := HK1.out; have := HK2.out; first | omega | exact Nat.le_refl _⟩, by repeat (first | exact Drawn0.refl _ | apply Drawn0.step)⟩
                · rw [if_neg c7] at H
                  exact absurd H (by simp)
              · rw [if_neg c6] at H
                exact absurd H (by simp)
            case rest =>
              clear HC5
              try clear c1
              try clear p1
              try clear q1
              try clear hx1
              try clear p2
              try clear c4
              try clear c4b0
              try clear c6
              try clear c6b0
              try clear c7
              try clear c7b0
              try clear c8
              try clear c8b0
              try clear hx171_0
              try clear hx171_1
              try clear hx171_2
              try clear hx172_0
              try clear hx172_1
              try clear hx172_2
              try clear p171
              try clear p172
              try clear p2
              try clear q171
              try clear q172
              obtain ⟨kq, x31_4, rfl, HA, HJ4, ⟨mc4, rfl⟩⟩ := hcut
              cases kq with
              | zero => exact absurd HA.out (by simp [spec_ConfValue.j2])
              | succ kj4 =>
                have H := HA.out
                clear HA
                simp only [spec_ConfValue.j2] at H
                by_cases c9 : x31_4 = true
                · subst c9
                  have H1 : (if 0 ≤ x7_1 then (if x7_1 < (l0.length : Int) then (if 0 ≤ x8_2 then (if x8_2 < (((rd_T50 l0 x7_1).f2).length : Int) then (if ((rd_T53 ((rd_T50 l0 x7_1).f2) x8_2).f0).toList = a2.toList then ((spec_Joined.f kj4 ((rd_T53 ((rd_T50 l0 x7_1).f2) x8_2).f1) (⟨#[32]⟩ : ByteArray)).bind fun t177 => (some t177)) else (spec_ConfValue.l1 kj4 l0 a1 a2 x7_1 (wrap64 (x8_2 + 1)))) else (none)) else (none)) else (none)) else (none)) = some r := by rw [if_pos rfl] at H; exact H
                  clear H
                  have H := H1
                  clear H1
                  by_cases c10 : 0 ≤ x7_1
                  · rw [if_pos c10] at H
                    have c10b0 : decide (0 ≤ x7_1) = true := decide_eq_true c10
                    clear c10
                    by_cases c11 : x7_1 < (l0.length : Int)
                    · rw [if_pos c11] at H
                      have c11b0 : decide (x7_1 < (l0.length : Int)) = true := decide_eq_true c11
                      clear c11
                      by_cases c12 : 0 ≤ x8_2
                      · rw [if_pos c12] at H
                        have c12b0 : decide (0 ≤ x8_2) = true := decide_eq_true c12
                        clear c12
                        by_cases c13 : x8_2 < (((rd_T50 l0 x7_1).f2).length : Int)
                        · rw [if_pos c13] at H
                          have c13b0 : decide (x8_2 < (((rd_T50 l0 x7_1).f2).length : Int)) = true := decide_eq_true c13
                          clear c13
                          by_cases c14 : ((rd_T53 ((rd_T50 l0 x7_1).f2) x8_2).f0).toList = a2.toList
                          · rw [if_pos c14] at H
                            have c14b0 : (((rd_T53 ((rd_T50 l0 x7_1).f2) x8_2).f0).toList == a2.toList) = true := beq_iff_eq.mpr c14
                            have c14b1 : (((rd_T53 ((rd_T50 l0 x7_1).f2) x8_2).f0).toList != a2.toList) = false := bne_eq_false_iff_eq.mpr c14
                            clear c14
                            replace H := Option.bind_eq_some_iff.mp H
                            obtain ⟨t177, A150, H⟩ := H
                            replace H : (some t177) = some r := H
                            have A15 := Aside0.mk A150
                            clear A150
                            obtain rfl := Option.some.inj H
                            have p173 : 0 ≤ (x7_1 : Int) := of_decide_eq_true (by first | (with_reducible assumption) | assumption)
                            have q173 : x7_1 < (l0.length : Int) := of_decide_eq_true (by first | (with_reducible assumption) | assumption)
                            obtain ⟨ad173, A173_1, c173_1, A173_2, c173_2, e173, hx173_0, hx173_1, hx173_2, hl173_1, hi173_1, hl173_2, hi173_2⟩ := at_T50 HR0.out x7_1 p173 q173
                            cases e173
                            have HR173_1 := Aside0.mk hi173_1
                            have HC173_1 := Aside0.mk hl173_1
                            clear hi173_1 hl173_1
                            have HR173_2 := Aside0.mk hi173_2
                            have HC173_2 := Aside0.mk hl173_2
                            clear hi173_2 hl173_2
                            replace p173 := eq_true p173
                            replace q173 := eq_true q173
                            have p174 : 0 ≤ (x8_2 : Int) := of_decide_eq_true (by first | (with_reducible assumption) | assumption)
                            have q174 : x8_2 < (((rd_T50 l0 x7_1).f2).length : Int) := of_decide_eq_true (by first | (with_reducible assumption) | assumption)
                            obtain ⟨ad174, A174_1, c174_1, e174, hx174_0, hx174_1, hl174_1, hi174_1⟩ := at_T53 HR173_2.out x8_2 p174 q174
                            cases e174
                            have HR174_1 := Aside0.mk hi174_1
                            have HC174_1 := Aside0.mk hl174_1
                            clear hi174_1 hl174_1
                            replace p174 := eq_true p174
                            replace q174 := eq_true q174
                            have p175 : 0 ≤ (x7_1 : Int) := of_decide_eq_true (by first | (with_reducible assumption) | assumption)
                            have q175 : x7_1 < (l0.length : Int) := of_decide_eq_true (by first | (with_reducible assumption) | assumption)
                            obtain ⟨ad175, A175_1, c175_1, A175_2, c175_2, e175, hx175_0, hx175_1, hx175_2, hl175_1, hi175_1, hl175_2, hi175_2⟩ := at_T50 HR0.out x7_1 p175 q175
                            obtain rfl : ad173 = ad175 := (by injection e175)
                            have HR175_1 := Aside0.mk hi175_1
                            have HC175_1 := Aside0.mk hl175_1
                            clear hi175_1 hl175_1
                            have HR175_2 := Aside0.mk hi175_2
                            have HC175_2 := Aside0.mk hl175_2
                            clear hi175_2 hl175_2
                            replace p175 := eq_true p175
                            replace q175 := eq_true q175
                            have ea_ := Option.some.inj (hx173_1.symm.trans hx175_1)
                            injection ea_ with ea_ en_ ec_
                            subst ea_
                            subst ec_
                            clear en_
                            have ea_ := Option.some.inj (hx173_2.symm.trans hx175_2)
                            injection ea_ with ea_ en_ ec_
                            subst ea_
                            subst ec_
                            clear en_
                            have p176 : 0 ≤ (x8_2 : Int) := of_decide_eq_true (by first | (with_reducible assumption) | assumption)
                            have q176 : x8_2 < (((rd_T50 l0 x7_1).f2).length : Int) := of_decide_eq_true (by first | (with_reducible assumption) | assumption)
                            obtain ⟨ad176, A176_1, c176_1, e176, hx176_0, hx176_1, hl176_1, hi176_1⟩ := at_T53 HR175_2.out x8_2 p176 q176
                            cases e176
                            have HR176_1 := Aside0.mk hi176_1
                            have HC176_1 := Aside0.mk hl176_1
                            clear hi176_1 hl176_1
                            replace p176 := eq_true p176
                            replace q176 := eq_true q176
                            go_wp2_with (first | ((with_reducible refine gate_callee (f := 26) rfl ?_); refine goesL_ (some 54) rfl rfl Tryz.func26 (by kernel_rfl) rfl #[.slice A174_1 ((rd_T53 ((rd_T50 l0 x7_1).f2) x8_2).f1).length c174_1, .string (⟨#[32]⟩ : ByteArray)] rfl (by (try simp only [List.map_toArray, List.map_cons, List.map_nil]); first | done | rfl | (simp only [List.length_drop, List.length_take]; rfl)) ?_; (with_reducible refine (spec_Joined.calls kj4 _ _ ((rd_T53 ((rd_T50 l0 x7_1).f2) x8_2).f1) (⟨#[32]⟩ : ByteArray) t177 _ ?side1 ?side2 A15.out).mono ?_); (case side1 => repeat (first | exact HR174_1.out | (with_reducible refine Kd.C_alloc ?_ _) | (with_reducible refine Kd.C_drewN ?_ _) | (with_reducible refine Kd.C_drew ?_))); (case side2 => exact HC174_1.out); rintro e w' ⟨rfl, ⟨nd, rfl⟩⟩; refine ⟨_, rfl, ?_⟩))
                            go_ret
                            exact ⟨by first | rfl | (simp; done) | (simp [*]; done), by repeat (first | exact Drawn0.refl _ | apply Drawn0.step)⟩
                          · rw [if_neg c14] at H
                            have c14b0 : (((rd_T53 ((rd_T50 l0 x7_1).f2) x8_2).f0).toList == a2.toList) = false := beq_eq_false_iff_ne.mpr c14
                            have c14b1 : (((rd_T53 ((rd_T50 l0 x7_1).f2) x8_2).f0).toList != a2.toList) = true := bne_iff_ne.mpr c14
                            have H' := Aside0.mk H
                            clear H
                            have p173 : 0 ≤ (x7_1 : Int) := of_decide_eq_true (by first | (with_reducible assumption) | assumption)
                            have q173 : x7_1 < (l0.length : Int) := of_decide_eq_true (by first | (with_reducible assumption) | assumption)
                            obtain ⟨ad173, A173_1, c173_1, A173_2, c173_2, e173, hx173_0, hx173_1, hx173_2, hl173_1, hi173_1, hl173_2, hi173_2⟩ := at_T50 HR0.out x7_1 p173 q173
                            cases e173
                            have HR173_1 := Aside0.mk hi173_1
                            have HC173_1 := Aside0.mk hl173_1
                            clear hi173_1 hl173_1
                            have HR173_2 := Aside0.mk hi173_2
                            have HC173_2 := Aside0.mk hl173_2
                            clear hi173_2 hl173_2
                            replace p173 := eq_true p173
                            replace q173 := eq_true q173
                            have p174 : 0 ≤ (x8_2 : Int) := of_decide_eq_true (by first | (with_reducible assumption) | assumption)
                            have q174 : x8_2 < (((rd_T50 l0 x7_1).f2).length : Int) := of_decide_eq_true (by first | (with_reducible assumption) | assumption)
                            obtain ⟨ad174, A174_1, c174_1, e174, hx174_0, hx174_1, hl174_1, hi174_1⟩ := at_T53 HR173_2.out x8_2 p174 q174
                            cases e174
                            have HR174_1 := Aside0.mk hi174_1
                            have HC174_1 := Aside0.mk hl174_1
                            clear hi174_1 hl174_1
                            replace p174 := eq_true p174
                            replace q174 := eq_true q174
                            go_wp2
                            go_roundg kj4
                            case measure => have := HK1.out; have := HK2.out; have := HJ4.out; omega
                            case rel => exact ⟨(wrap64 (x8_2 + 1)), (by first | rfl | (simp; done) | (simp [*]; done)), H', ⟨by have := HK1.out; have := HK2.out; have := HJ4.out; omega⟩, by repeat (first | exact Drawn0.refl _ | apply Drawn0.step)⟩
                        · rw [if_neg c13] at H
                          exact absurd H (by simp)
                      · rw [if_neg c12] at H
                        exact absurd H (by simp)
                    · rw [if_neg c11] at H
                      exact absurd H (by simp)
                  · rw [if_neg c10] at H
                    exact absurd H (by simp)
                · replace c9 := Bool.eq_false_iff.mpr c9
                  subst c9
                  have H1 : (spec_ConfValue.l0 kj4 l0 a1 a2 (wrap64 (x7_1 + 1))) = some r := by rw [if_neg (show ¬ (false = true) by decide)] at H; exact H
                  clear H
                  have H := H1
                  clear H1
                  have H' := Aside0.mk H
                  clear H
                  go_wp2
                  go_roundg kj4
                  case measure => have := HK1.out; have := HK2.out; have := HJ4.out; omega
                  case rel => exact ⟨(wrap64 (x7_1 + 1)), (by first | rfl | (simp; done) | (simp [*]; done)), H', ⟨by have := HK1.out; have := HK2.out; have := HJ4.out; omega⟩, by repeat (first | exact Drawn0.refl _ | apply Drawn0.step)⟩
      · rw [if_neg c4] at H
        have c4b0 : decide (x7_1 < (l0.length : Int)) = false := decide_eq_false c4
        clear c4
        obtain rfl := Option.some.inj H
        go_wp2
        go_ret
        exact ⟨by first | rfl | (simp; done) | (simp [*]; done), by repeat (first | exact Drawn0.refl _ | apply Drawn0.step)⟩

/-! ### impl_ConfigAdd: function 15 -/
/-! ConfigAdd. -/
section
open Go.Proofs
theorem below_mturn {n : Nat} {W w w' : World} {bs : List Nat} (hb : Below n W w) (hm : MTurn bs w w') (hn : n ≤ w.heap.size) (hle : ∀ k ∈ bs, n ≤ k) : Below n W w' :=
  ⟨hm.os.trans hb.os, hm.tape.trans hb.tape, hm.output.trans hb.output, Nat.le_trans hb.size hm.size, fun k hk => (hm.block k (by omega) (fun h => by have := hle k h; omega)).trans (hb.block k hk)⟩
def impl_ConfigAdd.f (text s o v key : ByteArray) : Option (ByteArray × Int) := if goodText text && lowKey key then (parseP text.data.toList).map fun D => (getConf (addC D s o v) key, 0) else none
set_option maxHeartbeats 4000000 in
set_option maxRecDepth 100000 in
theorem config_add {pe pb : Addr} {W : World} (hG : GlobsIn pe pb W) (a0 a1 a2 a3 a4 r0 : ByteArray) (r1 : Int) (h : impl_ConfigAdd.f a0 a1 a2 a3 a4 = some (r0, r1)) :
    Calls Tryz.prog 15 #[.string a0, .string a1, .string a2, .string a3, .string a4] W fun e w' => e = .returned (.tuple #[.string r0, .int .i64 r1]) ∧ Below W.heap.size W w' := by
  unfold impl_ConfigAdd.f at h
  by_cases hc : (goodText a0 && lowKey a4) = true
  · rw [if_pos hc] at h
    rw [Bool.and_eq_true] at hc
    obtain ⟨D, hD, hr⟩ := Option.map_eq_some_iff.1 h
    obtain ⟨rfl, rfl⟩ : getConf (addC D a1 a2 a3) a4 = r0 ∧ (0 : Int) = r1 := by
      injection hr with h1 h2
      exact ⟨h1, h2⟩
    have hn := Aside0.mk (new_config hG a0 D hc.1 hD)
    have HK := Aside0.mk hc.2
    have hnn : ∀ w : World, (binOp .neq 57 .nilIface .nilIface).run Tryz.prog w = .ok (.bool false) w := fun w => by kernel_rfl
    have hta : ∀ (v : Value) (w : World), (Instr.typeAssert (.iface 62 v) 55 62 true).run Tryz.prog w = .ok (.tuple #[v, .bool true]) w := fun v w => by kernel_rfl
    clear h hc hr hD hG
    go_enter Tryz.func15, Tryz.ntmps15
    go_wp2_with (first
      | (go_at_call 25; refine hn.out.mono ?_; rintro e w2 ⟨p, m, st, rfl, hC, hD, hle, hb⟩; have H2 := Aside0.mk (And.intro hC (And.intro hD (And.intro hle hb))); clear hC hD hle hb)
      | (go_at_call 27; refine (conf_add H2.out.1 a1 a2 a3).mono ?_; rintro e w3 ⟨b, st3, rfl, hC, hD, hle, hb⟩; have H3 := Aside0.mk (And.intro hC (And.intro hD (And.intro hle hb))); clear hC hD hle hb)
      | (go_at_call 93; refine (conf_String H3.out.1 a4 HK.out).mono ?_; rintro e w4 ⟨rfl, hb⟩; have HB4 := Aside0.mk hb; clear hb))
    go_ret2
    have h2 := H2.out
    have h3 := H3.out
    have hb3 := below_mturn h2.2.2.2 h3.2.2.2 h2.2.2.2.size (fun k hk => by
      rcases List.mem_cons.1 hk with rfl | hk
      · exact h2.2.2.1.2.1
      · exact h2.2.2.1.2.2 k hk)
    refine ⟨by rw [← h2.2.1, ← h3.2.1]; rfl, hb3.trans (HB4.out.mono hb3.size)⟩
  · rw [if_neg hc] at h; cases h
end
theorem impl_ConfigAdd.calls (a0 a1 a2 a3 a4 : ByteArray) (r0 : ByteArray) (r1 : Int) (w : World) (hprem : Prem w) (h : impl_ConfigAdd.f a0 a1 a2 a3 a4 = some (r0, r1)) :
    Calls Tryz.prog 15 #[.string a0, .string a1, .string a2, .string a3, .string a4] w fun e w' => e = .returned (.tuple #[.string r0, .int .i64 r1]) ∧ Below w.heap.size w w' := by
  obtain ⟨pe, pb, hg⟩ := hprem
  exact config_add hg a0 a1 a2 a3 a4 r0 r1 h

end Go.Proofs.YtbomcdnijklgjaaGreatDoor.PFnConfigAdd
