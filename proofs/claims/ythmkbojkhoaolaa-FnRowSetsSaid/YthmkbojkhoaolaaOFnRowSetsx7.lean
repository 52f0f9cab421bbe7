/- The machine side of laws.FnRowSets: each function of this text answers what its Lean function answers (written for this claim by a program of this session over the kit's print; no condition beyond what each theorem says). -/
import Derived.Test.YthmkbojkhoaolaaOFnRowSetsx0
import Derived.Test.YthmkbojkhoaolaaOFnRowSetsx6
namespace Go.Proofs.Ythmkbojkhoaolaa.PFnRowSets
open Go.RowKit Go.Proofs.YthmkbojkhoaolaaW.PrintWords Go.Proofs.YthmkbojkhoaolaaW.PrintLast Go.Proofs.YthmkbojkhoaolaaW.PrintMore
attribute [local go_sem] max2_int min2_int max_two min_two max_three min_three max_four min_four   -- for this text's walks alone
set_option linter.unusedVariables false
set_option linter.unusedSimpArgs false

/-! ### spec_SameRowBag: function 20 -/
mutual
def spec_SameRowBag.l0 : Nat → List (List ByteArray) → List (List ByteArray) → Bool → Int → Option (Bool)
  | 0, _, _, _, _ => none
  | k + 1, x0, x1, x2, x7 => if x7 < (x0.length : Int) then (spec_SameRowBag.l1 k x0 x1 x2 x7 0 0 0) else (some true)
def spec_SameRowBag.l1 : Nat → List (List ByteArray) → List (List ByteArray) → Bool → Int → Int → Int → Int → Option (Bool)
  | 0, _, _, _, _, _, _, _ => none
  | k + 1, x0, x1, x2, x7, x8, x9, x10 => if x10 < (x0.length : Int) then (if 0 ≤ x10 then (if 0 ≤ x7 then (if x7 < (x0.length : Int) then ((spec_SameList.f k (rd_L1 x0 x10) (rd_L1 x0 x7)).bind fun t176 => (if t176 = true then (spec_SameRowBag.j2 k x0 x1 x2 x7 x8 x9 x10 true) else (if x2 = true then ((spec_SameBag.f k (rd_L1 x0 x10) (rd_L1 x0 x7)).bind fun t179 => (spec_SameRowBag.j2 k x0 x1 x2 x7 x8 x9 x10 t179)) else (spec_SameRowBag.j2 k x0 x1 x2 x7 x8 x9 x10 false)))) else (none)) else (none)) else (none)) else (if x8 = x9 then (spec_SameRowBag.l0 k x0 x1 x2 (wrap64 (x7 + 1))) else (some false))
def spec_SameRowBag.j2 : Nat → List (List ByteArray) → List (List ByteArray) → Bool → Int → Int → Int → Int → Bool → Option (Bool)
  | 0, _, _, _, _, _, _, _, _ => none
  | k + 1, x0, x1, x2, x7, x8, x9, x10, x50 => if x50 = true then (spec_SameRowBag.j3 k x0 x1 x2 x7 (wrap64 (x8 + 1)) x9 x10) else (spec_SameRowBag.j3 k x0 x1 x2 x7 x8 x9 x10)
def spec_SameRowBag.j3 : Nat → List (List ByteArray) → List (List ByteArray) → Bool → Int → Int → Int → Int → Option (Bool)
  | 0, _, _, _, _, _, _, _ => none
  | k + 1, x0, x1, x2, x7, x8, x9, x10 => if 0 ≤ x10 then (if x10 < (x1.length : Int) then (if 0 ≤ x7 then (if x7 < (x0.length : Int) then ((spec_SameList.f k (rd_L1 x1 x10) (rd_L1 x0 x7)).bind fun t182 => (if t182 = true then (spec_SameRowBag.l1 k x0 x1 x2 x7 x8 (wrap64 (x9 + 1)) (wrap64 (x10 + 1))) else (if x2 = true then ((spec_SameBag.f k (rd_L1 x1 x10) (rd_L1 x0 x7)).bind fun t185 => (if t185 = true then (spec_SameRowBag.l1 k x0 x1 x2 x7 x8 (wrap64 (x9 + 1)) (wrap64 (x10 + 1))) else (spec_SameRowBag.l1 k x0 x1 x2 x7 x8 x9 (wrap64 (x10 + 1))))) else (spec_SameRowBag.l1 k x0 x1 x2 x7 x8 x9 (wrap64 (x10 + 1)))))) else (none)) else (none)) else (none)) else (none)
end
def spec_SameRowBag.f (k : Nat) (l0 : List (List ByteArray)) (l1 : List (List ByteArray)) (a2 : Bool) : Option (Bool) := if (l0.length : Int) = (l1.length : Int) then (spec_SameRowBag.l0 k l0 l1 a2 0) else (some false)
theorem spec_SameRowBag.mono_l : ∀ k, (∀ y0 y1 y2 y3, LeO (spec_SameRowBag.l0 k y0 y1 y2 y3) (spec_SameRowBag.l0 (k + 1) y0 y1 y2 y3)) ∧ (∀ y0 y1 y2 y3 y4 y5 y6, LeO (spec_SameRowBag.l1 k y0 y1 y2 y3 y4 y5 y6) (spec_SameRowBag.l1 (k + 1) y0 y1 y2 y3 y4 y5 y6)) ∧ (∀ y0 y1 y2 y3 y4 y5 y6 y7, LeO (spec_SameRowBag.j2 k y0 y1 y2 y3 y4 y5 y6 y7) (spec_SameRowBag.j2 (k + 1) y0 y1 y2 y3 y4 y5 y6 y7)) ∧ (∀ y0 y1 y2 y3 y4 y5 y6, LeO (spec_SameRowBag.j3 k y0 y1 y2 y3 y4 y5 y6) (spec_SameRowBag.j3 (k + 1) y0 y1 y2 y3 y4 y5 y6))
  | 0 => ⟨fun _ _ _ _ r h => by simp [spec_SameRowBag.l0] at h, fun _ _ _ _ _ _ _ r h => by simp [spec_SameRowBag.l1] at h, fun _ _ _ _ _ _ _ _ r h => by simp [spec_SameRowBag.j2] at h, fun _ _ _ _ _ _ _ r h => by simp [spec_SameRowBag.j3] at h⟩
  | k + 1 => by
    obtain ⟨ih0, ih1, ih2, ih3⟩ := spec_SameRowBag.mono_l k
    refine ⟨?_, ?_, ?_, ?_⟩
    · intro y0 y1 y2 y3
      unfold spec_SameRowBag.l0
      repeat' first
      | (with_reducible exact ih0 _ _ _ _)
      | (with_reducible exact ih1 _ _ _ _ _ _ _)
      | (with_reducible exact ih2 _ _ _ _ _ _ _ _)
      | (with_reducible exact ih3 _ _ _ _ _ _ _)
      | (with_reducible exact spec_SameBag.mono _ _ _)
      | (with_reducible exact spec_SameList.mono _ _ _)
      | (with_reducible exact LeO.refl _)
      | (with_reducible exact LeO.none _)
      | (with_reducible refine LeO.ite ?_ ?_)
      | (with_reducible refine LeO.bind ?_ (fun _ => ?_))
      | exact ih0 _ _ _ _
      | exact ih1 _ _ _ _ _ _ _
      | exact ih2 _ _ _ _ _ _ _ _
      | exact ih3 _ _ _ _ _ _ _
      | exact spec_SameBag.mono _ _ _
      | exact spec_SameList.mono _ _ _
      | exact LeO.none _
      | refine LeO.ite ?_ ?_
      | refine LeO.bind ?_ (fun _ => ?_)
    · intro y0 y1 y2 y3 y4 y5 y6
      unfold spec_SameRowBag.l1
      repeat' first
      | (with_reducible exact ih0 _ _ _ _)
      | (with_reducible exact ih1 _ _ _ _ _ _ _)
      | (with_reducible exact ih2 _ _ _ _ _ _ _ _)
      | (with_reducible exact ih3 _ _ _ _ _ _ _)
      | (with_reducible exact spec_SameBag.mono _ _ _)
      | (with_reducible exact spec_SameList.mono _ _ _)
      | (with_reducible exact LeO.refl _)
      | (with_reducible exact LeO.none _)
      | (with_reducible refine LeO.ite ?_ ?_)
      | (with_reducible refine LeO.bind ?_ (fun _ => ?_))
      | exact ih0 _ _ _ _
      | exact ih1 _ _ _ _ _ _ _
      | exact ih2 _ _ _ _ _ _ _ _
      | exact ih3 _ _ _ _ _ _ _
      | exact spec_SameBag.mono _ _ _
      | exact spec_SameList.mono _ _ _
      | exact LeO.none _
      | refine LeO.ite ?_ ?_
      | refine LeO.bind ?_ (fun _ => ?_)
    · intro y0 y1 y2 y3 y4 y5 y6 y7
      unfold spec_SameRowBag.j2
      repeat' first
      | (with_reducible exact ih0 _ _ _ _)
      | (with_reducible exact ih1 _ _ _ _ _ _ _)
      | (with_reducible exact ih2 _ _ _ _ _ _ _ _)
      | (with_reducible exact ih3 _ _ _ _ _ _ _)
      | (with_reducible exact spec_SameBag.mono _ _ _)
      | (with_reducible exact spec_SameList.mono _ _ _)
      | (with_reducible exact LeO.refl _)
      | (with_reducible exact LeO.none _)
      | (with_reducible refine LeO.ite ?_ ?_)
      | (with_reducible refine LeO.bind ?_ (fun _ => ?_))
      | exact ih0 _ _ _ _
      | exact ih1 _ _ _ _ _ _ _
      | exact ih2 _ _ _ _ _ _ _ _
      | exact ih3 _ _ _ _ _ _ _
      | exact spec_SameBag.mono _ _ _
      | exact spec_SameList.mono _ _ _
      | exact LeO.none _
      | refine LeO.ite ?_ ?_
      | refine LeO.bind ?_ (fun _ => ?_)
    · intro y0 y1 y2 y3 y4 y5 y6
      unfold spec_SameRowBag.j3
      repeat' first
      | (with_reducible exact ih0 _ _ _ _)
      | (with_reducible exact ih1 _ _ _ _ _ _ _)
      | (with_reducible exact ih2 _ _ _ _ _ _ _ _)
      | (with_reducible exact ih3 _ _ _ _ _ _ _)
      | (with_reducible exact spec_SameBag.mono _ _ _)
      | (with_reducible exact spec_SameList.mono _ _ _)
      | (with_reducible exact LeO.refl _)
      | (with_reducible exact LeO.none _)
      | (with_reducible refine LeO.ite ?_ ?_)
      | (with_reducible refine LeO.bind ?_ (fun _ => ?_))
      | exact ih0 _ _ _ _
      | exact ih1 _ _ _ _ _ _ _
      | exact ih2 _ _ _ _ _ _ _ _
      | exact ih3 _ _ _ _ _ _ _
      | exact spec_SameBag.mono _ _ _
      | exact spec_SameList.mono _ _ _
      | exact LeO.none _
      | refine LeO.ite ?_ ?_
      | refine LeO.bind ?_ (fun _ => ?_)
theorem spec_SameRowBag.mono : ∀ a0 a1 a2 k, LeO (spec_SameRowBag.f k a0 a1 a2) (spec_SameRowBag.f (k + 1) a0 a1 a2) := by
  intro a0 a1 a2 k
  obtain ⟨ih0, ih1, ih2, ih3⟩ := spec_SameRowBag.mono_l k
  unfold spec_SameRowBag.f
  repeat' first
      | (with_reducible exact ih0 _ _ _ _)
      | (with_reducible exact ih1 _ _ _ _ _ _ _)
      | (with_reducible exact ih2 _ _ _ _ _ _ _ _)
      | (with_reducible exact ih3 _ _ _ _ _ _ _)
      | (with_reducible exact spec_SameBag.mono _ _ _)
      | (with_reducible exact spec_SameList.mono _ _ _)
      | (with_reducible exact LeO.refl _)
      | (with_reducible exact LeO.none _)
      | (with_reducible refine LeO.ite ?_ ?_)
      | (with_reducible refine LeO.bind ?_ (fun _ => ?_))
      | exact ih0 _ _ _ _
      | exact ih1 _ _ _ _ _ _ _
      | exact ih2 _ _ _ _ _ _ _ _
      | exact ih3 _ _ _ _ _ _ _
      | exact spec_SameBag.mono _ _ _
      | exact spec_SameList.mono _ _ _
      | exact LeO.none _
      | refine LeO.ite ?_ ?_
      | refine LeO.bind ?_ (fun _ => ?_)
set_option maxHeartbeats 8000000 in
set_option maxRecDepth 100000 in
theorem spec_SameRowBag.calls (k : Nat) (A0 : Option Addr) (c0 : Nat) (l0 : List (List ByteArray)) (A1 : Option Addr) (c1 : Nat) (l1 : List (List ByteArray)) (a2 : Bool) (r : Bool) (w : World) (hr0 : Kd.C (Kd.slice 9 Kd.string) w A0 l0.length l0) (hc0 : l0.length ≤ c0) (hr1 : Kd.C (Kd.slice 9 Kd.string) w A1 l1.length l1) (hc1 : l1.length ≤ c1) (h : spec_SameRowBag.f k l0 l1 a2 = some r) :
    Calls Try.prog 20 #[.slice A0 l0.length c0, .slice A1 l1.length c1, .bool a2] w fun e w' => e = .returned (.bool r) ∧ Drawn0 w w' := by
  have HR0 := Aside0.mk hr0
  have HC0 := Aside0.mk hc0
  clear hr0 hc0
  have HR1 := Aside0.mk hr1
  have HC1 := Aside0.mk hc1
  clear hr1 hc1
  have H : (if (l0.length : Int) = (l1.length : Int) then (spec_SameRowBag.l0 k l0 l1 a2 0) else (some false)) = some r := h
  clear h
  by_cases c4 : (l0.length : Int) = (l1.length : Int)
  · rw [if_pos c4] at H
    have c4b0 : ((l0.length : Int) == (l1.length : Int)) = true := beq_iff_eq.mpr c4
    have c4b1 : ((l0.length : Int) != (l1.length : Int)) = false := bne_eq_false_iff_eq.mpr c4
    have c4b2 : (l0.length == l1.length) = true := by first | simpa using c4 | (simp at c4 ⊢; omega)
    clear c4
    have H' := Aside0.mk H
    clear H
    go_enter Try.func20, Try.ntmps20
    go_wp2
    repeat (go_quiet (fail); try go_wp2)
    go_loopg [7] k (fun kq v7 w' => ∃ (x7_1 : Int), v7 = .int .i64 x7_1 ∧ Aside0 (spec_SameRowBag.l0 kq l0 l1 a2 x7_1 = some r) ∧ Aside0 (kq ≤ k) ∧ Drawn0 w w')
    case atStart => exact ⟨(0), (by first | rfl | (simp; done) | (simp [*]; done)), H', ⟨Nat.le_refl _⟩, by repeat (first | exact Drawn0.refl _ | apply Drawn0.step)⟩
    case round =>
      clear H'
      try clear c1
      try clear c2
      try clear p2
      try clear c4
      try clear c4b0
      try clear c4b1
      try clear c4b2
      obtain ⟨x7_1, rfl, HA, HK1, ⟨m1, rfl⟩⟩ := hrel
      cases gk with
      | zero => exact absurd HA.out (by simp [spec_SameRowBag.l0])
      | succ k1 =>
        have H := HA.out
        clear HA
        simp only [spec_SameRowBag.l0] at H
        by_cases c5 : x7_1 < (l0.length : Int)
        · rw [if_pos c5] at H
          have c5b0 : decide (x7_1 < (l0.length : Int)) = true := decide_eq_true c5
          clear c5
          have H' := Aside0.mk H
          clear H
          go_wp2
          repeat (go_quiet (fail); try go_wp2)
          go_loopg [8, 9, 10] k1 (fun kq v8 v9 v10 w' => ∃ (x8_2 : Int) (x9_2 : Int) (x10_2 : Int), v8 = .int .i64 x8_2 ∧ v9 = .int .i64 x9_2 ∧ v10 = .int .i64 x10_2 ∧ Aside0 (spec_SameRowBag.l1 kq l0 l1 a2 x7_1 x8_2 x9_2 x10_2 = some r) ∧ Aside0 (kq ≤ k1) ∧ Drawn0 w w')
          case atStart => exact ⟨(0), (0), (0), (by first | rfl | (simp; done) | (simp [*]; done)), (by first | rfl | (simp; done) | (simp [*]; done)), (by first | rfl | (simp; done) | (simp [*]; done)), H', ⟨Nat.le_refl _⟩, by repeat (first | exact Drawn0.refl _ | apply Drawn0.step)⟩
          case round =>
            clear H'
            try clear c1
            try clear c2
            try clear p2
            try clear c4
            try clear c4b0
            try clear c4b1
            try clear c4b2
            try clear c5
            try clear c5b0
            try clear p2
            obtain ⟨x8_2, x9_2, x10_2, rfl, rfl, rfl, HA, HK2, ⟨m2, rfl⟩⟩ := hrel
            cases gk with
            | zero => exact absurd HA.out (by simp [spec_SameRowBag.l1])
            | succ k2 =>
              have H := HA.out
              clear HA
              simp only [spec_SameRowBag.l1] at H
              by_cases c6 : x10_2 < (l0.length : Int)
              · rw [if_pos c6] at H
                have c6b0 : decide (x10_2 < (l0.length : Int)) = true := decide_eq_true c6
                clear c6
                have HC7 := Aside0.mk H
                clear H
                go_upto_region 10 with (fail)
                repeat (go_quiet (fail); go_upto_region 10 with (fail))
                go_cut [50] (fun v50 wc => ∃ (kq : Nat) (x50_6 : Bool), v50 = .bool x50_6 ∧ Aside0 (spec_SameRowBag.j2 kq l0 l1 a2 x7_1 x8_2 x9_2 x10_2 x50_6 = some r) ∧ Aside0 (kq ≤ k2) ∧ Drawn0 w wc)
                case first =>
                  have H := HC7.out
                  clear HC7
                  by_cases c8 : 0 ≤ x10_2
                  · rw [if_pos c8] at H
                    have c8b0 : decide (0 ≤ x10_2) = true := decide_eq_true c8
                    clear c8
                    (first | rw [c8b0] | (simp only [i64_w, i32_w]; rw [c8b0]) | skip)
                    by_cases c9 : 0 ≤ x7_1
                    · rw [if_pos c9] at H
                      have c9b0 : decide (0 ≤ x7_1) = true := decide_eq_true c9
                      clear c9
                      by_cases c10 : x7_1 < (l0.length : Int)
                      · rw [if_pos c10] at H
                        have c10b0 : decide (x7_1 < (l0.length : Int)) = true := decide_eq_true c10
                        clear c10
                        replace H := Option.bind_eq_some_iff.mp H
                        obtain ⟨t176, A110, H⟩ := H
                        replace H : (if t176 = true then (spec_SameRowBag.j2 k2 l0 l1 a2 x7_1 x8_2 x9_2 x10_2 true) else (if a2 = true then ((spec_SameBag.f k2 (rd_L1 l0 x10_2) (rd_L1 l0 x7_1)).bind fun t179 => (spec_SameRowBag.j2 k2 l0 l1 a2 x7_1 x8_2 x9_2 x10_2 t179)) else (spec_SameRowBag.j2 k2 l0 l1 a2 x7_1 x8_2 x9_2 x10_2 false))) = some r := H
                        have A11 := Aside0.mk A110
                        clear A110
                        by_cases c12 : t176 = true
                        · subst c12
                          have H1 : (spec_SameRowBag.j2 k2 l0 l1 a2 x7_1 x8_2 x9_2 x10_2 true) = some r := by rw [if_pos rfl] at H; exact H
                          clear H
                          have H := H1
                          clear H1
                          have H' := Aside0.mk H
                          clear H
                          have p174 : 0 ≤ (x10_2 : Int) := of_decide_eq_true (by first | (with_reducible assumption) | assumption)
                          have q174 : x10_2 < (l0.length : Int) := of_decide_eq_true (by first | (with_reducible assumption) | assumption)
                          obtain ⟨ad174, A174_0, c174_0, e174, hx174_0, hl174_0, hi174_0⟩ := at_L1 HR0.out x10_2 p174 q174
                          cases e174
                          have HR174_0 := Aside0.mk hi174_0
                          have HC174_0 := Aside0.mk hl174_0
                          clear hi174_0 hl174_0
                          replace p174 := eq_true p174
                          replace q174 := eq_true q174
                          have p175 : 0 ≤ (x7_1 : Int) := of_decide_eq_true (by first | (with_reducible assumption) | assumption)
                          have q175 : x7_1 < (l0.length : Int) := of_decide_eq_true (by first | (with_reducible assumption) | assumption)
                          obtain ⟨ad175, A175_0, c175_0, e175, hx175_0, hl175_0, hi175_0⟩ := at_L1 HR0.out x7_1 p175 q175
                          obtain rfl : ad174 = ad175 := (by injection e175)
                          have HR175_0 := Aside0.mk hi175_0
                          have HC175_0 := Aside0.mk hl175_0
                          clear hi175_0 hl175_0
                          replace p175 := eq_true p175
                          replace q175 := eq_true q175
                          go_wp2_with (first | (go_at_call 36; (with_reducible refine (spec_SameList.calls k2 _ _ (rd_L1 l0 x10_2) _ _ (rd_L1 l0 x7_1) true _ ?side1 ?side2 ?side3 ?side4 A11.out).mono ?_); (case side1 => repeat (first | exact HR174_0.out | (with_reducible refine Kd.C_alloc ?_ _) | (with_reducible refine Kd.C_drewN ?_ _) | (with_reducible refine Kd.C_drew ?_))); (case side2 => exact HC174_0.out); (case side3 => repeat (first | exact HR175_0.out | (with_reducible refine Kd.C_alloc ?_ _) | (with_reducible refine Kd.C_drewN ?_ _) | (with_reducible refine Kd.C_drew ?_))); (case side4 => exact HC175_0.out); rintro e w' ⟨rfl, ⟨nd, rfl⟩⟩; (try first | exact ⟨rfl, _, World.drewN_drewN _ _ _⟩ | exact ⟨rfl, _, Eq.trans (World.drewN_drewN _ _ _) (congrArg (World.drewN _) (Nat.add_assoc _ _ _))⟩)))
                          repeat (go_quiet (first | (go_at_call 36; (with_reducible refine (spec_SameList.calls k2 _ _ (rd_L1 l0 x10_2) _ _ (rd_L1 l0 x7_1) true _ ?side1 ?side2 ?side3 ?side4 A11.out).mono ?_); (case side1 => repeat (first | exact HR174_0.out | (with_reducible refine Kd.C_alloc ?_ _) | (with_reducible refine Kd.C_drewN ?_ _) | (with_reducible refine Kd.C_drew ?_))); (case side2 => exact HC174_0.out); (case side3 => repeat (first | exact HR175_0.out | (with_reducible refine Kd.C_alloc ?_ _) | (with_reducible refine Kd.C_drewN ?_ _) | (with_reducible refine Kd.C_drew ?_))); (case side4 => exact HC175_0.out); rintro e w' ⟨rfl, ⟨nd, rfl⟩⟩; (try first | exact ⟨rfl, _, World.drewN_drewN _ _ _⟩ | exact ⟨rfl, _, Eq.trans (World.drewN_drewN _ _ _) (congrArg (World.drewN _) (Nat.add_assoc _ _ _))⟩))); try go_wp2_with (first | (go_at_call 36; (with_reducible refine (spec_SameList.calls k2 _ _ (rd_L1 l0 x10_2) _ _ (rd_L1 l0 x7_1) true _ ?side1 ?side2 ?side3 ?side4 A11.out).mono ?_); (case side1 => repeat (first | exact HR174_0.out | (with_reducible refine Kd.C_alloc ?_ _) | (with_reducible refine Kd.C_drewN ?_ _) | (with_reducible refine Kd.C_drew ?_))); (case side2 => exact HC174_0.out); (case side3 => repeat (first | exact HR175_0.out | (with_reducible refine Kd.C_alloc ?_ _) | (with_reducible refine Kd.C_drewN ?_ _) | (with_reducible refine Kd.C_drew ?_))); (case side4 => exact HC175_0.out); rintro e w' ⟨rfl, ⟨nd, rfl⟩⟩; (try first | exact ⟨rfl, _, World.drewN_drewN _ _ _⟩ | exact ⟨rfl, _, Eq.trans (World.drewN_drewN _ _ _) (congrArg (World.drewN _) (Nat.add_assoc _ _ _))⟩))))
                          go_meet
                          case rel => exact ⟨_, (true), (by first | rfl | (simp; done) | (simp [*]; done)), H', ⟨by have := HK1.out; have := HK2.out; first | omega | exact Nat.le_refl _⟩, by repeat (first | exact Drawn0.refl _ | apply Drawn0.step)⟩
                        · replace c12 := Bool.eq_false_iff.mpr c12
                          subst c12
                          have H1 : (if a2 = true then ((spec_SameBag.f k2 (rd_L1 l0 x10_2) (rd_L1 l0 x7_1)).bind fun t179 => (spec_SameRowBag.j2 k2 l0 l1 a2 x7_1 x8_2 x9_2 x10_2 t179)) else (spec_SameRowBag.j2 k2 l0 l1 a2 x7_1 x8_2 x9_2 x10_2 false)) = some r := by rw [if_neg (show ¬ (false = true) by decide)] at H; exact H
                          clear H
                          have H := H1
                          clear H1
                          by_cases c13 : a2 = true
                          · subst c13
                            have H1 : ((spec_SameBag.f k2 (rd_L1 l0 x10_2) (rd_L1 l0 x7_1)).bind fun t179 => (spec_SameRowBag.j2 k2 l0 l1 true x7_1 x8_2 x9_2 x10_2 t179)) = some r := by rw [if_pos rfl] at H; exact H
                            clear H
                            have H := H1
                            clear H1
                            replace H := Option.bind_eq_some_iff.mp H
                            obtain ⟨t179, A140, H⟩ := H
                            replace H : (spec_SameRowBag.j2 k2 l0 l1 true x7_1 x8_2 x9_2 x10_2 t179) = some r := H
                            have A14 := Aside0.mk A140
                            clear A140
                            have H' := Aside0.mk H
                            clear H
                            have p174 : 0 ≤ (x10_2 : Int) := of_decide_eq_true (by first | (with_reducible assumption) | assumption)
                            have q174 : x10_2 < (l0.length : Int) := of_decide_eq_true (by first | (with_reducible assumption) | assumption)
                            obtain ⟨ad174, A174_0, c174_0, e174, hx174_0, hl174_0, hi174_0⟩ := at_L1 HR0.out x10_2 p174 q174
                            cases e174
                            have HR174_0 := Aside0.mk hi174_0
                            have HC174_0 := Aside0.mk hl174_0
                            clear hi174_0 hl174_0
                            replace p174 := eq_true p174
                            replace q174 := eq_true q174
                            have p175 : 0 ≤ (x7_1 : Int) := of_decide_eq_true (by first | (with_reducible assumption) | assumption)
                            have q175 : x7_1 < (l0.length : Int) := of_decide_eq_true (by first | (with_reducible assumption) | assumption)
                            obtain ⟨ad175, A175_0, c175_0, e175, hx175_0, hl175_0, hi175_0⟩ := at_L1 HR0.out x7_1 p175 q175
                            obtain rfl : ad174 = ad175 := (by injection e175)
                            have HR175_0 := Aside0.mk hi175_0
                            have HC175_0 := Aside0.mk hl175_0
                            clear hi175_0 hl175_0
                            replace p175 := eq_true p175
                            replace q175 := eq_true q175
                            go_wp2_with (first | (go_at_call 36; (with_reducible refine (spec_SameList.calls k2 _ _ (rd_L1 l0 x10_2) _ _ (rd_L1 l0 x7_1) false _ ?side1 ?side2 ?side3 ?side4 A11.out).mono ?_); (case side1 => repeat (first | exact HR174_0.out | (with_reducible refine Kd.C_alloc ?_ _) | (with_reducible refine Kd.C_drewN ?_ _) | (with_reducible refine Kd.C_drew ?_))); (case side2 => exact HC174_0.out); (case side3 => repeat (first | exact HR175_0.out | (with_reducible refine Kd.C_alloc ?_ _) | (with_reducible refine Kd.C_drewN ?_ _) | (with_reducible refine Kd.C_drew ?_))); (case side4 => exact HC175_0.out); rintro e w' ⟨rfl, ⟨nd, rfl⟩⟩; (try first | exact ⟨rfl, _, World.drewN_drewN _ _ _⟩ | exact ⟨rfl, _, Eq.trans (World.drewN_drewN _ _ _) (congrArg (World.drewN _) (Nat.add_assoc _ _ _))⟩); have p177 : 0 ≤ (x10_2 : Int) := of_decide_eq_true (by first | (with_reducible assumption) | assumption); have q177 : x10_2 < (l0.length : Int) := of_decide_eq_true (by first | (with_reducible assumption) | assumption); obtain ⟨ad177, A177_0, c177_0, e177, hx177_0, hl177_0, hi177_0⟩ := at_L1 HR0.out x10_2 p177 q177; obtain rfl : ad174 = ad177 := (by injection e177); have HR177_0 := Aside0.mk hi177_0; have HC177_0 := Aside0.mk hl177_0; clear hi177_0 hl177_0; replace p177 := eq_true p177; replace q177 := eq_true q177; have ea_ := Option.some.inj (hx174_0.symm.trans hx177_0); injection ea_ with ea_ en_ ec_; subst ea_; subst ec_; clear en_; have p178 : 0 ≤ (x7_1 : Int) := of_decide_eq_true (by first | (with_reducible assumption) | assumption); have q178 : x7_1 < (l0.length : Int) := of_decide_eq_true (by first | (with_reducible assumption) | assumption); obtain ⟨ad178, A178_0, c178_0, e178, hx178_0, hl178_0, hi178_0⟩ := at_L1 HR0.out x7_1 p178 q178; obtain rfl : ad174 = ad178 := (by injection e178); have HR178_0 := Aside0.mk hi178_0; have HC178_0 := Aside0.mk hl178_0; clear hi178_0 hl178_0; replace p178 := eq_true p178; replace q178 := eq_true q178; have ea_ := Option.some.inj (hx175_0.symm.trans hx178_0); injection ea_ with ea_ en_ ec_; subst ea_; subst ec_; clear en_) | (go_at_call 12; (with_reducible refine (spec_SameBag.calls k2 _ _ (rd_L1 l0 x10_2) _ _ (rd_L1 l0 x7_1) t179 _ ?side1 ?side2 ?side3 ?side4 A14.out).mono ?_); (case side1 => repeat (first | exact HR177_0.out | (with_reducible refine Kd.C_alloc ?_ _) | (with_reducible refine Kd.C_drewN ?_ _) | (with_reducible refine Kd.C_drew ?_))); (case side2 => exact HC177_0.out); (case side3 => repeat (first | exact HR178_0.out | (with_reducible refine Kd.C_alloc ?_ _) | (with_reducible refine Kd.C_drewN ?_ _) | (with_reducible refine Kd.C_drew ?_))); (case side4 => exact HC178_0.out); rintro e w' ⟨rfl, ⟨nd, rfl⟩⟩; (try first | exact ⟨rfl, _, World.drewN_drewN _ _ _⟩ | exact ⟨rfl, _, Eq.trans (World.drewN_drewN _ _ _) (congrArg (World.drewN _) (Nat.add_assoc _ _ _))⟩)))
                            repeat (go_quiet (first | (go_at_call 36; (with_reducible refine (spec_SameList.calls k2 _ _ (rd_L1 l0 x10_2) _ _ (rd_L1 l0 x7_1) false _ ?side1 ?side2 ?side3 ?side4 A11.out).mono ?_); (case side1 => repeat (first | exact HR174_0.out | (with_reducible refine Kd.C_alloc ?_ _) | (with_reducible refine Kd.C_drewN ?_ _) | (with_reducible refine Kd.C_drew ?_))); (case side2 => exact HC174_0.out); (case side3 => repeat (first | exact HR175_0.out | (with_reducible refine Kd.C_alloc ?_ _) | (with_reducible refine Kd.C_drewN ?_ _) | (with_reducible refine Kd.C_drew ?_))); (case side4 => exact HC175_0.out); rintro e w' ⟨rfl, ⟨nd, rfl⟩⟩; (try first | exact ⟨rfl, _, World.drewN_drewN _ _ _⟩ | exact ⟨rfl, _, Eq.trans (World.drewN_drewN _ _ _) (congrArg (World.drewN _) (Nat.add_assoc _ _ _))⟩); have p177 : 0 ≤ (x10_2 : Int) := of_decide_eq_true (by first | (with_reducible assumption) | assumption); have q177 : x10_2 < (l0.length : Int) := of_decide_eq_true (by first | (with_reducible assumption) | assumption); obtain ⟨ad177, A177_0, c177_0, e177, hx177_0, hl177_0, hi177_0⟩ := at_L1 HR0.out x10_2 p177 q177; obtain rfl : ad174 = ad177 := (by injection e177); have HR177_0 := Aside0.mk hi177_0; have HC177_0 := Aside0.mk hl177_0; clear hi177_0 hl177_0; replace p177 := eq_true p177; replace q177 := eq_true q177; have ea_ := Option.some.inj (hx174_0.symm.trans hx177_0); injection ea_ with ea_ en_ ec_; subst ea_; subst ec_; clear en_; have p178 : 0 ≤ (x7_1 : Int) := of_decide_eq_true (by first | (with_reducible assumption) | assumption); have q178 : x7_1 < (l0.length : Int) := of_decide_eq_true (by first | (with_reducible assumption) | assumption); obtain ⟨ad178, A178_0, c178_0, e178, hx178_0, hl178_0, hi178_0⟩ := at_L1 HR0.out x7_1 p178 q178; obtain rfl : ad174 = ad178 := (by injection e178); have HR178_0 := Aside0.mk hi178_0; have HC178_0 := Aside0.mk hl178_0; clear hi178_0 hl178_0; replace p178 := eq_true p178; replace q178 := eq_true q178; have ea_ := Option.some.inj (hx175_0.symm.trans hx178_0); injection ea_ with ea_ en_ ec_; subst ea_; subst ec_; clear en_) | (go_at_call 12; (with_reducible refine (spec_SameBag.calls k2 _ _ (rd_L1 l0 x10_2) _ _ (rd_L1 l0 x7_1) t179 _ ?side1 ?side2 ?side3 ?side4 A14.out).mono ?_); (case side1 => repeat (first | exact HR177_0.out | (with_reducible refine Kd.C_alloc ?_ _) | (with_reducible refine Kd.C_drewN ?_ _) | (with_reducible refine Kd.C_drew ?_))); (case side2 => exact HC177_0.out); (case side3 => repeat (first | exact HR178_0.out | (with_reducible refine Kd.C_alloc ?_ _) | (with_reducible refine Kd.C_drewN ?_ _) | (with_reducible refine Kd.C_drew ?_))); (case side4 => exact HC178_0.out); rintro e w' ⟨rfl, ⟨nd, rfl⟩⟩; (try first | exact ⟨rfl, _, World.drewN_drewN _ _ _⟩ | exact ⟨rfl, _, Eq.trans (World.drewN_drewN _ _ _) (congrArg (World.drewN _) (Nat.add_assoc _ _ _))⟩))); try go_wp2_with (first | (go_at_call 36; (with_reducible refine (spec_SameList.calls k2 _ _ (rd_L1 l0 x10_2) _ _ (rd_L1 l0 x7_1) false _ ?side1 ?side2 ?side3 ?side4 A11.out).mono ?_); (case side1 => repeat (first | exact HR174_0.out | (with_reducible refine Kd.C_alloc ?_ _) | (with_reducible refine Kd.C_drewN ?_ _) | (with_reducible refine Kd.C_drew ?_))); (case side2 => exact HC174_0.out); (case side3 => repeat (first | exact HR175_0.out | (with_reducible refine Kd.C_alloc ?_ _) | (with_reducible refine Kd.C_drewN ?_ _) | (with_reducible refine Kd.C_drew ?_))); (case side4 => exact HC175_0.out); rintro e w' ⟨rfl, ⟨nd, rfl⟩⟩; (try first | exact ⟨rfl, _, World.drewN_drewN _ _ _⟩ | exact ⟨rfl, _, Eq.trans (World.drewN_drewN _ _ _) (congrArg (World.drewN _) (Nat.add_assoc _ _ _))⟩); have p177 : 0 ≤ (x10_2 : Int) := of_decide_eq_true (by first | (with_reducible assumption) | assumption); have q177 : x10_2 < (l0.length : Int) := of_decide_eq_true (by first | (with_reducible assumption) | assumption); obtain ⟨ad177, A177_0, c177_0, e177, hx177_0, hl177_0, hi177_0⟩ := at_L1 HR0.out x10_2 p177 q177; obtain rfl : ad174 = ad177 := (by injection e177); have HR177_0 := Aside0.mk hi177_0; have HC177_0 := Aside0.mk hl177_0; clear hi177_0 hl177_0; replace p177 := eq_true p177; replace q177 := eq_true q177; have ea_ := Option.some.inj (hx174_0.symm.trans hx177_0); injection ea_ with ea_ en_ ec_; subst ea_; subst ec_; clear en_; have p178 : 0 ≤ (x7_1 : Int) := of_decide_eq_true (by first | (with_reducible assumption) | assumption); have q178 : x7_1 < (l0.length : Int) := of_decide_eq_true (by first | (with_reducible assumption) | assumption); obtain ⟨ad178, A178_0, c178_0, e178, hx178_0, hl178_0, hi178_0⟩ := at_L1 HR0.out x7_1 p178 q178; obtain rfl : ad174 = ad178 := (by injection e178); have HR178_0 := Aside0.mk hi178_0; have HC178_0 := Aside0.mk hl178_0; clear hi178_0 hl178_0; replace p178 := eq_true p178; replace q178 := eq_true q178; have ea_ := Option.some.inj (hx175_0.symm.trans hx178_0); injection ea_ with ea_ en_ ec_; subst ea_; subst ec_; clear en_) | (go_at_call 12; (with_reducible refine (spec_SameBag.calls k2 _ _ (rd_L1 l0 x10_2) _ _ (rd_L1 l0 x7_1) t179 _ ?side1 ?side2 ?side3 ?side4 A14.out).mono ?_); (case side1 => repeat (first | exact HR177_0.out | (with_reducible refine Kd.C_alloc ?_ _) | (with_reducible refine Kd.C_drewN ?_ _) | (with_reducible refine Kd.C_drew ?_))); (case side2 => exact HC177_0.out); (case side3 => repeat (first | exact HR178_0.out | (with_reducible refine Kd.C_alloc ?_ _) | (with_reducible refine Kd.C_drewN ?_ _) | (with_reducible refine Kd.C_drew ?_))); (case side4 => exact HC178_0.out); rintro e w' ⟨rfl, ⟨nd, rfl⟩⟩; (try first | exact ⟨rfl, _, World.drewN_drewN _ _ _⟩ | exact ⟨rfl, _, Eq.trans (World.drewN_drewN _ _ _) (congrArg (World.drewN _) (Nat.add_assoc _ _ _))⟩))))
                            go_meet
                            case rel => exact ⟨_, (t179), (by first | rfl | (simp; done) | (simp [*]; done)), H', ⟨by have := HK1.out; have := HK2.out; first | omega | exact Nat.le_refl _⟩, by repeat (first | exact Drawn0.refl _ | apply Drawn0.step)⟩
                          · replace c13 := Bool.eq_false_iff.mpr c13
                            subst c13
                            have H1 : (spec_SameRowBag.j2 k2 l0 l1 false x7_1 x8_2 x9_2 x10_2 false) = some r := by rw [if_neg (show ¬ (false = true) by decide)] at H; exact H
                            clear H
                            have H := H1
                            clear H1
                            have H' := Aside0.mk H
                            clear H
                            have p174 : 0 ≤ (x10_2 : Int) := of_decide_eq_true (by first | (with_reducible assumption) | assumption)
                            have q174 : x10_2 < (l0.length : Int) := of_decide_eq_true (by first | (with_reducible assumption) | assumption)
                            obtain ⟨ad174, A174_0, c174_0, e174, hx174_0, hl174_0, hi174_0⟩ := at_L1 HR0.out x10_2 p174 q174
                            cases e174
                            have HR174_0 := Aside0.mk hi174_0
                            have HC174_0 := Aside0.mk hl174_0
                            clear hi174_0 hl174_0
                            replace p174 := eq_true p174
                            replace q174 := eq_true q174
                            have p175 : 0 ≤ (x7_1 : Int) := of_decide_eq_true (by first | (with_reducible assumption) | assumption)
                            have q175 : x7_1 < (l0.length : Int) := of_decide_eq_true (by first | (with_reducible assumption) | assumption)
                            obtain ⟨ad175, A175_0, c175_0, e175, hx175_0, hl175_0, hi175_0⟩ := at_L1 HR0.out x7_1 p175 q175
                            obtain rfl : ad174 = ad175 := (by injection e175)
                            have HR175_0 := Aside0.mk hi175_0
                            have HC175_0 := Aside0.mk hl175_0
                            clear hi175_0 hl175_0
                            replace p175 := eq_true p175
                            replace q175 := eq_true q175
                            go_wp2_with (first | (go_at_call 36; (with_reducible refine (spec_SameList.calls k2 _ _ (rd_L1 l0 x10_2) _ _ (rd_L1 l0 x7_1) false _ ?side1 ?side2 ?side3 ?side4 A11.out).mono ?_); (case side1 => repeat (first | exact HR174_0.out | (with_reducible refine Kd.C_alloc ?_ _) | (with_reducible refine Kd.C_drewN ?_ _) | (with_reducible refine Kd.C_drew ?_))); (case side2 => exact HC174_0.out); (case side3 => repeat (first | exact HR175_0.out | (with_reducible refine Kd.C_alloc ?_ _) | (with_reducible refine Kd.C_drewN ?_ _) | (with_reducible refine Kd.C_drew ?_))); (case side4 => exact HC175_0.out); rintro e w' ⟨rfl, ⟨nd, rfl⟩⟩; (try first | exact ⟨rfl, _, World.drewN_drewN _ _ _⟩ | exact ⟨rfl, _, Eq.trans (World.drewN_drewN _ _ _) (congrArg (World.drewN _) (Nat.add_assoc _ _ _))⟩)))
                            repeat (go_quiet (first | (go_at_call 36; (with_reducible refine (spec_SameList.calls k2 _ _ (rd_L1 l0 x10_2) _ _ (rd_L1 l0 x7_1) false _ ?side1 ?side2 ?side3 ?side4 A11.out).mono ?_); (case side1 => repeat (first | exact HR174_0.out | (with_reducible refine Kd.C_alloc ?_ _) | (with_reducible refine Kd.C_drewN ?_ _) | (with_reducible refine Kd.C_drew ?_))); (case side2 => exact HC174_0.out); (case side3 => repeat (first | exact HR175_0.out | (with_reducible refine Kd.C_alloc ?_ _) | (with_reducible refine Kd.C_drewN ?_ _) | (with_reducible refine Kd.C_drew ?_))); (case side4 => exact HC175_0.out); rintro e w' ⟨rfl, ⟨nd, rfl⟩⟩; (try first | exact ⟨rfl, _, World.drewN_drewN _ _ _⟩ | exact ⟨rfl, _, Eq.trans (World.drewN_drewN _ _ _) (congrArg (World.drewN _) (Nat.add_assoc _ _ _))⟩))); try go_wp2_with (first | (go_at_call 36; (with_reducible refine (spec_SameList.calls k2 _ _ (rd_L1 l0 x10_2) _ _ (rd_L1 l0 x7_1) false _ ?side1 ?side2 ?side3 ?side4 A11.out).mono ?_); (case side1 => repeat (first | exact HR174_0.out | (with_reducible refine Kd.C_alloc ?_ _) | (with_reducible refine Kd.C_drewN ?_ _) | (with_reducible refine Kd.C_drew ?_))); (case side2 => exact HC174_0.out); (case side3 => repeat (first | exact HR175_0.out | (with_reducible refine Kd.C_alloc ?_ _) | (with_reducible refine Kd.C_drewN ?_ _) | (with_reducible refine Kd.C_drew ?_))); (case side4 => exact HC175_0.out); rintro e w' ⟨rfl, ⟨nd, rfl⟩⟩; (try first | exact ⟨rfl, _, World.drewN_drewN _ _ _⟩ | exact ⟨rfl, _, Eq.trans (World.drewN_drewN _ _ _) (congrArg (World.drewN _) (Nat.add_assoc _ _ _))⟩))))
                            go_meet
                            case rel => exact ⟨_, (false), (by first | rfl | (simp; done) | (simp [*]; done)), H', ⟨by have := HK1.out; have := HK2.out; first | omega | exact Nat.le_refl _⟩, by repeat (first | exact Drawn0.refl _ | apply Drawn0.step)⟩
                      · rw [if_neg c10] at H
                        exact absurd H (by simp)
                    · rw [if_neg c9] at H
                      exact absurd H (by simp)
                  · rw [if_neg c8] at H
                    exact absurd H (by simp)
                case rest =>
                  clear HC7
                  try clear c1
                  try clear p1
                  try clear q1
                  try clear hx1
                  try clear c2
                  try clear p2
                  try clear c4
                  try clear c4b0
                  try clear c4b1
                  try clear c4b2
                  try clear c5
                  try clear c5b0
                  try clear c6
                  try clear c6b0
                  try clear c8
                  try clear c8b0
                  try clear c9
                  try clear c9b0
                  try clear c10
                  try clear c10b0
                  try clear c12
                  try clear c13
                  try clear hx174_0
                  try clear hx175_0
                  try clear hx177_0
                  try clear hx178_0
                  try clear p174
                  try clear p175
                  try clear p177
                  try clear p178
                  try clear p2
                  try clear q174
                  try clear q175
                  try clear q177
                  try clear q178
                  obtain ⟨kq, x50_6, rfl, HA, HJ6, ⟨mc6, rfl⟩⟩ := hcut
                  cases kq with
                  | zero => exact absurd HA.out (by simp [spec_SameRowBag.j2])
                  | succ kj6 =>
                    have H := HA.out
                    clear HA
                    simp only [spec_SameRowBag.j2] at H
                    have HC15 := Aside0.mk H
                    clear H
                    go_upto_if 50 with (fail)
                    repeat (go_quiet (fail); go_upto_if 50 with (fail))
                    go_cut [8] (fun v8 wc => ∃ (kq : Nat) (x8_14 : Int), v8 = .int .i64 x8_14 ∧ Aside0 (spec_SameRowBag.j3 kq l0 l1 a2 x7_1 x8_14 x9_2 x10_2 = some r) ∧ Aside0 (kq ≤ kj6) ∧ Drawn0 w wc)
                    case first =>
                      have H := HC15.out
                      clear HC15
                      by_cases c16 : x50_6 = true
                      · subst c16
                        have H1 : (spec_SameRowBag.j3 kj6 l0 l1 a2 x7_1 (wrap64 (x8_2 + 1)) x9_2 x10_2) = some r := by rw [if_pos rfl] at H; exact H
                        clear H
                        have H := H1
                        clear H1
                        have H' := Aside0.mk H
                        clear H
                        go_wp2
                        repeat (go_quiet (fail); try go_wp2)
                        go_meet
                        case rel => exact ⟨_, (wrap64 (x8_2 + 1)), (by first | rfl | (simp; done) | (simp [*]; done)), H', ⟨by have := HK1.out; have := HK2.out; have := HJ6.out; first | omega | exact Nat.le_refl _⟩, by repeat (first | exact Drawn0.refl _ | apply Drawn0.step)⟩
                      · replace c16 := Bool.eq_false_iff.mpr c16
                        subst c16
                        have H1 : (spec_SameRowBag.j3 kj6 l0 l1 a2 x7_1 x8_2 x9_2 x10_2) = some r := by rw [if_neg (show ¬ (false = true) by decide)] at H; exact H
                        clear H
                        have H := H1
                        clear H1
                        have H' := Aside0.mk H
                        clear H
                        go_wp2
                        repeat (go_quiet (fail); try go_wp2)
                        go_meet
                        case rel => exact ⟨_, (x8_2), (by first | rfl | (simp; done) | (simp [*]; done)), H', ⟨by have := HK1.out; have := HK2.out; have := HJ6.out; first | omega | exact Nat.le_refl _⟩, by repeat (first | exact Drawn0.refl _ | apply Drawn0.step)⟩
                    case rest =>
                      clear HC15
                      try clear c1
                      try clear p1
                      try clear q1
                      try clear hx1
                      try clear c2
                      try clear p2
                      try clear c4
                      try clear c4b0
                      try clear c4b1
                      try clear c4b2
                      try clear c5
                      try clear c5b0
                      try clear c6
                      try clear c6b0
                      try clear p6
                      try clear c8
                      try clear c8b0
                      try clear c9
                      try clear c9b0
                      try clear c10
                      try clear c10b0
                      try clear c12
                      try clear c13
                      try clear c16
                      try clear hx174_0
                      try clear hx175_0
                      try clear hx177_0
                      try clear hx178_0
                      try clear p1
                      try clear p174
                      try clear p175
                      try clear p177
                      try clear p178
                      try clear p2
                      try clear q1
                      try clear q174
                      try clear q175
                      try clear q177
                      try clear q178
                      obtain ⟨kq, x8_14, rfl, HA, HJ14, ⟨mc14, rfl⟩⟩ := hcut
                      cases kq with
                      | zero => exact absurd HA.out (by simp [spec_SameRowBag.j3])
                      | succ kj14 =>
                        have H := HA.out
                        clear HA
                        simp only [spec_SameRowBag.j3] at H
                        by_cases c17 : 0 ≤ x10_2
                        · rw [if_pos c17] at H
                          have c17b0 : decide (0 ≤ x10_2) = true := decide_eq_true c17
                          clear c17
                          by_cases c18 : x10_2 < (l1.length : Int)
                          · rw [if_pos c18] at H
                            have c18b0 : decide (x10_2 < (l1.length : Int)) = true := decide_eq_true c18
                            clear c18
                            by_cases c19 : 0 ≤ x7_1
                            · rw [if_pos c19] at H
                              have c19b0 : decide (0 ≤ x7_1) = true := decide_eq_true c19
                              clear c19
                              by_cases c20 : x7_1 < (l0.length : Int)
                              · rw [if_pos c20] at H
                                have c20b0 : decide (x7_1 < (l0.length : Int)) = true := decide_eq_true c20
                                clear c20
                                replace H := Option.bind_eq_some_iff.mp H
                                obtain ⟨t182, A210, H⟩ := H
                                replace H : (if t182 = true then (spec_SameRowBag.l1 kj14 l0 l1 a2 x7_1 x8_14 (wrap64 (x9_2 + 1)) (wrap64 (x10_2 + 1))) else (if a2 = true then ((spec_SameBag.f kj14 (rd_L1 l1 x10_2) (rd_L1 l0 x7_1)).bind fun t185 => (if t185 = true then (spec_SameRowBag.l1 kj14 l0 l1 a2 x7_1 x8_14 (wrap64 (x9_2 + 1)) (wrap64 (x10_2 + 1))) else (spec_SameRowBag.l1 kj14 l0 l1 a2 x7_1 x8_14 x9_2 (wrap64 (x10_2 + 1))))) else (spec_SameRowBag.l1 kj14 l0 l1 a2 x7_1 x8_14 x9_2 (wrap64 (x10_2 + 1))))) = some r := H
                                have A21 := Aside0.mk A210
                                clear A210
                                by_cases c22 : t182 = true
                                · subst c22
                                  have H1 : (spec_SameRowBag.l1 kj14 l0 l1 a2 x7_1 x8_14 (wrap64 (x9_2 + 1)) (wrap64 (x10_2 + 1))) = some r := by rw [if_pos rfl] at H; exact H
                                  clear H
                                  have H := H1
                                  clear H1
                                  have H' := Aside0.mk H
                                  clear H
                                  have p180 : 0 ≤ (x10_2 : Int) := of_decide_eq_true (by first | (with_reducible assumption) | assumption)
                                  have q180 : x10_2 < (l1.length : Int) := of_decide_eq_true (by first | (with_reducible assumption) | assumption)
                                  obtain ⟨ad180, A180_0, c180_0, e180, hx180_0, hl180_0, hi180_0⟩ := at_L1 HR1.out x10_2 p180 q180
                                  cases e180
                                  have HR180_0 := Aside0.mk hi180_0
                                  have HC180_0 := Aside0.mk hl180_0
                                  clear hi180_0 hl180_0
                                  replace p180 := eq_true p180
                                  replace q180 := eq_true q180
                                  have p181 : 0 ≤ (x7_1 : Int) := of_decide_eq_true (by first | (with_reducible assumption) | assumption)
                                  have q181 : x7_1 < (l0.length : Int) := of_decide_eq_true (by first | (with_reducible assumption) | assumption)
                                  obtain ⟨ad181, A181_0, c181_0, e181, hx181_0, hl181_0, hi181_0⟩ := at_L1 HR0.out x7_1 p181 q181
                                  cases e181
                                  have HR181_0 := Aside0.mk hi181_0
                                  have HC181_0 := Aside0.mk hl181_0
                                  clear hi181_0 hl181_0
                                  replace p181 := eq_true p181
                                  replace q181 := eq_true q181
                                  go_wp2_with (first | (go_at_call 36; (with_reducible refine (spec_SameList.calls kj14 _ _ (rd_L1 l1 x10_2) _ _ (rd_L1 l0 x7_1) true _ ?side1 ?side2 ?side3 ?side4 A21.out).mono ?_); (case side1 => repeat (first | exact HR180_0.out | (with_reducible refine Kd.C_alloc ?_ _) | (with_reducible refine Kd.C_drewN ?_ _) | (with_reducible refine Kd.C_drew ?_))); (case side2 => exact HC180_0.out); (case side3 => repeat (first | exact HR181_0.out | (with_reducible refine Kd.C_alloc ?_ _) | (with_reducible refine Kd.C_drewN ?_ _) | (with_reducible refine Kd.C_drew ?_))); (case side4 => exact HC181_0.out); rintro e w' ⟨rfl, ⟨nd, rfl⟩⟩; (try first | exact ⟨rfl, _, World.drewN_drewN _ _ _⟩ | exact ⟨rfl, _, Eq.trans (World.drewN_drewN _ _ _) (congrArg (World.drewN _) (Nat.add_assoc _ _ _))⟩)))
                                  repeat (go_quiet (first | (go_at_call 36; (with_reducible refine (spec_SameList.calls kj14 _ _ (rd_L1 l1 x10_2) _ _ (rd_L1 l0 x7_1) true _ ?side1 ?side2 ?side3 ?side4 A21.out).mono ?_); (case side1 => repeat (first | exact HR180_0.out | (with_reducible refine Kd.C_alloc ?_ _) | (with_reducible refine Kd.C_drewN ?_ _) | (with_reducible refine Kd.C_drew ?_))); (case side2 => exact HC180_0.out); (case side3 => repeat (first | exact HR181_0.out | (with_reducible refine Kd.C_alloc ?_ _) | (with_reducible refine Kd.C_drewN ?_ _) | (with_reducible refine Kd.C_drew ?_))); (case side4 => exact HC181_0.out); rintro e w' ⟨rfl, ⟨nd, rfl⟩⟩; (try first | exact ⟨rfl, _, World.drewN_drewN _ _ _⟩ | exact ⟨rfl, _, Eq.trans (World.drewN_drewN _ _ _) (congrArg (World.drewN _) (Nat.add_assoc _ _ _))⟩))); try go_wp2_with (first | (go_at_call 36; (with_reducible refine (spec_SameList.calls kj14 _ _ (rd_L1 l1 x10_2) _ _ (rd_L1 l0 x7_1) true _ ?side1 ?side2 ?side3 ?side4 A21.out).mono ?_); (case side1 => repeat (first | exact HR180_0.out | (with_reducible refine Kd.C_alloc ?_ _) | (with_reducible refine Kd.C_drewN ?_ _) | (with_reducible refine Kd.C_drew ?_))); (case side2 => exact HC180_0.out); (case side3 => repeat (first | exact HR181_0.out | (with_reducible refine Kd.C_alloc ?_ _) | (with_reducible refine Kd.C_drewN ?_ _) | (with_reducible refine Kd.C_drew ?_))); (case side4 => exact HC181_0.out); rintro e w' ⟨rfl, ⟨nd, rfl⟩⟩; (try first | exact ⟨rfl, _, World.drewN_drewN _ _ _⟩ | exact ⟨rfl, _, Eq.trans (World.drewN_drewN _ _ _) (congrArg (World.drewN _) (Nat.add_assoc _ _ _))⟩))))
                                  go_roundg kj14
                                  case measure => have := HK1.out; have := HK2.out; have := HJ6.out; have := HJ14.out; omega
                                  case rel => exact ⟨(x8_14), (wrap64 (x9_2 + 1)), (wrap64 (x10_2 + 1)), (by first | rfl | (simp; done) | (simp [*]; done)), (by first | rfl | (simp; done) | (simp [*]; done)), (by first | rfl | (simp; done) | (simp [*]; done)), H', ⟨by have := HK1.out; have := HK2.out; have := HJ6.out; have := HJ14.out; omega⟩, by repeat (first | exact Drawn0.refl _ | apply Drawn0.step)⟩
                                · replace c22 := Bool.eq_false_iff.mpr c22
                                  subst c22
                                  have H1 : (if a2 = true then ((spec_SameBag.f kj14 (rd_L1 l1 x10_2) (rd_L1 l0 x7_1)).bind fun t185 => (if t185 = true then (spec_SameRowBag.l1 kj14 l0 l1 a2 x7_1 x8_14 (wrap64 (x9_2 + 1)) (wrap64 (x10_2 + 1))) else (spec_SameRowBag.l1 kj14 l0 l1 a2 x7_1 x8_14 x9_2 (wrap64 (x10_2 + 1))))) else (spec_SameRowBag.l1 kj14 l0 l1 a2 x7_1 x8_14 x9_2 (wrap64 (x10_2 + 1)))) = some r := by rw [if_neg (show ¬ (false = true) by decide)] at H; exact H
                                  clear H
                                  have H := H1
                                  clear H1
                                  by_cases c23 : a2 = true
                                  · subst c23
                                    have H1 : ((spec_SameBag.f kj14 (rd_L1 l1 x10_2) (rd_L1 l0 x7_1)).bind fun t185 => (if t185 = true then (spec_SameRowBag.l1 kj14 l0 l1 true x7_1 x8_14 (wrap64 (x9_2 + 1)) (wrap64 (x10_2 + 1))) else (spec_SameRowBag.l1 kj14 l0 l1 true x7_1 x8_14 x9_2 (wrap64 (x10_2 + 1))))) = some r := by rw [if_pos rfl] at H; exact H
                                    clear H
                                    have H := H1
                                    clear H1
                                    replace H := Option.bind_eq_some_iff.mp H
                                    obtain ⟨t185, A240, H⟩ := H
                                    replace H : (if t185 = true then (spec_SameRowBag.l1 kj14 l0 l1 true x7_1 x8_14 (wrap64 (x9_2 + 1)) (wrap64 (x10_2 + 1))) else (spec_SameRowBag.l1 kj14 l0 l1 true x7_1 x8_14 x9_2 (wrap64 (x10_2 + 1)))) = some r := H
                                    have A24 := Aside0.mk A240
                                    clear A240
                                    by_cases c25 : t185 = true
                                    · subst c25
                                      have H1 : (spec_SameRowBag.l1 kj14 l0 l1 true x7_1 x8_14 (wrap64 (x9_2 + 1)) (wrap64 (x10_2 + 1))) = some r := by rw [if_pos rfl] at H; exact H
                                      clear H
                                      have H := H1
                                      clear H1
                                      have H' := Aside0.mk H
                                      clear H
                                      have p180 : 0 ≤ (x10_2 : Int) := of_decide_eq_true (by first | (with_reducible assumption) | assumption)
                                      have q180 : x10_2 < (l1.length : Int) := of_decide_eq_true (by first | (with_reducible assumption) | assumption)
                                      obtain ⟨ad180, A180_0, c180_0, e180, hx180_0, hl180_0, hi180_0⟩ := at_L1 HR1.out x10_2 p180 q180
                                      cases e180
                                      have HR180_0 := Aside0.mk hi180_0
                                      have HC180_0 := Aside0.mk hl180_0
                                      clear hi180_0 hl180_0
                                      replace p180 := eq_true p180
                                      replace q180 := eq_true q180
                                      have p181 : 0 ≤ (x7_1 : Int) := of_decide_eq_true (by first | (with_reducible assumption) | assumption)
                                      have q181 : x7_1 < (l0.length : Int) := of_decide_eq_true (by first | (with_reducible assumption) | assumption)
                                      obtain ⟨ad181, A181_0, c181_0, e181, hx181_0, hl181_0, hi181_0⟩ := at_L1 HR0.out x7_1 p181 q181
                                      cases e181
                                      have HR181_0 := Aside0.mk hi181_0
                                      have HC181_0 := Aside0.mk hl181_0
                                      clear hi181_0 hl181_0
                                      replace p181 := eq_true p181
                                      replace q181 := eq_true q181
                                      go_wp2_with (first | (go_at_call 36; (with_reducible refine (spec_SameList.calls kj14 _ _ (rd_L1 l1 x10_2) _ _ (rd_L1 l0 x7_1) false _ ?side1 ?side2 ?side3 ?side4 A21.out).mono ?_); (case side1 => repeat (first | exact HR180_0.out | (with_reducible refine Kd.C_alloc ?_ _) | (with_reducible refine Kd.C_drewN ?_ _) | (with_reducible refine Kd.C_drew ?_))); (case side2 => exact HC180_0.out); (case side3 => repeat (first | exact HR181_0.out | (with_reducible refine Kd.C_alloc ?_ _) | (with_reducible refine Kd.C_drewN ?_ _) | (with_reducible refine Kd.C_drew ?_))); (case side4 => exact HC181_0.out); rintro e w' ⟨rfl, ⟨nd, rfl⟩⟩; (try first | exact ⟨rfl, _, World.drewN_drewN _ _ _⟩ | exact ⟨rfl, _, Eq.trans (World.drewN_drewN _ _ _) (congrArg (World.drewN _) (Nat.add_assoc _ _ _))⟩); have p183 : 0 ≤ (x10_2 : Int) := of_decide_eq_true (by first | (with_reducible assumption) | assumption); have q183 : x10_2 < (l1.length : Int) := of_decide_eq_true (by first | (with_reducible assumption) | assumption); obtain ⟨ad183, A183_0, c183_0, e183, hx183_0, hl183_0, hi183_0⟩ := at_L1 HR1.out x10_2 p183 q183; obtain rfl : ad180 = ad183 := (by injection e183); have HR183_0 := Aside0.mk hi183_0; have HC183_0 := Aside0.mk hl183_0; clear hi183_0 hl183_0; replace p183 := eq_true p183; replace q183 := eq_true q183; have ea_ := Option.some.inj (hx180_0.symm.trans hx183_0); injection ea_ with ea_ en_ ec_; subst ea_; subst ec_; clear en_; have p184 : 0 ≤ (x7_1 : Int) := of_decide_eq_true (by first | (with_reducible assumption) | assumption); have q184 : x7_1 < (l0.length : Int) := of_decide_eq_true (by first | (with_reducible assumption) | assumption); obtain ⟨ad184, A184_0, c184_0, e184, hx184_0, hl184_0, hi184_0⟩ := at_L1 HR0.out x7_1 p184 q184; obtain rfl : ad181 = ad184 := (by injection e184); have HR184_0 := Aside0.mk hi184_0; have HC184_0 := Aside0.mk hl184_0; clear hi184_0 hl184_0; replace p184 := eq_true p184; replace q184 := eq_true q184; have ea_ := Option.some.inj (hx181_0.symm.trans hx184_0); injection ea_ with ea_ en_ ec_; subst ea_; subst ec_; clear en_) | (go_at_call 12; (with_reducible refine (spec_SameBag.calls kj14 _ _ (rd_L1 l1 x10_2) _ _ (rd_L1 l0 x7_1) true _ ?side1 ?side2 ?side3 ?side4 A24.out).mono ?_); (case side1 => repeat (first | exact HR183_0.out | (with_reducible refine Kd.C_alloc ?_ _) | (with_reducible refine Kd.C_drewN ?_ _) | (with_reducible refine Kd.C_drew ?_))); (case side2 => exact HC183_0.out); (case side3 => repeat (first | exact HR184_0.out | (with_reducible refine Kd.C_alloc ?_ _) | (with_reducible refine Kd.C_drewN ?_ _) | (with_reducible refine Kd.C_drew ?_))); (case side4 => exact HC184_0.out); rintro e w' ⟨rfl, ⟨nd, rfl⟩⟩; (try first | exact ⟨rfl, _, World.drewN_drewN _ _ _⟩ | exact ⟨rfl, _, Eq.trans (World.drewN_drewN _ _ _) (congrArg (World.drewN _) (Nat.add_assoc _ _ _))⟩)))
                                      repeat (go_quiet (first | (go_at_call 36; (with_reducible refine (spec_SameList.calls kj14 _ _ (rd_L1 l1 x10_2) _ _ (rd_L1 l0 x7_1) false _ ?side1 ?side2 ?side3 ?side4 A21.out).mono ?_); (case side1 => repeat (first | exact HR180_0.out | (with_reducible refine Kd.C_alloc ?_ _) | (with_reducible refine Kd.C_drewN ?_ _) | (with_reducible refine Kd.C_drew ?_))); (case side2 => exact HC180_0.out); (case side3 => repeat (first | exact HR181_0.out | (with_reducible refine Kd.C_alloc ?_ _) | (with_reducible refine Kd.C_drewN ?_ _) | (with_reducible refine Kd.C_drew ?_))); (case side4 => exact HC181_0.out); rintro e w' ⟨rfl, ⟨nd, rfl⟩⟩; (try first | exact ⟨rfl, _, World.drewN_drewN _ _ _⟩ | exact ⟨rfl, _, Eq.trans (World.drewN_drewN _ _ _) (congrArg (World.drewN _) (Nat.add_assoc _ _ _))⟩); have p183 : 0 ≤ (x10_2 : Int) := of_decide_eq_true (by first | (with_reducible assumption) | assumption); have q183 : x10_2 < (l1.length : Int) := of_decide_eq_true (by first | (with_reducible assumption) | assumption); obtain ⟨ad183, A183_0, c183_0, e183, hx183_0, hl183_0, hi183_0⟩ := at_L1 HR1.out x10_2 p183 q183; obtain rfl : ad180 = ad183 := (by injection e183); have HR183_0 := Aside0.mk hi183_0; have HC183_0 := Aside0.mk hl183_0; clear hi183_0 hl183_0; replace p183 := eq_true p183; replace q183 := eq_true q183; have ea_ := Option.some.inj (hx180_0.symm.trans hx183_0); injection ea_ with ea_ en_ ec_; subst ea_; subst ec_; clear en_; have p184 : 0 ≤ (x7_1 : Int) := of_decide_eq_true (by first | (with_reducible assumption) | assumption); have q184 : x7_1 < (l0.length : Int) := of_decide_eq_true (by first | (with_reducible assumption) | assumption); obtain ⟨ad184, A184_0, c184_0, e184, hx184_0, hl184_0, hi184_0⟩ := at_L1 HR0.out x7_1 p184 q184; obtain rfl : ad181 = ad184 := (by injection e184); have HR184_0 := Aside0.mk hi184_0; have HC184_0 := Aside0.mk hl184_0; clear hi184_0 hl184_0; replace p184 := eq_true p184; replace q184 := eq_true q184; have ea_ := Option.some.inj (hx181_0.symm.trans hx184_0); injection ea_ with ea_ en_ ec_; subst ea_; subst ec_; clear en_) | (go_at_call 12; (with_reducible refine (spec_SameBag.calls kj14 _ _ (rd_L1 l1 x10_2) _ _ (rd_L1 l0 x7_1) true _ ?side1 ?side2 ?side3 ?side4 A24.out).mono ?_); (case side1 => repeat (first | exact HR183_0.out | (with_reducible refine Kd.C_alloc ?_ _) | (with_reducible refine Kd.C_drewN ?_ _) | (with_reducible refine Kd.C_drew ?_))); (case side2 => exact HC183_0.out); (case side3 => repeat (first | exact HR184_0.out | (with_reducible refine Kd.C_alloc ?_ _) | (with_reducible refine Kd.C_drewN ?_ _) | (with_reducible refine Kd.C_drew ?_))); (case side4 => exact HC184_0.out); rintro e w' ⟨rfl, ⟨nd, rfl⟩⟩; (try first | exact ⟨rfl, _, World.drewN_drewN _ _ _⟩ | exact ⟨rfl, _, Eq.trans (World.drewN_drewN _ _ _) (congrArg (World.drewN _) (Nat.add_assoc _ _ _))⟩))); try go_wp2_with (first | (go_at_call 36; (with_reducible refine (spec_SameList.calls kj14 _ _ (rd_L1 l1 x10_2) _ _ (rd_L1 l0 x7_1) false _ ?side1 ?side2 ?side3 ?side4 A21.out).mono ?_); (case side1 => repeat (first | exact HR180_0.out | (with_reducible refine Kd.C_alloc ?_ _) | (with_reducible refine Kd.C_drewN ?_ _) | (with_reducible refine Kd.C_drew ?_))); (case side2 => exact HC180_0.out); (case side3 => repeat (first | exact HR181_0.out | (with_reducible refine Kd.C_alloc ?_ _) | (with_reducible refine Kd.C_drewN ?_ _) | (with_reducible refine Kd.C_drew ?_))); (case side4 => exact HC181_0.out); rintro e w' ⟨rfl, ⟨nd, rfl⟩⟩; (try first | exact ⟨rfl, _, World.drewN_drewN _ _ _⟩ | exact ⟨rfl, _, Eq.trans (World.drewN_drewN _ _ _) (congrArg (World.drewN _) (Nat.add_assoc _ _ _))⟩); have p183 : 0 ≤ (x10_2 : Int) := of_decide_eq_true (by first | (with_reducible assumption) | assumption); have q183 : x10_2 < (l1.length : Int) := of_decide_eq_true (by first | (with_reducible assumption) | assumption); obtain ⟨ad183, A183_0, c183_0, e183, hx183_0, hl183_0, hi183_0⟩ := at_L1 HR1.out x10_2 p183 q183; obtain rfl : ad180 = ad183 := (by injection e183); have HR183_0 := Aside0.mk hi183_0; have HC183_0 := Aside0.mk hl183_0; clear hi183_0 hl183_0; replace p183 := eq_true p183; replace q183 := eq_true q183; have ea_ := Option.some.inj (hx180_0.symm.trans hx183_0); injection ea_ with ea_ en_ ec_; subst ea_; subst ec_; clear en_; have p184 : 0 ≤ (x7_1 : Int) := of_decide_eq_true (by first | (with_reducible assumption) | assumption); have q184 : x7_1 < (l0.length : Int) := of_decide_eq_true (by first | (with_reducible assumption) | assumption); obtain ⟨ad184, A184_0, c184_0, e184, hx184_0, hl184_0, hi184_0⟩ := at_L1 HR0.out x7_1 p184 q184; obtain rfl : ad181 = ad184 := (by injection e184); have HR184_0 := Aside0.mk hi184_0; have HC184_0 := Aside0.mk hl184_0; clear hi184_0 hl184_0; replace p184 := eq_true p184; replace q184 := eq_true q184; have ea_ := Option.some.inj (hx181_0.symm.trans hx184_0); injection ea_ with ea_ en_ ec_; subst ea_; subst ec_; clear en_) | (go_at_call 12; (with_reducible refine (spec_SameBag.calls kj14 _ _ (rd_L1 l1 x10_2) _ _ (rd_L1 l0 x7_1) true _ ?side1 ?side2 ?side3 ?side4 A24.out).mono ?_); (case side1 => repeat (first | exact HR183_0.out | (with_reducible refine Kd.C_alloc ?_ _) | (with_reducible refine Kd.C_drewN ?_ _) | (with_reducible refine Kd.C_drew ?_))); (case side2 => exact HC183_0.out); (case side3 => repeat (first | exact HR184_0.out | (with_reducible refine Kd.C_alloc ?_ _) | (with_reducible refine Kd.C_drewN ?_ _) | (with_reducible refine Kd.C_drew ?_))); (case side4 => exact HC184_0.out); rintro e w' ⟨rfl, ⟨nd, rfl⟩⟩; (try first | exact ⟨rfl, _, World.drewN_drewN _ _ _⟩ | exact ⟨rfl, _, Eq.trans (World.drewN_drewN _ _ _) (congrArg (World.drewN _) (Nat.add_assoc _ _ _))⟩))))
                                      go_roundg kj14
                                      case measure => have := HK1.out; have := HK2.out; have := HJ6.out; have := HJ14.out; omega
                                      case rel => exact ⟨(x8_14), (wrap64 (x9_2 + 1)), (wrap64 (x10_2 + 1)), (by first | rfl | (simp; done) | (simp [*]; done)), (by first | rfl | (simp; done) | (simp [*]; done)), (by first | rfl | (simp; done) | (simp [*]; done)), H', ⟨by have := HK1.out; have := HK2.out; have := HJ6.out; have := HJ14.out; omega⟩, by repeat (first | exact Drawn0.refl _ | apply Drawn0.step)⟩
                                    · replace c25 := Bool.eq_false_iff.mpr c25
                                      subst c25
                                      have H1 : (spec_SameRowBag.l1 kj14 l0 l1 true x7_1 x8_14 x9_2 (wrap64 (x10_2 + 1))) = some r := by rw [if_neg (show ¬ (false = true) by decide)] at H; exact H
                                      clear H
                                      have H := H1
                                      clear H1
                                      have H' := Aside0.mk H
                                      clear H
                                      have p180 : 0 ≤ (x10_2 : Int) := of_decide_eq_true (by first | (with_reducible assumption) | assumption)
                                      have q180 : x10_2 < (l1.length : Int) := of_decide_eq_true (by first | (with_reducible assumption) | assumption)
                                      obtain ⟨ad180, A180_0, c180_0, e180, hx180_0, hl180_0, hi180_0⟩ := at_L1 HR1.out x10_2 p180 q180
                                      cases e180
                                      have HR180_0 := Aside0.mk hi180_0
                                      have HC180_0 := Aside0.mk hl180_0
                                      clear hi180_0 hl180_0
                                      replace p180 := eq_true p180
                                      replace q180 := eq_true q180
                                      have p181 : 0 ≤ (x7_1 : Int) := of_decide_eq_true (by first | (with_reducible assumption) | assumption)
                                      have q181 : x7_1 < (l0.length : Int) := of_decide_eq_true (by first | (with_reducible assumption) | assumption)
                                      obtain ⟨ad181, A181_0, c181_0, e181, hx181_0, hl181_0, hi181_0⟩ := at_L1 HR0.out x7_1 p181 q181
                                      cases e181
                                      have HR181_0 := Aside0.mk hi181_0
                                      have HC181_0 := Aside0.mk hl181_0
                                      clear hi181_0 hl181_0
                                      replace p181 := eq_true p181
                                      replace q181 := eq_true q181
                                      go_wp2_with (first | (go_at_call 36; (with_reducible refine (spec_SameList.calls kj14 _ _ (rd_L1 l1 x10_2) _ _ (rd_L1 l0 x7_1) false _ ?side1 ?side2 ?side3 ?side4 A21.out).mono ?_); (case side1 => repeat (first | exact HR180_0.out | (with_reducible refine Kd.C_alloc ?_ _) | (with_reducible refine Kd.C_drewN ?_ _) | (with_reducible refine Kd.C_drew ?_))); (case side2 => exact HC180_0.out); (case side3 => repeat (first | exact HR181_0.out | (with_reducible refine Kd.C_alloc ?_ _) | (with_reducible refine Kd.C_drewN ?_ _) | (with_reducible refine Kd.C_drew ?_))); (case side4 => exact HC181_0.out); rintro e w' ⟨rfl, ⟨nd, rfl⟩⟩; (try first | exact ⟨rfl, _, World.drewN_drewN _ _ _⟩ | exact ⟨rfl, _, Eq.trans (World.drewN_drewN _ _ _) (congrArg (World.drewN _) (Nat.add_assoc _ _ _))⟩); have p183 : 0 ≤ (x10_2 : Int) := of_decide_eq_true (by first | (with_reducible assumption) | assumption); have q183 : x10_2 < (l1.length : Int) := of_decide_eq_true (by first | (with_reducible assumption) | assumption); obtain ⟨ad183, A183_0, c183_0, e183, hx183_0, hl183_0, hi183_0⟩ := at_L1 HR1.out x10_2 p183 q183; obtain rfl : ad180 = ad183 := (by injection e183); have HR183_0 := Aside0.mk hi183_0; have HC183_0 := Aside0.mk hl183_0; clear hi183_0 hl183_0; replace p183 := eq_true p183; replace q183 := eq_true q183; have ea_ := Option.some.inj (hx180_0.symm.trans hx183_0); injection ea_ with ea_ en_ ec_; subst ea_; subst ec_; clear en_; have p184 : 0 ≤ (x7_1 : Int) := of_decide_eq_true (by first | (with_reducible assumption) | assumption); have q184 : x7_1 < (l0.length : Int) := of_decide_eq_true (by first | (with_reducible assumption) | assumption); obtain ⟨ad184, A184_0, c184_0, e184, hx184_0, hl184_0, hi184_0⟩ := at_L1 HR0.out x7_1 p184 q184; obtain rfl : ad181 = ad184 := (by injection e184); have HR184_0 := Aside0.mk hi184_0; have HC184_0 := Aside0.mk hl184_0; clear hi184_0 hl184_0; replace p184 := eq_true p184; replace q184 := eq_true q184; have ea_ := Option.some.inj (hx181_0.symm.trans hx184_0); injection ea_ with ea_ en_ ec_; subst ea_; subst ec_; clear en_) | (go_at_call 12; (with_reducible refine (spec_SameBag.calls kj14 _ _ (rd_L1 l1 x10_2) _ _ (rd_L1 l0 x7_1) false _ ?side1 ?side2 ?side3 ?side4 A24.out).mono ?_); (case side1 => repeat (first | exact HR183_0.out | (with_reducible refine Kd.C_alloc ?_ _) | (with_reducible refine Kd.C_drewN ?_ _) | (with_reducible refine Kd.C_drew ?_))); (case side2 => exact HC183_0.out); (case side3 => repeat (first | exact HR184_0.out | (with_reducible refine Kd.C_alloc ?_ _) | (with_reducible refine Kd.C_drewN ?_ _) | (with_reducible refine Kd.C_drew ?_))); (case side4 => exact HC184_0.out); rintro e w' ⟨rfl, ⟨nd, rfl⟩⟩; (try first | exact ⟨rfl, _, World.drewN_drewN _ _ _⟩ | exact ⟨rfl, _, Eq.trans (World.drewN_drewN _ _ _) (congrArg (World.drewN _) (Nat.add_assoc _ _ _))⟩)))
                                      repeat (go_quiet (first | (go_at_call 36; (with_reducible refine (spec_SameList.calls kj14 _ _ (rd_L1 l1 x10_2) _ _ (rd_L1 l0 x7_1) false _ ?side1 ?side2 ?side3 ?side4 A21.out).mono ?_); (case side1 => repeat (first | exact HR180_0.out | (with_reducible refine Kd.C_alloc ?_ _) | (with_reducible refine Kd.C_drewN ?_ _) | (with_reducible refine Kd.C_drew ?_))); (case side2 => exact HC180_0.out); (case side3 => repeat (first | exact HR181_0.out | (with_reducible refine Kd.C_alloc ?_ _) | (with_reducible refine Kd.C_drewN ?_ _) | (with_reducible refine Kd.C_drew ?_))); (case side4 => exact HC181_0.out); rintro e w' ⟨rfl, ⟨nd, rfl⟩⟩; (try first | exact ⟨rfl, _, World.drewN_drewN _ _ _⟩ | exact ⟨rfl, _, Eq.trans (World.drewN_drewN _ _ _) (congrArg (World.drewN _) (Nat.add_assoc _ _ _))⟩); have p183 : 0 ≤ (x10_2 : Int) := of_decide_eq_true (by first | (with_reducible assumption) | assumption); have q183 : x10_2 < (l1.length : Int) := of_decide_eq_true (by first | (with_reducible assumption) | assumption); obtain ⟨ad183, A183_0, c183_0, e183, hx183_0, hl183_0, hi183_0⟩ := at_L1 HR1.out x10_2 p183 q183; obtain rfl : ad180 = ad183 := (by injection e183); have HR183_0 := Aside0.mk hi183_0; have HC183_0 := Aside0.mk hl183_0; clear hi183_0 hl183_0; replace p183 := eq_true p183; replace q183 := eq_true q183; have ea_ := Option.some.inj (hx180_0.symm.trans hx183_0); injection ea_ with ea_ en_ ec_; subst ea_; subst ec_; clear en_; have p184 : 0 ≤ (x7_1 : Int) := of_decide_eq_true (by first | (with_reducible assumption) | assumption); have q184 : x7_1 < (l0.length : Int) := of_decide_eq_true (by first | (with_reducible assumption) | assumption); obtain ⟨ad184, A184_0, c184_0, e184, hx184_0, hl184_0, hi184_0⟩ := at_L1 HR0.out x7_1 p184 q184; obtain rfl : ad181 = ad184 := (by injection e184); have HR184_0 := Aside0.mk hi184_0; have HC184_0 := Aside0.mk hl184_0; clear hi184_0 hl184_0; replace p184 := eq_true p184; replace q184 := eq_true q184; have ea_ := Option.some.inj (hx181_0.symm.trans hx184_0); injection ea_ with ea_ en_ ec_; subst ea_; subst ec_; clear en_) | (go_at_call 12; (with_reducible refine (spec_SameBag.calls kj14 _ _ (rd_L1 l1 x10_2) _ _ (rd_L1 l0 x7_1) false _ ?side1 ?side2 ?side3 ?side4 A24.out).mono ?_); (case side1 => repeat (first | exact HR183_0.out | (with_reducible refine Kd.C_alloc ?_ _) | (with_reducible refine Kd.C_drewN ?_ _) | (with_reducible refine Kd.C_drew ?_))); (case side2 => exact HC183_0.out); (case side3 => repeat (first | exact HR184_0.out | (with_reducible refine Kd.C_alloc ?_ _) | (with_reducible refine Kd.C_drewN ?_ _) | (with_reducible refine Kd.C_drew ?_))); (case side4 => exact HC184_0.out); rintro e w' ⟨rfl, ⟨nd, rfl⟩⟩; (try first | exact ⟨rfl, _, World.drewN_drewN _ _ _⟩ | exact ⟨rfl, _, Eq.trans (World.drewN_drewN _ _ _) (congrArg (World.drewN _) (Nat.add_assoc _ _ _))⟩))); try go_wp2_with (first | (go_at_call 36; (with_reducible refine (spec_SameList.calls kj14 _ _ (rd_L1 l1 x10_2) _ _ (rd_L1 l0 x7_1) false _ ?side1 ?side2 ?side3 ?side4 A21.out).mono ?_); (case side1 => repeat (first | exact HR180_0.out | (with_reducible refine Kd.C_alloc ?_ _) | (with_reducible refine Kd.C_drewN ?_ _) | (with_reducible refine Kd.C_drew ?_))); (case side2 => exact HC180_0.out); (case side3 => repeat (first | exact HR181_0.out | (with_reducible refine Kd.C_alloc ?_ _) | (with_reducible refine Kd.C_drewN ?_ _) | (with_reducible refine Kd.C_drew ?_))); (case side4 => exact HC181_0.out); rintro e w' ⟨rfl, ⟨nd, rfl⟩⟩; (try first | exact ⟨rfl, _, World.drewN_drewN _ _ _⟩ | exact ⟨rfl, _, Eq.trans (World.drewN_drewN _ _ _) (congrArg (World.drewN _) (Nat.add_assoc _ _ _))⟩); have p183 : 0 ≤ (x10_2 : Int) := of_decide_eq_true (by first | (with_reducible assumption) | assumption); have q183 : x10_2 < (l1.length : Int) := of_decide_eq_true (by first | (with_reducible assumption) | assumption); obtain ⟨ad183, A183_0, c183_0, e183, hx183_0, hl183_0, hi183_0⟩ := at_L1 HR1.out x10_2 p183 q183; obtain rfl : ad180 = ad183 := (by injection e183); have HR183_0 := Aside0.mk hi183_0; have HC183_0 := Aside0.mk hl183_0; clear hi183_0 hl183_0; replace p183 := eq_true p183; replace q183 := eq_true q183; have ea_ := Option.some.inj (hx180_0.symm.trans hx183_0); injection ea_ with ea_ en_ ec_; subst ea_; subst ec_; clear en_; have p184 : 0 ≤ (x7_1 : Int) := of_decide_eq_true (by first | (with_reducible assumption) | assumption); have q184 : x7_1 < (l0.length : Int) := of_decide_eq_true (by first | (with_reducible assumption) | assumption); obtain ⟨ad184, A184_0, c184_0, e184, hx184_0, hl184_0, hi184_0⟩ := at_L1 HR0.out x7_1 p184 q184; obtain rfl : ad181 = ad184 := (by injection e184); have HR184_0 := Aside0.mk hi184_0; have HC184_0 := Aside0.mk hl184_0; clear hi184_0 hl184_0; replace p184 := eq_true p184; replace q184 := eq_true q184; have ea_ := Option.some.inj (hx181_0.symm.trans hx184_0); injection ea_ with ea_ en_ ec_; subst ea_; subst ec_; clear en_) | (go_at_call 12; (with_reducible refine (spec_SameBag.calls kj14 _ _ (rd_L1 l1 x10_2) _ _ (rd_L1 l0 x7_1) false _ ?side1 ?side2 ?side3 ?side4 A24.out).mono ?_); (case side1 => repeat (first | exact HR183_0.out | (with_reducible refine Kd.C_alloc ?_ _) | (with_reducible refine Kd.C_drewN ?_ _) | (with_reducible refine Kd.C_drew ?_))); (case side2 => exact HC183_0.out); (case side3 => repeat (first | exact HR184_0.out | (with_reducible refine Kd.C_alloc ?_ _) | (with_reducible refine Kd.C_drewN ?_ _) | (with_reducible refine Kd.C_drew ?_))); (case side4 => exact HC184_0.out); rintro e w' ⟨rfl, ⟨nd, rfl⟩⟩; (try first | exact ⟨rfl, _, World.drewN_drewN _ _ _⟩ | exact ⟨rfl, _, Eq.trans (World.drewN_drewN _ _ _) (congrArg (World.drewN _) (Nat.add_assoc _ _ _))⟩))))
                                      go_roundg kj14
                                      case measure => have := HK1.out; have := HK2.out; have := HJ6.out; have := HJ14.out; omega
                                      case rel => exact ⟨(x8_14), (x9_2), (wrap64 (x10_2 + 1)), (by first | rfl | (simp; done) | (simp [*]; done)), (by first | rfl | (simp; done) | (simp [*]; done)), (by first | rfl | (simp; done) | (simp [*]; done)), H', ⟨by have := HK1.out; have := HK2.out; have := HJ6.out; have := HJ14.out; omega⟩, by repeat (first | exact Drawn0.refl _ | apply Drawn0.step)⟩
                                  · replace c23 := Bool.eq_false_iff.mpr c23
                                    subst c23
                                    have H1 : (spec_SameRowBag.l1 kj14 l0 l1 false x7_1 x8_14 x9_2 (wrap64 (x10_2 + 1))) = some r := by rw [if_neg (show ¬ (false = true) by decide)] at H; exact H
                                    clear H
                                    have H := H1
                                    clear H1
                                    have H' := Aside0.mk H
                                    clear H
                                    have p180 : 0 ≤ (x10_2 : Int) := of_decide_eq_true (by first | (with_reducible assumption) | assumption)
                                    have q180 : x10_2 < (l1.length : Int) := of_decide_eq_true (by first | (with_reducible assumption) | assumption)
                                    obtain ⟨ad180, A180_0, c180_0, e180, hx180_0, hl180_0, hi180_0⟩ := at_L1 HR1.out x10_2 p180 q180
                                    cases e180
                                    have HR180_0 := Aside0.mk hi180_0
                                    have HC180_0 := Aside0.mk hl180_0
                                    clear hi180_0 hl180_0
                                    replace p180 := eq_true p180
                                    replace q180 := eq_true q180
                                    have p181 : 0 ≤ (x7_1 : Int) := of_decide_eq_true (by first | (with_reducible assumption) | assumption)
                                    have q181 : x7_1 < (l0.length : Int) := of_decide_eq_true (by first | (with_reducible assumption) | assumption)
                                    obtain ⟨ad181, A181_0, c181_0, e181, hx181_0, hl181_0, hi181_0⟩ := at_L1 HR0.out x7_1 p181 q181
                                    cases e181
                                    have HR181_0 := Aside0.mk hi181_0
                                    have HC181_0 := Aside0.mk hl181_0
                                    clear hi181_0 hl181_0
                                    replace p181 := eq_true p181
                                    replace q181 := eq_true q181
                                    go_wp2_with (first | (go_at_call 36; (with_reducible refine (spec_SameList.calls kj14 _ _ (rd_L1 l1 x10_2) _ _ (rd_L1 l0 x7_1) false _ ?side1 ?side2 ?side3 ?side4 A21.out).mono ?_); (case side1 => repeat (first | exact HR180_0.out | (with_reducible refine Kd.C_alloc ?_ _) | (with_reducible refine Kd.C_drewN ?_ _) | (with_reducible refine Kd.C_drew ?_))); (case side2 => exact HC180_0.out); (case side3 => repeat (first | exact HR181_0.out | (with_reducible refine Kd.C_alloc ?_ _) | (with_reducible refine Kd.C_drewN ?_ _) | (with_reducible refine Kd.C_drew ?_))); (case side4 => exact HC181_0.out); rintro e w' ⟨rfl, ⟨nd, rfl⟩⟩; (try first | exact ⟨rfl, _, World.drewN_drewN _ _ _⟩ | exact ⟨rfl, _, Eq.trans (World.drewN_drewN _ _ _) (congrArg (World.drewN _) (Nat.add_assoc _ _ _))⟩)))
                                    repeat (go_quiet (first | (go_at_call 36; (with_reducible refine (spec_SameList.calls kj14 _ _ (rd_L1 l1 x10_2) _ _ (rd_L1 l0 x7_1) false _ ?side1 ?side2 ?side3 ?side4 A21.out).mono ?_); (case side1 => repeat (first | exact HR180_0.out | (with_reducible refine Kd.C_alloc ?_ _) | (with_reducible refine Kd.C_drewN ?_ _) | (with_reducible refine Kd.C_drew ?_))); (case side2 => exact HC180_0.out); (case side3 => repeat (first | exact HR181_0.out | (with_reducible refine Kd.C_alloc ?_ _) | (with_reducible refine Kd.C_drewN ?_ _) | (with_reducible refine Kd.C_drew ?_))); (case side4 => exact HC181_0.out); rintro e w' ⟨rfl, ⟨nd, rfl⟩⟩; (try first | exact ⟨rfl, _, World.drewN_drewN _ _ _⟩ | exact ⟨rfl, _, Eq.trans (World.drewN_drewN _ _ _) (congrArg (World.drewN _) (Nat.add_assoc _ _ _))⟩))); try go_wp2_with (first | (go_at_call 36; (with_reducible refine (spec_SameList.calls kj14 _ _ (rd_L1 l1 x10_2) _ _ (rd_L1 l0 x7_1) false _ ?side1 ?side2 ?side3 ?side4 A21.out).mono ?_); (case side1 => repeat (first | exact HR180_0.out | (with_reducible refine Kd.C_alloc ?_ _) | (with_reducible refine Kd.C_drewN ?_ _) | (with_reducible refine Kd.C_drew ?_))); (case side2 => exact HC180_0.out); (case side3 => repeat (first | exact HR181_0.out | (with_reducible refine Kd.C_alloc ?_ _) | (with_reducible refine Kd.C_drewN ?_ _) | (with_reducible refine Kd.C_drew ?_))); (case side4 => exact HC181_0.out); rintro e w' ⟨rfl, ⟨nd, rfl⟩⟩; (try first | exact ⟨rfl, _, World.drewN_drewN _ _ _⟩ | exact ⟨rfl, _, Eq.trans (World.drewN_drewN _ _ _) (congrArg (World.drewN _) (Nat.add_assoc _ _ _))⟩))))
                                    go_roundg kj14
                                    case measure => have := HK1.out; have := HK2.out; have := HJ6.out; have := HJ14.out; omega
                                    case rel => exact ⟨(x8_14), (x9_2), (wrap64 (x10_2 + 1)), (by first | rfl | (simp; done) | (simp [*]; done)), (by first | rfl | (simp; done) | (simp [*]; done)), (by first | rfl | (simp; done) | (simp [*]; done)), H', ⟨by have := HK1.out; have := HK2.out; have := HJ6.out; have := HJ14.out; omega⟩, by repeat (first | exact Drawn0.refl _ | apply Drawn0.step)⟩
                              · rw [if_neg c20] at H
                                exact absurd H (by simp)
                            · rw [if_neg c19] at H
                              exact absurd H (by simp)
                          · rw [if_neg c18] at H
                            exact absurd H (by simp)
                        · rw [if_neg c17] at H
                          exact absurd H (by simp)
              · rw [if_neg c6] at H
                have c6b0 : decide (x10_2 < (l0.length : Int)) = false := decide_eq_false c6
                clear c6
                by_cases c26 : x8_2 = x9_2
                · rw [if_pos c26] at H
                  have c26b0 : (x8_2 == x9_2) = true := beq_iff_eq.mpr c26
                  have c26b1 : (x8_2 != x9_2) = false := bne_eq_false_iff_eq.mpr c26
                  clear c26
                  have H' := Aside0.mk H
                  clear H
                  go_wp2
                  repeat (go_quiet (fail); try go_wp2)
                  go_roundg k2
                  case measure => have := HK1.out; have := HK2.out; omega
                  case rel => exact ⟨(wrap64 (x7_1 + 1)), (by first | rfl | (simp; done) | (simp [*]; done)), H', ⟨by have := HK1.out; have := HK2.out; omega⟩, by repeat (first | exact Drawn0.refl _ | apply Drawn0.step)⟩
                · rw [if_neg c26] at H
                  have c26b0 : (x8_2 == x9_2) = false := beq_eq_false_iff_ne.mpr c26
                  have c26b1 : (x8_2 != x9_2) = true := bne_iff_ne.mpr c26
                  obtain rfl := Option.some.inj H
                  go_wp2
                  repeat (go_quiet (fail); try go_wp2)
                  go_ret
                  exact ⟨by first | rfl | (simp; done) | (simp [*]; done), by repeat (first | exact Drawn0.refl _ | apply Drawn0.step)⟩
        · rw [if_neg c5] at H
          have c5b0 : decide (x7_1 < (l0.length : Int)) = false := decide_eq_false c5
          clear c5
          obtain rfl := Option.some.inj H
          go_wp2
          repeat (go_quiet (fail); try go_wp2)
          go_ret
          exact ⟨by first | rfl | (simp; done) | (simp [*]; done), by repeat (first | exact Drawn0.refl _ | apply Drawn0.step)⟩
  · rw [if_neg c4] at H
    have c4b0 : ((l0.length : Int) == (l1.length : Int)) = false := beq_eq_false_iff_ne.mpr c4
    have c4b1 : ((l0.length : Int) != (l1.length : Int)) = true := bne_iff_ne.mpr c4
    have c4b2 : (l0.length == l1.length) = false := by first | simpa using c4 | (simp at c4 ⊢; omega)
    obtain rfl := Option.some.inj H
    go_enter Try.func20, Try.ntmps20
    go_wp2
    repeat (go_quiet (fail); try go_wp2)
    go_ret
    exact ⟨by first | rfl | (simp; done) | (simp [*]; done), by repeat (first | exact Drawn0.refl _ | apply Drawn0.step)⟩

end Go.Proofs.Ythmkbojkhoaolaa.PFnRowSets
