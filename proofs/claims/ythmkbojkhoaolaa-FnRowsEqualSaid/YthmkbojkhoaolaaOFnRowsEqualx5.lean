/- The machine side of laws.FnRowsEqual: each function of this text answers what its Lean function answers (written for this claim by a program of this session over the kit's print; no condition beyond what each theorem says). -/
import Derived.Test.YthmkbojkhoaolaaOFnRowsEqualx0
import Derived.Test.YthmkbojkhoaolaaOFnRowsEqualx4
namespace Go.Proofs.Ythmkbojkhoaolaa.PFnRowsEqual
open Go.RowKit Go.Proofs.YthmkbojkhoaolaaW.PrintWords Go.Proofs.YthmkbojkhoaolaaW.PrintLast Go.Proofs.YthmkbojkhoaolaaW.PrintMore
attribute [local go_sem] max2_int min2_int max_two min_two max_three min_three max_four min_four   -- for this text's walks alone
set_option linter.unusedVariables false
set_option linter.unusedSimpArgs false

/-! ### spec_SameRowBag: function 20 -/
mutual
def spec_SameRowBag.l0 : Nat → List (List ByteArray) → List (List ByteArray) → Bool → Int → Option (Bool)
  | 0, _, _, _, _ => none
  | k + 1, x0, x1, x2, x7 => if x7 < (x0.length : Int) then (spec_SameRowBag.l1 k x0 x1 x2 x7 0 0 0) else (some true)
def spec_SameRowBag.l1 : Nat → List (List ByteArray) → List (List ByteArray) → Bool → Int → Int → Int → Int → Option (Bool)
  | 0, _, _, _, _, _, _, _ => none
  | k + 1, x0, x1, x2, x7, x8, x9, x10 => if x10 < (x0.length : Int) then (if 0 ≤ x10 then (if 0 ≤ x7 then (if x7 < (x0.length : Int) then ((spec_SameList.f k (rd_L1 x0 x10) (rd_L1 x0 x7)).bind fun t149 => (if t149 = true then (spec_SameRowBag.j2 k x0 x1 x2 x7 x8 x9 x10 true) else (if x2 = true then ((spec_SameBag.f k (rd_L1 x0 x10) (rd_L1 x0 x7)).bind fun t152 => (spec_SameRowBag.j2 k x0 x1 x2 x7 x8 x9 x10 t152)) else (spec_SameRowBag.j2 k x0 x1 x2 x7 x8 x9 x10 false)))) else (none)) else (none)) else (none)) else (if x8 = x9 then (spec_SameRowBag.l0 k x0 x1 x2 (wrap64 (x7 + 1))) else (some false))
def spec_SameRowBag.j2 : Nat → List (List ByteArray) → List (List ByteArray) → Bool → Int → Int → Int → Int → Bool → Option (Bool)
  | 0, _, _, _, _, _, _, _, _ => none
  | k + 1, x0, x1, x2, x7, x8, x9, x10, x50 => if x50 = true then (spec_SameRowBag.j3 k x0 x1 x2 x7 (wrap64 (x8 + 1)) x9 x10) else (spec_SameRowBag.j3 k x0 x1 x2 x7 x8 x9 x10)
def spec_SameRowBag.j3 : Nat → List (List ByteArray) → List (List ByteArray) → Bool → Int → Int → Int → Int → Option (Bool)
  | 0, _, _, _, _, _, _, _ => none
  | k + 1, x0, x1, x2, x7, x8, x9, x10 => if 0 ≤ x10 then (if x10 < (x1.length : Int) then (if 0 ≤ x7 then (if x7 < (x0.length : Int) then ((spec_SameList.f k (rd_L1 x1 x10) (rd_L1 x0 x7)).bind fun t155 => (if t155 = true then (spec_SameRowBag.l1 k x0 x1 x2 x7 x8 (wrap64 (x9 + 1)) (wrap64 (x10 + 1))) else (if x2 = true then ((spec_SameBag.f k (rd_L1 x1 x10) (rd_L1 x0 x7)).bind fun t158 => (if t158 = true then (spec_SameRowBag.l1 k x0 x1 x2 x7 x8 (wrap64 (x9 + 1)) (wrap64 (x10 + 1))) else (spec_SameRowBag.l1 k x0 x1 x2 x7 x8 x9 (wrap64 (x10 + 1))))) else (spec_SameRowBag.l1 k x0 x1 x2 x7 x8 x9 (wrap64 (x10 + 1)))))) else (none)) else (none)) else (none)) else (none)
end
def spec_SameRowBag.f (k : Nat) (l0 : List (List ByteArray)) (l1 : List (List ByteArray)) (a2 : Bool) : Option (Bool) := if (l0.length : Int) = (l1.length : Int) then (spec_SameRowBag.l0 k l0 l1 a2 0) else (some false)
theorem spec_SameRowBag.mono_l : ∀ k, (∀ y0 y1 y2 y3, LeO (spec_SameRowBag.l0 k y0 y1 y2 y3) (spec_SameRowBag.l0 (k + 1) y0 y1 y2 y3)) ∧ (∀ y0 y1 y2 y3 y4 y5 y6, LeO (spec_SameRowBag.l1 k y0 y1 y2 y3 y4 y5 y6) (spec_SameRowBag.l1 (k + 1) y0 y1 y2 y3 y4 y5 y6)) ∧ (∀ y0 y1 y2 y3 y4 y5 y6 y7, LeO (spec_SameRowBag.j2 k y0 y1 y2 y3 y4 y5 y6 y7) (spec_SameRowBag.j2 (k + 1) y0 y1 y2 y3 y4 y5 y6 y7)) ∧ (∀ y0 y1 y2 y3 y4 y5 y6, LeO (spec_SameRowBag.j3 k y0 y1 y2 y3 y4 y5 y6) (spec_SameRowBag.j3 (k + 1) y0 y1 y2 y3 y4 y5 y6))
  | 0 => ⟨fun _ _ _ _ r h => by simp [spec_SameRowBag.l0] at h, fun _ _ _ _ _ _ _ r h => by simp [spec_SameRowBag.l1] at h, fun _ _ _ _ _ _ _ _ r h => by simp [spec_SameRowBag.j2] at h, fun _ _ _ _ _ _ _ r h => by simp [spec_SameRowBag.j3] at h⟩
  | k + 1 => by
    obtain ⟨ih0, ih1, ih2, ih3⟩ := spec_SameRowBag.mono_l k
    refine ⟨?_, ?_, ?_, ?_⟩
    · intro y0 y1 y2 y3
      unfold spec_SameRowBag.l0
      repeat' first
      | (with_reducible exact ih0 _ _ _ _)
      | (with_reducible exact ih1 _ _ _ _ _ _ _)
      | (with_reducible exact ih2 _ _ _ _ _ _ _ _)
      | (with_reducible exact ih3 _ _ _ _ _ _ _)
      | (with_reducible exact spec_SameBag.mono _ _ _)
      | (with_reducible exact spec_SameList.mono _ _ _)
      | (with_reducible exact LeO.refl _)
      | (with_reducible exact LeO.none _)
      | (with_reducible refine LeO.ite ?_ ?_)
      | (with_reducible refine LeO.bind ?_ (fun _ => ?_))
      | exact ih0 _ _ _ _
      | exact ih1 _ _ _ _ _ _ _
      | exact ih2 _ _ _ _ _ _ _ _
      | exact ih3 _ _ _ _ _ _ _
      | exact spec_SameBag.mono _ _ _
      | exact spec_SameList.mono _ _ _
      | exact LeO.none _
      | refine LeO.ite ?_ ?_
      | refine LeO.bind ?_ (fun _ => ?_)
    · intro y0 y1 y2 y3 y4 y5 y6
      unfold spec_SameRowBag.l1
      repeat' first
      | (with_reducible exact ih0 _ _ _ _)
      | (with_reducible exact ih1 _ _ _ _ _ _ _)
      | (with_reducible exact ih2 _ _ _ _ _ _ _ _)
      | (with_reducible exact ih3 _ _ _ _ _ _ _)
      | (with_reducible exact spec_SameBag.mono _ _ _)
      | (with_reducible exact spec_SameList.mono _ _ _)
      | (with_reducible exact LeO.refl _)
      | (with_reducible exact LeO.none _)
      | (with_reducible refine LeO.ite ?_ ?_)
      | (with_reducible refine LeO.bind ?_ (fun _ => ?_))
      | exact ih0 _ _ _ _
      | exact ih1 _ _ _ _ _ _ _
      | exact ih2 _ _ _ _ _ _ _ _
      | exact ih3 _ _ _ _ _ _ _
      | exact spec_SameBag.mono _ _ _
      | exact spec_SameList.mono _ _ _
      | exact LeO.none _
      | refine LeO.ite ?_ ?_
      | refine LeO.bind ?_ (fun _ => ?_)
    · intro y0 y1 y2 y3 y4 y5 y6 y7
      unfold spec_SameRowBag.j2
      repeat' first
      | (with_reducible exact ih0 _ _ _ _)
      | (with_reducible exact ih1 _ _ _ _ _ _ _)
      | (with_reducible exact ih2 _ _ _ _ _ _ _ _)
      | (with_reducible exact ih3 _ _ _ _ _ _ _)
      | (with_reducible exact spec_SameBag.mono _ _ _)
      | (with_reducible exact spec_SameList.mono _ _ _)
      | (with_reducible exact LeO.refl _)
      | (with_reducible exact LeO.none _)
      | (with_reducible refine LeO.ite ?_ ?_)
      | (with_reducible refine LeO.bind ?_ (fun _ => ?_))
      | exact ih0 _ _ _ _
      | exact ih1 _ _ _ _ _ _ _
      | exact ih2 _ _ _ _ _ _ _ _
      | exact ih3 _ _ _ _ _ _ _
      | exact spec_SameBag.mono _ _ _
      | exact spec_SameList.mono _ _ _
      | exact LeO.none _
      | refine LeO.ite ?_ ?_
      | refine LeO.bind ?_ (fun _ => ?_)
    · intro y0 y1 y2 y3 y4 y5 y6
      unfold spec_SameRowBag.j3
      repeat' first
      | (with_reducible exact ih0 _ _ _ _)
      | (with_reducible exact ih1 _ _ _ _ _ _ _)
      | (with_reducible exact ih2 _ _ _ _ _ _ _ _)
      | (with_reducible exact ih3 _ _ _ _ _ _ _)
      | (with_reducible exact spec_SameBag.mono _ _ _)
      | (with_reducible exact spec_SameList.mono _ _ _)
      | (with_reducible exact LeO.refl _)
      | (with_reducible exact LeO.none _)
      | (with_reducible refine LeO.ite ?_ ?_)
      | (with_reducible refine LeO.bind ?_ (fun _ => ?_))
      | exact ih0 _ _ _ _
      | exact ih1 _ _ _ _ _ _ _
      | exact ih2 _ _ _ _ _ _ _ _
      | exact ih3 _ _ _ _ _ _ _
      | exact spec_SameBag.mono _ _ _
      | exact spec_SameList.mono _ _ _
      | exact LeO.none _
      | refine LeO.ite ?_ ?_
      | refine LeO.bind ?_ (fun _ => ?_)
theorem spec_SameRowBag.mono : ∀ a0 a1 a2 k, LeO (spec_SameRowBag.f k a0 a1 a2) (spec_SameRowBag.f (k + 1) a0 a1 a2) := by
  intro a0 a1 a2 k
  obtain ⟨ih0, ih1, ih2, ih3⟩ := spec_SameRowBag.mono_l k
  unfold spec_SameRowBag.f
  repeat' first
      | (with_reducible exact ih0 _ _ _ _)
      | (with_reducible exact ih1 _ _ _ _ _ _ _)
      | (with_reducible exact ih2 _ _ _ _ _ _ _ _)
      | (with_reducible exact ih3 _ _ _ _ _ _ _)
      | (with_reducible exact spec_SameBag.mono _ _ _)
      | (with_reducible exact spec_SameList.mono _ _ _)
      | (with_reducible exact LeO.refl _)
      | (with_reducible exact LeO.none _)
      | (with_reducible refine LeO.ite ?_ ?_)
      | (with_reducible refine LeO.bind ?_ (fun _ => ?_))
      | exact ih0 _ _ _ _
      | exact ih1 _ _ _ _ _ _ _
      | exact ih2 _ _ _ _ _ _ _ _
      | exact ih3 _ _ _ _ _ _ _
      | exact spec_SameBag.mono _ _ _
      | exact spec_SameList.mono _ _ _
      | exact LeO.none _
      | refine LeO.ite ?_ ?_
      | refine LeO.bind ?_ (fun _ => ?_)
set_option maxHeartbeats 8000000 in
set_option maxRecDepth 100000 in
theorem spec_SameRowBag.calls (k : Nat) (A0 : Option Addr) (c0 : Nat) (l0 : List (List ByteArray)) (A1 : Option Addr) (c1 : Nat) (l1 : List (List ByteArray)) (a2 : Bool) (r : Bool) (w : World) (hr0 : Kd.C (Kd.slice 9 Kd.string) w A0 l0.length l0) (hc0 : l0.length ≤ c0) (hr1 : Kd.C (Kd.slice 9 Kd.string) w A1 l1.length l1) (hc1 : l1.length ≤ c1) (h : spec_SameRowBag.f k l0 l1 a2 = some r) :
    Calls Try.prog 20 #[.slice A0 l0.length c0, .slice A1 l1.length c1, .bool a2] w fun e w' => e = .returned (.bool r) ∧ Drawn0 w w' := by
  have HR0 := Aside0.mk hr0
  have HC0 := Aside0.mk hc0
  clear hr0 hc0
  have HR1 := Aside0.mk hr1
  have HC1 := Aside0.mk hc1
  clear hr1 hc1
  have H : (if (l0.length : Int) = (l1.length : Int) then (spec_SameRowBag.l0 k l0 l1 a2 0) else (some false)) = some r := h
  clear h
  by_cases c4 : (l0.length : Int) = (l1.length : Int)
  · rw [if_pos c4] at H
    have c4b0 : ((l0.length : Int) == (l1.length : Int)) = true := beq_iff_eq.mpr c4
    have c4b1 : ((l0.length : Int) != (l1.length : Int)) = false := bne_eq_false_iff_eq.mpr c4
    have c4b2 : (l0.length == l1.length) = true := by first | simpa using c4 | (simp at c4 ⊢; omega)
    clear c4
    have H' := Aside0.mk H
    clear H
    go_enter Try.func20, Try.ntmps20
    go_wp2
    repeat (go_quiet (fail); try go_wp2)
    go_loopg [7] k (fun kq v7 w' => ∃ (x7_1 : Int), v7 = .int .i64 x7_1 ∧ Aside0 (spec_SameRowBag.l0 kq l0 l1 a2 x7_1 = some r) ∧ Aside0 (kq ≤ k) ∧ Drawn0 w w')
    case atStart => exact ⟨(0), (by first | rfl | (simp; done) | (simp [*]; done)), H', ⟨Nat.le_refl _⟩, by repeat (first | exact Drawn0.refl _ | apply Drawn0.step)⟩
    case round =>
      clear H'
      try clear c1
      try clear c2
      try clear p2
      try clear c4
      try clear c4b0
      try clear c4b1
      try clear c4b2
      obtain ⟨x7_1, rfl, HA, HK1, ⟨m1, rfl⟩⟩ := hrel
      cases gk with
      | zero => exact absurd HA.out (by simp [spec_SameRowBag.l0])
      | succ k1 =>
        have H := HA.out
        clear HA
        simp only [spec_SameRowBag.l0] at H
        by_cases c5 : x7_1 < (l0.length : Int)
        · rw [if_pos c5] at H
          have c5b0 : decide (x7_1 < (l0.length : Int)) = true := decide_eq_true c5
          clear c5
          have H' := Aside0.mk H
          clear H
          go_wp2
          repeat (go_quiet (fail); try go_wp2)
          go_loopg [8, 9, 10] k1 (fun kq v8 v9 v10 w' => ∃ (x8_2 : Int) (x9_2 : Int) (x10_2 : Int), v8 = .int .i64 x8_2 ∧ v9 = .int .i64 x9_2 ∧ v10 = .int .i64 x10_2 ∧ Aside0 (spec_SameRowBag.l1 kq l0 l1 a2 x7_1 x8_2 x9_2 x10_2 = some r) ∧ Aside0 (kq ≤ k1) ∧ Drawn0 w w')
          case atStart => exact ⟨(0), (0), (0), (by first | rfl | (simp; done) | (simp [*]; done)), (by first | rfl | (simp; done) | (simp [*]; done)), (by first | rfl | (simp; done) | (simp [*]; done)), H', ⟨Nat.le_refl _⟩, by repeat (first | exact Drawn0.refl _ | apply Drawn0.step)⟩
          case round =>
            clear H'
            try clear c1
            try clear c2
            try clear p2
            try clear c4
            try clear c4b0
            try clear c4b1
            try clear c4b2
            try clear c5
            try clear c5b0
            try clear p2
            obtain ⟨x8_2, x9_2, x10_2, rfl, rfl, rfl, HA, HK2, ⟨m2, rfl⟩⟩ := hrel
            cases gk with
            | zero => exact absurd HA.out (by simp [spec_SameRowBag.l1])
            | succ k2 =>
              have H := HA.out
              clear HA
              simp only [spec_SameRowBag.l1] at H
              by_cases c6 : x10_2 < (l0.length : Int)
              · rw [if_pos c6] at H
                have c6b0 : decide (x10_2 < (l0.length : Int)) = true := decide_eq_true c6
                clear c6
                have HC7 := Aside0.mk H
                clear H
                go_upto_region 10 with (fail)
                repeat (go_quiet (fail); go_upto_region 10 with (fail))
                go_cut [50] (fun v50 wc => ∃ (kq : Nat) (x50_6 : Bool), v50 = .bool x50_6 ∧ Aside0 (spec_SameRowBag.j2 kq l0 l1 a2 x7_1 x8_2 x9_2 x10_2 x50_6 = some r) ∧ Aside0 (kq ≤ k2) ∧ Drawn0 w wc)
                case first =>
                  have H := HC7.out
                  clear HC7
                  by_cases c8 : 0 ≤ x10_2
                  · rw [if_pos c8] at H
                    have c8b0 : decide (0 ≤ x10_2) = true := decide_eq_true c8
                    clear c8
                    (first | rw [c8b0] | (simp only [i64_w, i32_w]; rw [c8b0]) | skip)
                    by_cases c9 : 0 ≤ x7_1
                    · rw [if_pos c9] at H
                      have c9b0 : decide (0 ≤ x7_1) = true := decide_eq_true c9
                      clear c9
                      by_cases c10 : x7_1 < (l0.length : Int)
                      · rw [if_pos c10] at H
                        have c10b0 : decide (x7_1 < (l0.length : Int)) = true := decide_eq_true c10
                        clear c10
                        replace H := Option.bind_eq_some_iff.mp H
                        obtain ⟨t149, A110, H⟩ := H
                        replace H : (if t149 = true then (spec_SameRowBag.j2 k2 l0 l1 a2 x7_1 x8_2 x9_2 x10_2 true) else (if a2 = true then ((spec_SameBag.f k2 (rd_L1 l0 x10_2) (rd_L1 l0 x7_1)).bind fun t152 => (spec_SameRowBag.j2 k2 l0 l1 a2 x7_1 x8_2 x9_2 x10_2 t152)) else (spec_SameRowBag.j2 k2 l0 l1 a2 x7_1 x8_2 x9_2 x10_2 false))) = some r := H
                        have A11 := Aside0.mk A110
                        clear A110
                        by_cases c12 : t149 = true
                        · subst c12
                          have H1 : (spec_SameRowBag.j2 k2 l0 l1 a2 x7_1 x8_2 x9_2 x10_2 true) = some r := by rw [if_pos rfl] at H; exact H
                          clear H
                          have H := H1
                          clear H1
                          have H' := Aside0.mk H
                          clear H
                          have p147 : 0 ≤ (x10_2 : Int) := of_decide_eq_true (by first | (with_reducible assumption) | assumption)
                          have q147 : x10_2 < (l0.length : Int) := of_decide_eq_true (by first | (with_reducible assumption) | assumption)
                          obtain ⟨ad147, A147_0, c147_0, e147, hx147_0, hl147_0, hi147_0⟩ := at_L1 HR0.out x10_2 p147 q147
                          cases e147
                          have HR147_0 := Aside0.mk hi147_0
                          have HC147_0 := Aside0.mk hl147_0
                          clear hi147_0 hl147_0
                          replace p147 := eq_true p147
                          replace q147 := eq_true q147
                          have p148 : 0 ≤ (x7_1 : Int) := of_decide_eq_true (by first | (with_reducible assumption) | assumption)
                          have q148 : x7_1 < (l0.length : Int) := of_decide_eq_true (by first | (with_reducible assumption) | assumption)
                          obtain ⟨ad148, A148_0, c148_0, e148, hx148_0, hl148_0, hi148_0⟩ := at_L1 HR0.out x7_1 p148 q148
                          obtain rfl : ad147 = ad148 := (by injection e148)
                          have HR148_0 := Aside0.mk hi148_0
                          have HC148_0 := Aside0.mk hl148_0
                          clear hi148_0 hl148_0
                          replace p148 := eq_true p148
                          replace q148 := eq_true q148
                          go_wp2_with (first | (go_at_call 36; (with_reducible refine (spec_SameList.calls k2 _ _ (rd_L1 l0 x10_2) _ _ (rd_L1 l0 x7_1) true _ ?side1 ?side2 ?side3 ?side4 A11.out).mono ?_); (case side1 => repeat (first | exact HR147_0.out | (with_reducible refine Kd.C_alloc ?_ _) | (with_reducible refine Kd.C_drewN ?_ _) | (with_reducible refine Kd.C_drew ?_))); (case side2 => exact HC147_0.out); (case side3 => repeat (first | exact HR148_0.out | (with_reducible refine Kd.C_alloc ?_ _) | (with_reducible refine Kd.C_drewN ?_ _) | (with_reducible refine Kd.C_drew ?_))); (case side4 => exact HC148_0.out); rintro e w' ⟨rfl, ⟨nd, rfl⟩⟩; (try first | exact ⟨rfl, _, World.drewN_drewN _ _ _⟩ | exact ⟨rfl, _, Eq.trans (World.drewN_drewN _ _ _) (congrArg (World.drewN _) (Nat.add_assoc _ _ _))⟩)))
                          repeat (go_quiet (first | (go_at_call 36; (with_reducible refine (spec_SameList.calls k2 _ _ (rd_L1 l0 x10_2) _ _ (rd_L1 l0 x7_1) true _ ?side1 ?side2 ?side3 ?side4 A11.out).mono ?_); (case side1 => repeat (first | exact HR147_0.out | (with_reducible refine Kd.C_alloc ?_ _) | (with_reducible refine Kd.C_drewN ?_ _) | (with_reducible refine Kd.C_drew ?_))); (case side2 => exact HC147_0.out); (case side3 => repeat (first | exact HR148_0.out | (with_reducible refine Kd.C_alloc ?_ _) | (with_reducible refine Kd.C_drewN ?_ _) | (with_reducible refine Kd.C_drew ?_))); (case side4 => exact HC148_0.out); rintro e w' ⟨rfl, ⟨nd, rfl⟩⟩; (try first | exact ⟨rfl, _, World.drewN_drewN _ _ _⟩ | exact ⟨rfl, _, Eq.trans (World.drewN_drewN _ _ _) (congrArg (World.drewN _) (Nat.add_assoc _ _ _))⟩))); try go_wp2_with (first | (go_at_call 36; (with_reducible refine (spec_SameList.calls k2 _ _ (rd_L1 l0 x10_2) _ _ (rd_L1 l0 x7_1) true _ ?side1 ?side2 ?side3 ?side4 A11.out).mono ?_); (case side1 => repeat (first | exact HR147_0.out | (with_reducible refine Kd.C_alloc ?_ _) | (with_reducible refine Kd.C_drewN ?_ _) | (with_reducible refine Kd.C_drew ?_))); (case side2 => exact HC147_0.out); (case side3 => repeat (first | exact HR148_0.out | (with_reducible refine Kd.C_alloc ?_ _) | (with_reducible refine Kd.C_drewN ?_ _) | (with_reducible refine Kd.C_drew ?_))); (case side4 => exact HC148_0.out); rintro e w' ⟨rfl, ⟨nd, rfl⟩⟩; (try first | exact ⟨rfl, _, World.drewN_drewN _ _ _⟩ | exact ⟨rfl, _, Eq.trans (World.drewN_drewN _ _ _) (congrArg (World.drewN _) (Nat.add_assoc _ _ _))⟩))))
                          go_meet
                          case rel => exact ⟨_, (true), (by first | rfl | (simp; done) | (simp [*]; done)), H', ⟨by have := HK1.out; have := HK2.out; first | omega | exact Nat.le_refl _⟩, by repeat (first | exact Drawn0.refl _ | apply Drawn0.step)⟩
                        · replace c12 := Bool.eq_false_iff.mpr c12
                          subst c12
                          have H1 : (if a2 = true then ((spec_SameBag.f k2 (rd_L1 l0 x10_2) (rd_L1 l0 x7_1)).bind fun t152 => (spec_SameRowBag.j2 k2 l0 l1 a2 x7_1 x8_2 x9_2 x10_2 t152)) else (spec_SameRowBag.j2 k2 l0 l1 a2 x7_1 x8_2 x9_2 x10_2 false)) = some r := by rw [if_neg (show ¬ (false = true) by decide)] at H; exact H
                          clear H
                          have H := H1
                          clear H1
                          by_cases c13 : a2 = true
                          · subst c13
                            have H1 : ((spec_SameBag.f k2 (rd_L1 l0 x10_2) (rd_L1 l0 x7_1)).bind fun t152 => (spec_SameRowBag.j2 k2 l0 l1 true x7_1 x8_2 x9_2 x10_2 t152)) = some r := by rw [if_pos rfl] at H; exact H
                            clear H
                            have H := H1
                            clear H1
                            replace H := Option.bind_eq_some_iff.mp H
                            obtain ⟨t152, A140, H⟩ := H
                            replace H : (spec_SameRowBag.j2 k2 l0 l1 true x7_1 x8_2 x9_2 x10_2 t152) = some r := H
                            have A14 := Aside0.mk A140
                            clear A140
                            have H' := Aside0.mk H
                            clear H
                            have p147 : 0 ≤ (x10_2 : Int) := of_decide_eq_true (by first | (with_reducible assumption) | assumption)
                            have q147 : x10_2 < (l0.length : Int) := of_decide_eq_true (by first | (with_reducible assumption) | assumption)
                            obtain ⟨ad147, A147_0, c147_0, e147, hx147_0, hl147_0, hi147_0⟩ := at_L1 HR0.out x10_2 p147 q147
                            cases e147
                            have HR147_0 := Aside0.mk hi147_0
                            have HC147_0 := Aside0.mk hl147_0
                            clear hi147_0 hl147_0
                            replace p147 := eq_true p147
                            replace q147 := eq_true q147
                            have p148 : 0 ≤ (x7_1 : Int) := of_decide_eq_true (by first | (with_reducible assumption) | assumption)
                            have q148 : x7_1 < (l0.length : Int) := of_decide_eq_true (by first | (with_reducible assumption) | assumption)
                            obtain ⟨ad148, A148_0, c148_0, e148, hx148_0, hl148_0, hi148_0⟩ := at_L1 HR0.out x7_1 p148 q148
                            obtain rfl : ad147 = ad148 := (by injection e148)
                            have HR148_0 := Aside0.mk hi148_0
                            have HC148_0 := Aside0.mk hl148_0
                            clear hi148_0 hl148_0
                            replace p148 := eq_true p148
                            replace q148 := eq_true q148
                            go_wp2_with (first | (go_at_call 36; (with_reducible refine (spec_SameList.calls k2 _ _ (rd_L1 l0 x10_2) _ _ (rd_L1 l0 x7_1) false _ ?side1 ?side2 ?side3 ?side4 A11.out).mono ?_); (case side1 => repeat (first | exact HR147_0.out | (with_reducible refine Kd.C_alloc ?_ _) | (with_reducible refine Kd.C_drewN ?_ _) | (with_reducible refine Kd.C_drew ?_))); (case side2 => exact HC147_0.out); (case side3 => repeat (first | exact HR148_0.out | (with_reducible refine Kd.C_alloc ?_ _) | (with_reducible refine Kd.C_drewN ?_ _) | (with_reducible refine Kd.C_drew ?_))); (case side4 => exact HC148_0.out); rintro e w' ⟨rfl, ⟨nd, rfl⟩⟩; (try first | exact ⟨rfl, _, World.drewN_drewN _ _ _⟩ | exact ⟨rfl, _, Eq.trans (World.drewN_drewN _ _ _) (congrArg (World.drewN _) (Nat.add_assoc _ _ _))⟩); have p150 : 0 ≤ (x10_2 : Int) := of_decide_eq_true (by first | (with_reducible assumption) | assumption); have q150 : x10_2 < (l0.length : Int) := of_decide_eq_true (by first | (with_reducible assumption) | assumption); obtain ⟨ad150, A150_0, c150_0, e150, hx150_0, hl150_0, hi150_0⟩ := at_L1 HR0.out x10_2 p150 q150; obtain rfl : ad147 = ad150 := (by injection e150); have HR150_0 := Aside0.mk hi150_0; have HC150_0 := Aside0.mk hl150_0; clear hi150_0 hl150_0; replace p150 := eq_true p150; replace q150 := eq_true q150; have ea_ := Option.some.inj (hx147_0.symm.trans hx150_0); injection ea_ with ea_ en_ ec_; subst ea_; subst ec_; clear en_; have p151 : 0 ≤ (x7_1 : Int) := of_decide_eq_true (by first | (with_reducible assumption) | assumption); have q151 : x7_1 < (l0.length : Int) := of_decide_eq_true (by first | (with_reducible assumption) | assumption); obtain ⟨ad151, A151_0, c151_0, e151, hx151_0, hl151_0, hi151_0⟩ := at_L1 HR0.out x7_1 p151 q151; obtain rfl : ad147 = ad151 := (by injection e151); have HR151_0 := Aside0.mk hi151_0; have HC151_0 := Aside0.mk hl151_0; clear hi151_0 hl151_0; replace p151 := eq_true p151; replace q151 := eq_true q151; have ea_ := Option.some.inj (hx148_0.symm.trans hx151_0); injection ea_ with ea_ en_ ec_; subst ea_; subst ec_; clear en_) | (go_at_call 12; (with_reducible refine (spec_SameBag.calls k2 _ _ (rd_L1 l0 x10_2) _ _ (rd_L1 l0 x7_1) t152 _ ?side1 ?side2 ?side3 ?side4 A14.out).mono ?_); (case side1 => repeat (first | exact HR150_0.out | (with_reducible refine Kd.C_alloc ?_ _) | (with_reducible refine Kd.C_drewN ?_ _) | (with_reducible refine Kd.C_drew ?_))); (case side2 => exact HC150_0.out); (case side3 => repeat (first | exact HR151_0.out | (with_reducible refine Kd.C_alloc ?_ _) | (with_reducible refine Kd.C_drewN ?_ _) | (with_reducible refine Kd.C_drew ?_))); (case side4 => exact HC151_0.out); rintro e w' ⟨rfl, ⟨nd, rfl⟩⟩; (try first | exact ⟨rfl, _, World.drewN_drewN _ _ _⟩ | exact ⟨rfl, _, Eq.trans (World.drewN_drewN _ _ _) (congrArg (World.drewN _) (Nat.add_assoc _ _ _))⟩)))
                            repeat (go_quiet (first | (go_at_call 36; (with_reducible refine (spec_SameList.calls k2 _ _ (rd_L1 l0 x10_2) _ _ (rd_L1 l0 x7_1) false _ ?side1 ?side2 ?side3 ?side4 A11.out).mono ?_); (case side1 => repeat (first | exact HR147_0.out | (with_reducible refine Kd.C_alloc ?_ _) | (with_reducible refine Kd.C_drewN ?_ _) | (with_reducible refine Kd.C_drew ?_))); (case side2 => exact HC147_0.out); (case side3 => repeat (first | exact HR148_0.out | (with_reducible refine Kd.C_alloc ?_ _) | (with_reducible refine Kd.C_drewN ?_ _) | (with_reducible refine Kd.C_drew ?_))); (case side4 => exact HC148_0.out); rintro e w' ⟨rfl, ⟨nd, rfl⟩⟩; (try first | exact ⟨rfl, _, World.drewN_drewN _ _ _⟩ | exact ⟨rfl, _, Eq.trans (World.drewN_drewN _ _ _) (congrArg (World.drewN _) (Nat.add_assoc _ _ _))⟩); have p150 : 0 ≤ (x10_2 : Int) := of_decide_eq_true (by first | (with_reducible assumption) | assumption); have q150 : x10_2 < (l0.length : Int) := of_decide_eq_true (by first | (with_reducible assumption) | assumption); obtain ⟨ad150, A150_0, c150_0, e150, hx150_0, hl150_0, hi150_0⟩ := at_L1 HR0.out x10_2 p150 q150; obtain rfl : ad147 = ad150 := (by injection e150); have HR150_0 := Aside0.mk hi150_0; have HC150_0 := Aside0.mk hl150_0; clear hi150_0 hl150_0; replace p150 := eq_true p150; replace q150 := eq_true q150; have ea_ := Option.some.inj (hx147_0.symm.trans hx150_0); injection ea_ with ea_ en_ ec_; subst ea_; subst ec_; clear en_; have p151 : 0 ≤ (x7_1 : Int) := of_decide_eq_true (by first | (with_reducible assumption) | assumption); have q151 : x7_1 < (l0.length : Int) := of_decide_eq_true (by first | (with_reducible assumption) | assumption); obtain ⟨ad151, A151_0, c151_0, e151, hx151_0, hl151_0, hi151_0⟩ := at_L1 HR0.out x7_1 p151 q151; obtain rfl : ad147 = ad151 := (by injection e151); have HR151_0 := Aside0.mk hi151_0; have HC151_0 := Aside0.mk hl151_0; clear hi151_0 hl151_0; replace p151 := eq_true p151; replace q151 := eq_true q151; have ea_ := Option.some.inj (hx148_0.symm.trans hx151_0); injection ea_ with ea_ en_ ec_; subst ea_; subst ec_; clear en_) | (go_at_call 12; (with_reducible refine (spec_SameBag.calls k2 _ _ (rd_L1 l0 x10_2) _ _ (rd_L1 l0 x7_1) t152 _ ?side1 ?side2 ?side3 ?side4 A14.out).mono ?_); (case side1 => repeat (first | exact HR150_0.out | (with_reducible refine Kd.C_alloc ?_ _) | (with_reducible refine Kd.C_drewN ?_ _) | (with_reducible refine Kd.C_drew ?_))); (case side2 => exact HC150_0.out); (case side3 => repeat (first | exact HR151_0.out | (with_reducible refine Kd.C_alloc ?_ _) | (with_reducible refine Kd.C_drewN ?_ _) | (with_reducible refine Kd.C_drew ?_))); (case side4 => exact HC151_0.out); rintro e w' ⟨rfl, ⟨nd, rfl⟩⟩; (try first | exact ⟨rfl, _, World.drewN_drewN _ _ _⟩ | exact ⟨rfl, _, Eq.trans (World.drewN_drewN _ _ _) (congrArg (World.drewN _) (Nat.add_assoc _ _ _))⟩))); try go_wp2_with (first | (go_at_call 36; (with_reducible refine (spec_SameList.calls k2 _ _ (rd_L1 l0 x10_2) _ _ (rd_L1 l0 x7_1) false _ ?side1 ?side2 ?side3 ?side4 A11.out).mono ?_); (case side1 => repeat (first | exact HR147_0.out | (with_reducible refine Kd.C_alloc ?_ _) | (with_reducible refine Kd.C_drewN ?_ _) | (with_reducible refine Kd.C_drew ?_))); (case side2 => exact HC147_0.out); (case side3 => repeat (first | exact HR148_0.out | (with_reducible refine Kd.C_alloc ?_ _) | (with_reducible refine Kd.C_drewN ?_ _) | (with_reducible refine Kd.C_drew ?_))); (case side4 => exact HC148_0.out); rintro e w' ⟨rfl, ⟨nd, rfl⟩⟩; (try first | exact ⟨rfl, _, World.drewN_drewN _ _ _⟩ | exact ⟨rfl, _, Eq.trans (World.drewN_drewN _ _ _) (congrArg (World.drewN _) (Nat.add_assoc _ _ _))⟩); have p150 : 0 ≤ (x10_2 : Int) := of_decide_eq_true (by first | (with_reducible assumption) | assumption); have q150 : x10_2 < (l0.length : Int) := of_decide_eq_true (by first | (with_reducible assumption) | assumption); obtain ⟨ad150, A150_0, c150_0, e150, hx150_0, hl150_0, hi150_0⟩ := at_L1 HR0.out x10_2 p150 q150; obtain rfl : ad147 = ad150 := (by injection e150); have HR150_0 := Aside0.mk hi150_0; have HC150_0 := Aside0.mk hl150_0; clear hi150_0 hl150_0; replace p150 := eq_true p150; replace q150 := eq_true q150; have ea_ := Option.some.inj (hx147_0.symm.trans hx150_0); injection ea_ with ea_ en_ ec_; subst ea_; subst ec_; clear en_; have p151 : 0 ≤ (x7_1 : Int) := of_decide_eq_true (by first | (with_reducible assumption) | assumption); have q151 : x7_1 < (l0.length : Int) := of_decide_eq_true (by first | (with_reducible assumption) | assumption); obtain ⟨ad151, A151_0, c151_0, e151, hx151_0, hl151_0, hi151_0⟩ := at_L1 HR0.out x7_1 p151 q151; obtain rfl : ad147 = ad151 := (by injection e151); have HR151_0 := Aside0.mk hi151_0; have HC151_0 := Aside0.mk hl151_0; clear hi151_0 hl151_0; replace p151 := eq_true p151; replace q151 := eq_true q151; have ea_ := Option.some.inj (hx148_0.symm.trans hx151_0); injection ea_ with ea_ en_ ec_; subst ea_; subst ec_; clear en_) | (go_at_call 12; (with_reducible refine (spec_SameBag.calls k2 _ _ (rd_L1 l0 x10_2) _ _ (rd_L1 l0 x7_1) t152 _ ?side1 ?side2 ?side3 ?side4 A14.out).mono ?_); (case side1 => repeat (first | exact HR150_0.out | (with_reducible refine Kd.C_alloc ?_ _) | (with_reducible refine Kd.C_drewN ?_ _) | (with_reducible refine Kd.C_drew ?_))); (case side2 => exact HC150_0.out); (case side3 => repeat (first | exact HR151_0.out | (with_reducible refine Kd.C_alloc ?_ _) | (with_reducible refine Kd.C_drewN ?_ _) | (with_reducible refine Kd.C_drew ?_))); (case side4 => exact HC151_0.out); rintro e w' ⟨rfl, ⟨nd, rfl⟩⟩; (try first | exact ⟨rfl, _, World.drewN_drewN _ _ _⟩ | exact ⟨rfl, _, Eq.trans (World.drewN_drewN _ _ _) (congrArg (World.drewN _) (Nat.add_assoc _ _ _))⟩))))
                            go_meet
                            case rel => exact ⟨_, (t152), (by first | rfl | (simp; done) | (simp [*]; done)), H', ⟨by have := HK1.out; have := HK2.out; first | omega | exact Nat.le_refl _⟩, by repeat (first | exact Drawn0.refl _ | apply Drawn0.step)⟩
                          · replace c13 := Bool.eq_false_iff.mpr c13
                            subst c13
                            have H1 : (spec_SameRowBag.j2 k2 l0 l1 false x7_1 x8_2 x9_2 x10_2 false) = some r := by rw [if_neg (show ¬ (false = true) by decide)] at H; exact H
                            clear H
                            have H := H1
                            clear H1
                            have H' := Aside0.mk H
                            clear H
                            have p147 : 0 ≤ (x10_2 : Int) := of_decide_eq_true (by first | (with_reducible assumption) | assumption)
                            have q147 : x10_2 < (l0.length : Int) := of_decide_eq_true (by first | (with_reducible assumption) | assumption)
                            obtain ⟨ad147, A147_0, c147_0, e147, hx147_0, hl147_0, hi147_0⟩ := at_L1 HR0.out x10_2 p147 q147
                            cases e147
                            have HR147_0 := Aside0.mk hi147_0
                            have HC147_0 := Aside0.mk hl147_0
                            clear hi147_0 hl147_0
                            replace p147 := eq_true p147
                            replace q147 := eq_true q147
                            have p148 : 0 ≤ (x7_1 : Int) := of_decide_eq_true (by first | (with_reducible assumption) | assumption)
                            have q148 : x7_1 < (l0.length : Int) := of_decide_eq_true (by first | (with_reducible assumption) | assumption)
                            obtain ⟨ad148, A148_0, c148_0, e148, hx148_0, hl148_0, hi148_0⟩ := at_L1 HR0.out x7_1 p148 q148
                            obtain rfl : ad147 = ad148 := (by injection e148)
                            have HR148_0 := Aside0.mk hi148_0
                            have HC148_0 := Aside0.mk hl148_0
                            clear hi148_0 hl148_0
                            replace p148 := eq_true p148
                            replace q148 := eq_true q148
                            go_wp2_with (first | (go_at_call 36; (with_reducible refine (spec_SameList.calls k2 _ _ (rd_L1 l0 x10_2) _ _ (rd_L1 l0 x7_1) false _ ?side1 ?side2 ?side3 ?side4 A11.out).mono ?_); (case side1 => repeat (first | exact HR147_0.out | (with_reducible refine Kd.C_alloc ?_ _) | (with_reducible refine Kd.C_drewN ?_ _) | (with_reducible refine Kd.C_drew ?_))); (case side2 => exact HC147_0.out); (case side3 => repeat (first | exact HR148_0.out | (with_reducible refine Kd.C_alloc ?_ _) | (with_reducible refine Kd.C_drewN ?_ _) | (with_reducible refine Kd.C_drew ?_))); (case side4 => exact HC148_0.out); rintro e w' ⟨rfl, ⟨nd, rfl⟩⟩; (try first | exact ⟨rfl, _, World.drewN_drewN _ _ _⟩ | exact ⟨rfl, _, Eq.trans (World.drewN_drewN _ _ _) (congrArg (World.drewN _) (Nat.add_assoc _ _ _))⟩)))
                            repeat (go_quiet (first | (go_at_call 36; (with_reducible refine (spec_SameList.calls k2 _ _ (rd_L1 l0 x10_2) _ _ (rd_L1 l0 x7_1) false _ ?side1 ?side2 ?side3 ?side4 A11.out).mono ?_); (case side1 => repeat (first | exact HR147_0.out | (with_reducible refine Kd.C_alloc ?_ _) | (with_reducible refine Kd.C_drewN ?_ _) | (with_reducible refine Kd.C_drew ?_))); (case side2 => exact HC147_0.out); (case side3 => repeat (first | exact HR148_0.out | (with_reducible refine Kd.C_alloc ?_ _) | (with_reducible refine Kd.C_drewN ?_ _) | (with_reducible refine Kd.C_drew ?_))); (case side4 => exact HC148_0.out); rintro e w' ⟨rfl, ⟨nd, rfl⟩⟩; (try first | exact ⟨rfl, _, World.drewN_drewN _ _ _⟩ | exact ⟨rfl, _, Eq.trans (World.drewN_drewN _ _ _) (congrArg (World.drewN _) (Nat.add_assoc _ _ _))⟩))); try go_wp2_with (first | (go_at_call 36; (with_reducible refine (spec_SameList.calls k2 _ _ (rd_L1 l0 x10_2) _ _ (rd_L1 l0 x7_1) false _ ?side1 ?side2 ?side3 ?side4 A11.out).mono ?_); (case side1 => repeat (first | exact HR147_0.out | (with_reducible refine Kd.C_alloc ?_ _) | (with_reducible refine Kd.C_drewN ?_ _) | (with_reducible refine Kd.C_drew ?_))); (case side2 => exact HC147_0.out); (case side3 => repeat (first | exact HR148_0.out | (with_reducible refine Kd.C_alloc ?_ _) | (with_reducible refine Kd.C_drewN ?_ _) | (with_reducible refine Kd.C_drew ?_))); (case side4 => exact HC148_0.out); rintro e w' ⟨rfl, ⟨nd, rfl⟩⟩; (try first | exact ⟨rfl, _, World.drewN_drewN _ _ _⟩ | exact ⟨rfl, _, Eq.trans (World.drewN_drewN _ _ _) (congrArg (World.drewN _) (Nat.add_assoc _ _ _))⟩))))
                            go_meet
                            case rel => exact ⟨_, (false), (by first | rfl | (simp; done) | (simp [*]; done)), H', ⟨by have := HK1.out; have := HK2.out; first | omega | exact Nat.le_refl _⟩, by repeat (first | exact Drawn0.refl _ | apply Drawn0.step)⟩
                      · rw [if_neg c10] at H
                        exact absurd H (by simp)
                    · rw [if_neg c9] at H
                      exact absurd H (by simp)
                  · rw [if_neg c8] at H
                    exact absurd H (by simp)
                case rest =>
                  clear HC7
                  try clear c1
                  try clear p1
                  try clear q1
                  try clear hx1
                  try clear c2
                  try clear p2
                  try clear c4
                  try clear c4b0
                  try clear c4b1
                  try clear c4b2
                  try clear c5
                  try clear c5b0
                  try clear c6
                  try clear c6b0
                  try clear c8
                  try clear c8b0
                  try clear c9
                  try clear c9b0
                  try clear c10
                  try clear c10b0
                  try clear c12
                  try clear c13
                  try clear c14
                  try clear p14
                  try clear q14
                  try clear hx14
                  try clear hx147_0
                  try clear hx148_0
                  try clear hx150_0
                  try clear hx151_0
                  try clear p147
                  try clear p148
                  try clear p150
                  try clear p151
                  try clear p2
                  try clear q147
                  try clear q148
                  try clear q150
                  try clear q151
                  obtain ⟨kq, x50_6, rfl, HA, HJ6, ⟨mc6, rfl⟩⟩ := hcut
                  cases kq with
                  | zero => exact absurd HA.out (by simp [spec_SameRowBag.j2])
                  | succ kj6 =>
                    have H := HA.out
                    clear HA
                    simp only [spec_SameRowBag.j2] at H
                    have HC15 := Aside0.mk H
                    clear H
                    go_upto_if 50 with (fail)
                    repeat (go_quiet (fail); go_upto_if 50 with (fail))
                    go_cut [8] (fun v8 wc => ∃ (kq : Nat) (x8_14 : Int), v8 = .int .i64 x8_14 ∧ Aside0 (spec_SameRowBag.j3 kq l0 l1 a2 x7_1 x8_14 x9_2 x10_2 = some r) ∧ Aside0 (kq ≤ kj6) ∧ Drawn0 w wc)
                    case first =>
                      have H := HC15.out
                      clear HC15
                      by_cases c16 : x50_6 = true
                      · subst c16
                        have H1 : (spec_SameRowBag.j3 kj6 l0 l1 a2 x7_1 (wrap64 (x8_2 + 1)) x9_2 x10_2) = some r := by rw [if_pos rfl] at H; exact H
                        clear H
                        have H := H1
                        clear H1
                        have H' := Aside0.mk H
                        clear H
                        go_wp2
                        repeat (go_quiet (fail); try go_wp2)
                        go_meet
                        case rel => exact ⟨_, (wrap64 (x8_2 + 1)), (by first | rfl | (simp; done) | (simp [*]; done)), H', ⟨by have := HK1.out; have := HK2.out; have := HJ6.out; first | omega | exact Nat.le_refl _⟩, by repeat (first | exact Drawn0.refl _ | apply Drawn0.step)⟩
                      · replace c16 := Bool.eq_false_iff.mpr c16
                        subst c16
                        have H1 : (spec_SameRowBag.j3 kj6 l0 l1 a2 x7_1 x8_2 x9_2 x10_2) = some r := by rw [if_neg (show ¬ (false = true) by decide)] at H; exact H
                        clear H
                        have H := H1
                        clear H1
                        have H' := Aside0.mk H
                        clear H
                        go_wp2
                        repeat (go_quiet (fail); try go_wp2)
                        go_meet
                        case rel => exact ⟨_, (x8_2), (by first | rfl | (simp; done) | (simp [*]; done)), H', ⟨by have := HK1.out; have := HK2.out; have := HJ6.out; first | omega | exact Nat.le_refl _⟩, by repeat (first | exact Drawn0.refl _ | apply Drawn0.step)⟩
                    case rest =>
                      clear HC15
                      try clear c1
                      try clear p1
                      try clear q1
                      try clear hx1
                      try clear c2
                      try clear p2
                      try clear c4
                      try clear c4b0
                      try clear c4b1
                      try clear c4b2
                      try clear c5
                      try clear c5b0
                      try clear c6
                      try clear c6b0
                      try clear p6
                      try clear c8
                      try clear c8b0
                      try clear c9
                      try clear c9b0
                      try clear c10
                      try clear c10b0
                      try clear c12
                      try clear c13
                      try clear c14
                      try clear p14
                      try clear q14
                      try clear hx14
                      try clear c15
                      try clear p15
                      try clear q15
                      try clear hx15
                      try clear c16
                      try clear hx147_0
                      try clear hx148_0
                      try clear hx150_0
                      try clear hx151_0
                      try clear p1
                      try clear p14
                      try clear p147
                      try clear p148
                      try clear p150
                      try clear p151
                      try clear p2
                      try clear q1
                      try clear q14
                      try clear q147
                      try clear q148
                      try clear q150
                      try clear q151
                      obtain ⟨kq, x8_14, rfl, HA, HJ14, ⟨mc14, rfl⟩⟩ := hcut
                      cases kq with
                      | zero => exact absurd HA.out (by simp [spec_SameRowBag.j3])
                      | succ kj14 =>
                        have H := HA.out
                        clear HA
                        simp only [spec_SameRowBag.j3] at H
                        by_cases c17 : 0 ≤ x10_2
                        · rw [if_pos c17] at H
                          have c17b0 : decide (0 ≤ x10_2) = true := decide_eq_true c17
                          clear c17
                          by_cases c18 : x10_2 < (l1.length : Int)
                          · rw [if_pos c18] at H
                            have c18b0 : decide (x10_2 < (l1.length : Int)) = true := decide_eq_true c18
                            clear c18
                            by_cases c19 : 0 ≤ x7_1
                            · rw [if_pos c19] at H
                              have c19b0 : decide (0 ≤ x7_1) = true := decide_eq_true c19
                              clear c19
                              by_cases c20 : x7_1 < (l0.length : Int)
                              · rw [if_pos c20] at H
                                have c20b0 : decide (x7_1 < (l0.length : Int)) = true := decide_eq_true c20
                                clear c20
                                replace H := Option.bind_eq_some_iff.mp H
                                obtain ⟨t155, A210, H⟩ := H
                                replace H : (if t155 = true then (spec_SameRowBag.l1 kj14 l0 l1 a2 x7_1 x8_14 (wrap64 (x9_2 + 1)) (wrap64 (x10_2 + 1))) else (if a2 = true then ((spec_SameBag.f kj14 (rd_L1 l1 x10_2) (rd_L1 l0 x7_1)).bind fun t158 => (if t158 = true then (spec_SameRowBag.l1 kj14 l0 l1 a2 x7_1 x8_14 (wrap64 (x9_2 + 1)) (wrap64 (x10_2 + 1))) else (spec_SameRowBag.l1 kj14 l0 l1 a2 x7_1 x8_14 x9_2 (wrap64 (x10_2 + 1))))) else (spec_SameRowBag.l1 kj14 l0 l1 a2 x7_1 x8_14 x9_2 (wrap64 (x10_2 + 1))))) = some r := H
                                have A21 := Aside0.mk A210
                                clear A210
                                by_cases c22 : t155 = true
                                · subst c22
                                  have H1 : (spec_SameRowBag.l1 kj14 l0 l1 a2 x7_1 x8_14 (wrap64 (x9_2 + 1)) (wrap64 (x10_2 + 1))) = some r := by rw [if_pos rfl] at H; exact H
                                  clear H
                                  have H := H1
                                  clear H1
                                  have H' := Aside0.mk H
                                  clear H
                                  have p153 : 0 ≤ (x10_2 : Int) := of_decide_eq_true (by first | (with_reducible assumption) | assumption)
                                  have q153 : x10_2 < (l1.length : Int) := of_decide_eq_true (by first | (with_reducible assumption) | assumption)
                                  obtain ⟨ad153, A153_0, c153_0, e153, hx153_0, hl153_0, hi153_0⟩ := at_L1 HR1.out x10_2 p153 q153
                                  cases e153
                                  have HR153_0 := Aside0.mk hi153_0
                                  have HC153_0 := Aside0.mk hl153_0
                                  clear hi153_0 hl153_0
                                  replace p153 := eq_true p153
                                  replace q153 := eq_true q153
                                  have p154 : 0 ≤ (x7_1 : Int) := of_decide_eq_true (by first | (with_reducible assumption) | assumption)
                                  have q154 : x7_1 < (l0.length : Int) := of_decide_eq_true (by first | (with_reducible assumption) | assumption)
                                  obtain ⟨ad154, A154_0, c154_0, e154, hx154_0, hl154_0, hi154_0⟩ := at_L1 HR0.out x7_1 p154 q154
                                  cases e154
                                  have HR154_0 := Aside0.mk hi154_0
                                  have HC154_0 := Aside0.mk hl154_0
                                  clear hi154_0 hl154_0
                                  replace p154 := eq_true p154
                                  replace q154 := eq_true q154
                                  go_wp2_with (first | (go_at_call 36; (with_reducible refine (spec_SameList.calls kj14 _ _ (rd_L1 l1 x10_2) _ _ (rd_L1 l0 x7_1) true _ ?side1 ?side2 ?side3 ?side4 A21.out).mono ?_); (case side1 => repeat (first | exact HR153_0.out | (with_reducible refine Kd.C_alloc ?_ _) | (with_reducible refine Kd.C_drewN ?_ _) | (with_reducible refine Kd.C_drew ?_))); (case side2 => exact HC153_0.out); (case side3 => repeat (first | exact HR154_0.out | (with_reducible refine Kd.C_alloc ?_ _) | (with_reducible refine Kd.C_drewN ?_ _) | (with_reducible refine Kd.C_drew ?_))); (case side4 => exact HC154_0.out); rintro e w' ⟨rfl, ⟨nd, rfl⟩⟩; (try first | exact ⟨rfl, _, World.drewN_drewN _ _ _⟩ | exact ⟨rfl, _, Eq.trans (World.drewN_drewN _ _ _) (congrArg (World.drewN _) (Nat.add_assoc _ _ _))⟩)))
                                  repeat (go_quiet (first | (go_at_call 36; (with_reducible refine (spec_SameList.calls kj14 _ _ (rd_L1 l1 x10_2) _ _ (rd_L1 l0 x7_1) true _ ?side1 ?side2 ?side3 ?side4 A21.out).mono ?_); (case side1 => repeat (first | exact HR153_0.out | (with_reducible refine Kd.C_alloc ?_ _) | (with_reducible refine Kd.C_drewN ?_ _) | (with_reducible refine Kd.C_drew ?_))); (case side2 => exact HC153_0.out); (case side3 => repeat (first | exact HR154_0.out | (with_reducible refine Kd.C_alloc ?_ _) | (with_reducible refine Kd.C_drewN ?_ _) | (with_reducible refine Kd.C_drew ?_))); (case side4 => exact HC154_0.out); rintro e w' ⟨rfl, ⟨nd, rfl⟩⟩; (try first | exact ⟨rfl, _, World.drewN_drewN _ _ _⟩ | exact ⟨rfl, _, Eq.trans (World.drewN_drewN _ _ _) (congrArg (World.drewN _) (Nat.add_assoc _ _ _))⟩))); try go_wp2_with (first | (go_at_call 36; (with_reducible refine (spec_SameList.calls kj14 _ _ (rd_L1 l1 x10_2) _ _ (rd_L1 l0 x7_1) true _ ?side1 ?side2 ?side3 ?side4 A21.out).mono ?_); (case side1 => repeat (first | exact HR153_0.out | (with_reducible refine Kd.C_alloc ?_ _) | (with_reducible refine Kd.C_drewN ?_ _) | (with_reducible refine Kd.C_drew ?_))); (case side2 => exact HC153_0.out); (case side3 => repeat (first | exact HR154_0.out | (with_reducible refine Kd.C_alloc ?_ _) | (with_reducible refine Kd.C_drewN ?_ _) | (with_reducible refine Kd.C_drew ?_))); (case side4 => exact HC154_0.out); rintro e w' ⟨rfl, ⟨nd, rfl⟩⟩; (try first | exact ⟨rfl, _, World.drewN_drewN _ _ _⟩ | exact ⟨rfl, _, Eq.trans (World.drewN_drewN _ _ _) (congrArg (World.drewN _) (Nat.add_assoc _ _ _))⟩))))
                                  go_roundg kj14
                                  case measure => have := HK1.out; have := HK2.out; have := HJ6.out; have := HJ14.out; omega
                                  case rel => exact ⟨(x8_14), (wrap64 (x9_2 + 1)), (wrap64 (x10_2 + 1)), (by first | rfl | (simp; done) | (simp [*]; done)), (by first | rfl | (simp; done) | (simp [*]; done)), (by first | rfl | (simp; done) | (simp [*]; done)), H', ⟨by have := HK1.out; have := HK2.out; have := HJ6.out; have := HJ14.out; omega⟩, by repeat (first | exact Drawn0.refl _ | apply Drawn0.step)⟩
                                · replace c22 := Bool.eq_false_iff.mpr c22
                                  subst c22
                                  have H1 : (if a2 = true then ((spec_SameBag.f kj14 (rd_L1 l1 x10_2) (rd_L1 l0 x7_1)).bind fun t158 => (if t158 = true then (spec_SameRowBag.l1 kj14 l0 l1 a2 x7_1 x8_14 (wrap64 (x9_2 + 1)) (wrap64 (x10_2 + 1))) else (spec_SameRowBag.l1 kj14 l0 l1 a2 x7_1 x8_14 x9_2 (wrap64 (x10_2 + 1))))) else (spec_SameRowBag.l1 kj14 l0 l1 a2 x7_1 x8_14 x9_2 (wrap64 (x10_2 + 1)))) = some r := by rw [if_neg (show ¬ (false = true) by decide)] at H; exact H
                                  clear H
                                  have H := H1
                                  clear H1
                                  by_cases c23 : a2 = true
                                  · subst c23
                                    have H1 : ((spec_SameBag.f kj14 (rd_L1 l1 x10_2) (rd_L1 l0 x7_1)).bind fun t158 => (if t158 = true then (spec_SameRowBag.l1 kj14 l0 l1 true x7_1 x8_14 (wrap64 (x9_2 + 1)) (wrap64 (x10_2 + 1))) else (spec_SameRowBag.l1 kj14 l0 l1 true x7_1 x8_14 x9_2 (wrap64 (x10_2 + 1))))) = some r := by rw [if_pos rfl] at H; exact H
                                    clear H
                                    have H := H1
                                    clear H1
                                    replace H := Option.bind_eq_some_iff.mp H
                                    obtain ⟨t158, A240, H⟩ := H
                                    replace H : (if t158 = true then (spec_SameRowBag.l1 kj14 l0 l1 true x7_1 x8_14 (wrap64 (x9_2 + 1)) (wrap64 (x10_2 + 1))) else (spec_SameRowBag.l1 kj14 l0 l1 true x7_1 x8_14 x9_2 (wrap64 (x10_2 + 1)))) = some r := H
                                    have A24 := Aside0.mk A240
                                    clear A240
                                    by_cases c25 : t158 = true
                                    · subst c25
                                      have H1 : (spec_SameRowBag.l1 kj14 l0 l1 true x7_1 x8_14 (wrap64 (x9_2 + 1)) (wrap64 (x10_2 + 1))) = some r := by rw [if_pos rfl] at H; exact H
                                      clear H
                                      have H := H1
                                      clear H1
                                      have H' := Aside0.mk H
                                      clear H
                                      have p153 : 0 ≤ (x10_2 : Int) := of_decide_eq_true (by first | (with_reducible assumption) | assumption)
                                      have q153 : x10_2 < (l1.length : Int) := of_decide_eq_true (by first | (with_reducible assumption) | assumption)
                                      obtain ⟨ad153, A153_0, c153_0, e153, hx153_0, hl153_0, hi153_0⟩ := at_L1 HR1.out x10_2 p153 q153
                                      cases e153
                                      have HR153_0 := Aside0.mk hi153_0
                                      have HC153_0 := Aside0.mk hl153_0
                                      clear hi153_0 hl153_0
                                      replace p153 := eq_true p153
                                      replace q153 := eq_true q153
                                      have p154 : 0 ≤ (x7_1 : Int) := of_decide_eq_true (by first | (with_reducible assumption) | assumption)
                                      have q154 : x7_1 < (l0.length : Int) := of_decide_eq_true (by first | (with_reducible assumption) | assumption)
                                      obtain ⟨ad154, A154_0, c154_0, e154, hx154_0, hl154_0, hi154_0⟩ := at_L1 HR0.out x7_1 p154 q154
                                      cases e154
                                      have HR154_0 := Aside0.mk hi154_0
                                      have HC154_0 := Aside0.mk hl154_0
                                      clear hi154_0 hl154_0
                                      replace p154 := eq_true p154
                                      replace q154 := eq_true q154
                                      go_wp2_with (first | (go_at_call 36; (with_reducible refine (spec_SameList.calls kj14 _ _ (rd_L1 l1 x10_2) _ _ (rd_L1 l0 x7_1) false _ ?side1 ?side2 ?side3 ?side4 A21.out).mono ?_); (case side1 => repeat (first | exact HR153_0.out | (with_reducible refine Kd.C_alloc ?_ _) | (with_reducible refine Kd.C_drewN ?_ _) | (with_reducible refine Kd.C_drew ?_))); (case side2 => exact HC153_0.out); (case side3 => repeat (first | exact HR154_0.out | (with_reducible refine Kd.C_alloc ?_ _) | (with_reducible refine Kd.C_drewN ?_ _) | (with_reducible refine Kd.C_drew ?_))); (case side4 => exact HC154_0.out); rintro e w' ⟨rfl, ⟨nd, rfl⟩⟩; (try first | exact ⟨rfl, _, World.drewN_drewN _ _ _⟩ | exact ⟨rfl, _, Eq.trans (World.drewN_drewN _ _ _) (congrArg (World.drewN _) (Nat.add_assoc _ _ _))⟩); have p156 : 0 ≤ (x10_2 : Int) := of_decide_eq_true (by first | (with_reducible assumption) | assumption); have q156 : x10_2 < (l1.length : Int) := of_decide_eq_true (by first | (with_reducible assumption) | assumption); obtain ⟨ad156, A156_0, c156_0, e156, hx156_0, hl156_0, hi156_0⟩ := at_L1 HR1.out x10_2 p156 q156; obtain rfl : ad153 = ad156 := (by injection e156); have HR156_0 := Aside0.mk hi156_0; have HC156_0 := Aside0.mk hl156_0; clear hi156_0 hl156_0; replace p156 := eq_true p156; replace q156 := eq_true q156; have ea_ := Option.some.inj (hx153_0.symm.trans hx156_0); injection ea_ with ea_ en_ ec_; subst ea_; subst ec_; clear en_; have p157 : 0 ≤ (x7_1 : Int) := of_decide_eq_true (by first | (with_reducible assumption) | assumption); have q157 : x7_1 < (l0.length : Int) := of_decide_eq_true (by first | (with_reducible assumption) | assumption); obtain ⟨ad157, A157_0, c157_0, e157, hx157_0, hl157_0, hi157_0⟩ := at_L1 HR0.out x7_1 p157 q157; obtain rfl : ad154 = ad157 := (by injection e157); have HR157_0 := Aside0.mk hi157_0; have HC157_0 := Aside0.mk hl157_0; clear hi157_0 hl157_0; replace p157 := eq_true p157; replace q157 := eq_true q157; have ea_ := Option.some.inj (hx154_0.symm.trans hx157_0); injection ea_ with ea_ en_ ec_; subst ea_; subst ec_; clear en_) | (go_at_call 12; (with_reducible refine (spec_SameBag.calls kj14 _ _ (rd_L1 l1 x10_2) _ _ (rd_L1 l0 x7_1) true _ ?side1 ?side2 ?side3 ?side4 A24.out).mono ?_); (case side1 => repeat (first | exact HR156_0.out | (with_reducible refine Kd.C_alloc ?_ _) | (with_reducible refine Kd.C_drewN ?_ _) | (with_reducible refine Kd.C_drew ?_))); (case side2 => exact HC156_0.out); (case side3 => repeat (first | exact HR157_0.out | (with_reducible refine Kd.C_alloc ?_ _) | (with_reducible refine Kd.C_drewN ?_ _) | (with_reducible refine Kd.C_drew ?_))); (case side4 => exact HC157_0.out); rintro e w' ⟨rfl, ⟨nd, rfl⟩⟩; (try first | exact ⟨rfl, _, World.drewN_drewN _ _ _⟩ | exact ⟨rfl, _, Eq.trans (World.drewN_drewN _ _ _) (congrArg (World.drewN _) (Nat.add_assoc _ _ _))⟩)))
                                      repeat (go_quiet (first | (go_at_call 36; (with_reducible refine (spec_SameList.calls kj14 _ _ (rd_L1 l1 x10_2) _ _ (rd_L1 l0 x7_1) false _ ?side1 ?side2 ?side3 ?side4 A21.out).mono ?_); (case side1 => repeat (first | exact HR153_0.out | (with_reducible refine Kd.C_alloc ?_ _) | (with_reducible refine Kd.C_drewN ?_ _) | (with_reducible refine Kd.C_drew ?_))); (case side2 => exact HC153_0.out); (case side3 => repeat (first | exact HR154_0.out | (with_reducible refine Kd.C_alloc ?_ _) | (with_reducible refine Kd.C_drewN ?_ _) | (with_reducible refine Kd.C_drew ?_))); (case side4 => exact HC154_0.out); rintro e w' ⟨rfl, ⟨nd, rfl⟩⟩; (try first | exact ⟨rfl, _, World.drewN_drewN _ _ _⟩ | exact ⟨rfl, _, Eq.trans (World.drewN_drewN _ _ _) (congrArg (World.drewN _) (Nat.add_assoc _ _ _))⟩); have p156 : 0 ≤ (x10_2 : Int) := of_decide_eq_true (by first | (with_reducible assumption) | assumption); have q156 : x10_2 < (l1.length : Int) := of_decide_eq_true (by first | (with_reducible assumption) | assumption); obtain ⟨ad156, A156_0, c156_0, e156, hx156_0, hl156_0, hi156_0⟩ := at_L1 HR1.out x10_2 p156 q156; obtain rfl : ad153 = ad156 := (by injection e156); have HR156_0 := Aside0.mk hi156_0; have HC156_0 := Aside0.mk hl156_0; clear hi156_0 hl156_0; replace p156 := eq_true p156; replace q156 := eq_true q156; have ea_ := Option.some.inj (hx153_0.symm.trans hx156_0); injection ea_ with ea_ en_ ec_; subst ea_; subst ec_; clear en_; have p157 : 0 ≤ (x7_1 : Int) := of_decide_eq_true (by first | (with_reducible assumption) | assumption); have q157 : x7_1 < (l0.length : Int) := of_decide_eq_true (by first | (with_reducible assumption) | assumption); obtain ⟨ad157, A157_0, c157_0, e157, hx157_0, hl157_0, hi157_0⟩ := at_L1 HR0.out x7_1 p157 q157; obtain rfl : ad154 = ad157 := (by injection e157); have HR157_0 := Aside0.mk hi157_0; have HC157_0 := Aside0.mk hl157_0; clear hi157_0 hl157_0; replace p157 := eq_true p157; replace q157 := eq_true q157; have ea_ := Option.some.inj (hx154_0.symm.trans hx157_0); injection ea_ with ea_ en_ ec_; subst ea_; subst ec_; clear en_) | (go_at_call 12; (with_reducible refine (spec_SameBag.calls kj14 _ _ (rd_L1 l1 x10_2) _ _ (rd_L1 l0 x7_1) true _ ?side1 ?side2 ?side3 ?side4 A24.out).mono ?_); (case side1 => repeat (first | exact HR156_0.out | (with_reducible refine Kd.C_alloc ?_ _) | (with_reducible refine Kd.C_drewN ?_ _) | (with_reducible refine Kd.C_drew ?_))); (case side2 => exact HC156_0.out); (case side3 => repeat (first | exact HR157_0.out | (with_reducible refine Kd.C_alloc ?_ _) | (with_reducible refine Kd.C_drewN ?_ _) | (with_reducible refine Kd.C_drew ?_))); (case side4 => exact HC157_0.out); rintro e w' ⟨rfl, ⟨nd, rfl⟩⟩; (try first | exact ⟨rfl, _, World.drewN_drewN _ _ _⟩ | exact ⟨rfl, _, Eq.trans (World.drewN_drewN _ _ _) (congrArg (World.drewN _) (Nat.add_assoc _ _ _))⟩))); try go_wp2_with (first | (go_at_call 36; (with_reducible refine (spec_SameList.calls kj14 _ _ (rd_L1 l1 x10_2) _ _ (rd_L1 l0 x7_1) false _ ?side1 ?side2 ?side3 ?side4 A21.out).mono ?_); (case side1 => repeat (first | exact HR153_0.out | (with_reducible refine Kd.C_alloc ?_ _) | (with_reducible refine Kd.C_drewN ?_ _) | (with_reducible refine Kd.C_drew ?_))); (case side2 => exact HC153_0.out); (case side3 => repeat (first | exact HR154_0.out | (with_reducible refine Kd.C_alloc ?_ _) | (with_reducible refine Kd.C_drewN ?_ _) | (with_reducible refine Kd.C_drew ?_))); (case side4 => exact HC154_0.out); rintro e w' ⟨rfl, ⟨nd, rfl⟩⟩; (try first | exact ⟨rfl, _, World.drewN_drewN _ _ _⟩ | exact ⟨rfl, _, Eq.trans (World.drewN_drewN _ _ _) (congrArg (World.drewN _) (Nat.add_assoc _ _ _))⟩); have p156 : 0 ≤ (x10_2 : Int) := of_decide_eq_true (by first | (with_reducible assumption) | assumption); have q156 : x10_2 < (l1.length : Int) := of_decide_eq_true (by first | (with_reducible assumption) | assumption); obtain ⟨ad156, A156_0, c156_0, e156, hx156_0, hl156_0, hi156_0⟩ := at_L1 HR1.out x10_2 p156 q156; obtain rfl : ad153 = ad156 := (by injection e156); have HR156_0 := Aside0.mk hi156_0; have HC156_0 := Aside0.mk hl156_0; clear hi156_0 hl156_0; replace p156 := eq_true p156; replace q156 := eq_true q156; have ea_ := Option.some.inj (hx153_0.symm.trans hx156_0); injection ea_ with ea_ en_ ec_; subst ea_; subst ec_; clear en_; have p157 : 0 ≤ (x7_1 : Int) := of_decide_eq_true (by first | (with_reducible assumption) | assumption); have q157 : x7_1 < (l0.length : Int) := of_decide_eq_true (by first | (with_reducible assumption) | assumption); obtain ⟨ad157, A157_0, c157_0, e157, hx157_0, hl157_0, hi157_0⟩ := at_L1 HR0.out x7_1 p157 q157; obtain rfl : ad154 = ad157 := (by injection e157); have HR157_0 := Aside0.mk hi157_0; have HC157_0 := Aside0.mk hl157_0; clear hi157_0 hl157_0; replace p157 := eq_true p157; replace q157 := eq_true q157; have ea_ := Option.some.inj (hx154_0.symm.trans hx157_0); injection ea_ with ea_ en_ ec_; subst ea_; subst ec_; clear en_) | (go_at_call 12; (with_reducible refine (spec_SameBag.calls kj14 _ _ (rd_L1 l1 x10_2) _ _ (rd_L1 l0 x7_1) true _ ?side1 ?side2 ?side3 ?side4 A24.out).mono ?_); (case side1 => repeat (first | exact HR156_0.out | (with_reducible refine Kd.C_alloc ?_ _) | (with_reducible refine Kd.C_drewN ?_ _) | (with_reducible refine Kd.C_drew ?_))); (case side2 => exact HC156_0.out); (case side3 => repeat (first | exact HR157_0.out | (with_reducible refine Kd.C_alloc ?_ _) | (with_reducible refine Kd.C_drewN ?_ _) | (with_reducible refine Kd.C_drew ?_))); (case side4 => exact HC157_0.out); rintro e w' ⟨rfl, ⟨nd, rfl⟩⟩; (try first | exact ⟨rfl, _, World.drewN_drewN _ _ _⟩ | exact ⟨rfl, _, Eq.trans (World.drewN_drewN _ _ _) (congrArg (World.drewN _) (Nat.add_assoc _ _ _))⟩))))
                                      go_roundg kj14
                                      case measure => have := HK1.out; have := HK2.out; have := HJ6.out; have := HJ14.out; omega
                                      case rel => exact ⟨(x8_14), (wrap64 (x9_2 + 1)), (wrap64 (x10_2 + 1)), (by first | rfl | (simp; done) | (simp [*]; done)), (by first | rfl | (simp; done) | (simp [*]; done)), (by first | rfl | (simp; done) | (simp [*]; done)), H', ⟨by have := HK1.out; have := HK2.out; have := HJ6.out; have := HJ14.out; omega⟩, by repeat (first | exact Drawn0.refl _ | apply Drawn0.step)⟩
                                    · replace c25 := Bool.eq_false_iff.mpr c25
                                      subst c25
                                      have H1 : (spec_SameRowBag.l1 kj14 l0 l1 true x7_1 x8_14 x9_2 (wrap64 (x10_2 + 1))) = some r := by rw [if_neg (show ¬ (false = true) by decide)] at H; exact H
                                      clear H
                                      have H := H1
                                      clear H1
                                      have H' := Aside0.mk H
                                      clear H
                                      have p153 : 0 ≤ (x10_2 : Int) := of_decide_eq_true (by first | (with_reducible assumption) | assumption)
                                      have q153 : x10_2 < (l1.length : Int) := of_decide_eq_true (by first | (with_reducible assumption) | assumption)
                                      obtain ⟨ad153, A153_0, c153_0, e153, hx153_0, hl153_0, hi153_0⟩ := at_L1 HR1.out x10_2 p153 q153
                                      cases e153
                                      have HR153_0 := Aside0.mk hi153_0
                                      have HC153_0 := Aside0.mk hl153_0
                                      clear hi153_0 hl153_0
                                      replace p153 := eq_true p153
                                      replace q153 := eq_true q153
                                      have p154 : 0 ≤ (x7_1 : Int) := of_decide_eq_true (by first | (with_reducible assumption) | assumption)
                                      have q154 : x7_1 < (l0.length : Int) := of_decide_eq_true (by first | (with_reducible assumption) | assumption)
                                      obtain ⟨ad154, A154_0, c154_0, e154, hx154_0, hl154_0, hi154_0⟩ := at_L1 HR0.out x7_1 p154 q154
                                      cases e154
                                      have HR154_0 := Aside0.mk hi154_0
                                      have HC154_0 := Aside0.mk hl154_0
                                      clear hi154_0 hl154_0
                                      replace p154 := eq_true p154
                                      replace q154 := eq_true q154
                                      go_wp2_with (first | (go_at_call 36; (with_reducible refine (spec_SameList.calls kj14 _ _ (rd_L1 l1 x10_2) _ _ (rd_L1 l0 x7_1) false _ ?side1 ?side2 ?side3 ?side4 A21.out).mono ?_); (case side1 => repeat (first | exact HR153_0.out | (with_reducible refine Kd.C_alloc ?_ _) | (with_reducible refine Kd.C_drewN ?_ _) | (with_reducible refine Kd.C_drew ?_))); (case side2 => exact HC153_0.out); (case side3 => repeat (first | exact HR154_0.out | (with_reducible refine Kd.C_alloc ?_ _) | (with_reducible refine Kd.C_drewN ?_ _) | (with_reducible refine Kd.C_drew ?_))); (case side4 => exact HC154_0.out); rintro e w' ⟨rfl, ⟨nd, rfl⟩⟩; (try first | exact ⟨rfl, _, World.drewN_drewN _ _ _⟩ | exact ⟨rfl, _, Eq.trans (World.drewN_drewN _ _ _) (congrArg (World.drewN _) (Nat.add_assoc _ _ _))⟩); have p156 : 0 ≤ (x10_2 : Int) := of_decide_eq_true (by first | (with_reducible assumption) | assumption); have q156 : x10_2 < (l1.length : Int) := of_decide_eq_true (by first | (with_reducible assumption) | assumption); obtain ⟨ad156, A156_0, c156_0, e156, hx156_0, hl156_0, hi156_0⟩ := at_L1 HR1.out x10_2 p156 q156; obtain rfl : ad153 = ad156 := (by injection e156); have HR156_0 := Aside0.mk hi156_0; have HC156_0 := Aside0.mk hl156_0; clear hi156_0 hl156_0; replace p156 := eq_true p156; replace q156 := eq_true q156; have ea_ := Option.some.inj (hx153_0.symm.trans hx156_0); injection ea_ with ea_ en_ ec_; subst ea_; subst ec_; clear en_; have p157 : 0 ≤ (x7_1 : Int) := of_decide_eq_true (by first | (with_reducible assumption) | assumption); have q157 : x7_1 < (l0.length : Int) := of_decide_eq_true (by first | (with_reducible assumption) | assumption); obtain ⟨ad157, A157_0, c157_0, e157, hx157_0, hl157_0, hi157_0⟩ := at_L1 HR0.out x7_1 p157 q157; obtain rfl : ad154 = ad157 := (by injection e157); have HR157_0 := Aside0.mk hi157_0; have HC157_0 := Aside0.mk hl157_0; clear hi157_0 hl157_0; replace p157 := eq_true p157; replace q157 := eq_true q157; have ea_ := Option.some.inj (hx154_0.symm.trans hx157_0); injection ea_ with ea_ en_ ec_; subst ea_; subst ec_; clear en_) | (go_at_call 12; (with_reducible refine (spec_SameBag.calls kj14 _ _ (rd_L1 l1 x10_2) _ _ (rd_L1 l0 x7_1) false _ ?side1 ?side2 ?side3 ?side4 A24.out).mono ?_); (case side1 => repeat (first | exact HR156_0.out | (with_reducible refine Kd.C_alloc ?_ _) | (with_reducible refine Kd.C_drewN ?_ _) | (with_reducible refine Kd.C_drew ?_))); (case side2 => exact HC156_0.out); (case side3 => repeat (first | exact HR157_0.out | (with_reducible refine Kd.C_alloc ?_ _) | (with_reducible refine Kd.C_drewN ?_ _) | (with_reducible refine Kd.C_drew ?_))); (case side4 => exact HC157_0.out); rintro e w' ⟨rfl, ⟨nd, rfl⟩⟩; (try first | exact ⟨rfl, _, World.drewN_drewN _ _ _⟩ | exact ⟨rfl, _, Eq.trans (World.drewN_drewN _ _ _) (congrArg (World.drewN _) (Nat.add_assoc _ _ _))⟩)))
                                      repeat (go_quiet (first | (go_at_call 36; (with_reducible refine (spec_SameList.calls kj14 _ _ (rd_L1 l1 x10_2) _ _ (rd_L1 l0 x7_1) false _ ?side1 ?side2 ?side3 ?side4 A21.out).mono ?_); (case side1 => repeat (first | exact HR153_0.out | (with_reducible refine Kd.C_alloc ?_ _) | (with_reducible refine Kd.C_drewN ?_ _) | (with_reducible refine Kd.C_drew ?_))); (case side2 => exact HC153_0.out); (case side3 => repeat (first | exact HR154_0.out | (with_reducible refine Kd.C_alloc ?_ _) | (with_reducible refine Kd.C_drewN ?_ _) | (with_reducible refine Kd.C_drew ?_))); (case side4 => exact HC154_0.out); rintro e w' ⟨rfl, ⟨nd, rfl⟩⟩; (try first | exact ⟨rfl, _, World.drewN_drewN _ _ _⟩ | exact ⟨rfl, _, Eq.trans (World.drewN_drewN _ _ _) (congrArg (World.drewN _) (Nat.add_assoc _ _ _))⟩); have p156 : 0 ≤ (x10_2 : Int) := of_decide_eq_true (by first | (with_reducible assumption) | assumption); have q156 : x10_2 < (l1.length : Int) := of_decide_eq_true (by first | (with_reducible assumption) | assumption); obtain ⟨ad156, A156_0, c156_0, e156, hx156_0, hl156_0, hi156_0⟩ := at_L1 HR1.out x10_2 p156 q156; obtain rfl : ad153 = ad156 := (by injection e156); have HR156_0 := Aside0.mk hi156_0; have HC156_0 := Aside0.mk hl156_0; clear hi156_0 hl156_0; replace p156 := eq_true p156; replace q156 := eq_true q156; have ea_ := Option.some.inj (hx153_0.symm.trans hx156_0); injection ea_ with ea_ en_ ec_; subst ea_; subst ec_; clear en_; have p157 : 0 ≤ (x7_1 : Int) := of_decide_eq_true (by first | (with_reducible assumption) | assumption); have q157 : x7_1 < (l0.length : Int) := of_decide_eq_true (by first | (with_reducible assumption) | assumption); obtain ⟨ad157, A157_0, c157_0, e157, hx157_0, hl157_0, hi157_0⟩ := at_L1 HR0.out x7_1 p157 q157; obtain rfl : ad154 = ad157 := (by injection e157); have HR157_0 := Aside0.mk hi157_0; have HC157_0 := Aside0.mk hl157_0; clear hi157_0 hl157_0; replace p157 := eq_true p157; replace q157 := eq_true q157; have ea_ := Option.some.inj (hx154_0.symm.trans hx157_0); injection ea_ with ea_ en_ ec_; subst ea_; subst ec_; clear en_) | (go_at_call 12; (with_reducible refine (spec_SameBag.calls kj14 _ _ (rd_L1 l1 x10_2) _ _ (rd_L1 l0 x7_1) false _ ?side1 ?side2 ?side3 ?side4 A24.out).mono ?_); (case side1 => repeat (first | exact HR156_0.out | (with_reducible refine Kd.C_alloc ?_ _) | (with_reducible refine Kd.C_drewN ?_ _) | (with_reducible refine Kd.C_drew ?_))); (case side2 => exact HC156_0.out); (case side3 => repeat (first | exact HR157_0.out | (with_reducible refine Kd.C_alloc ?_ _) | (with_reducible refine Kd.C_drewN ?_ _) | (with_reducible refine Kd.C_drew ?_))); (case side4 => exact HC157_0.out); rintro e w' ⟨rfl, ⟨nd, rfl⟩⟩; (try first | exact ⟨rfl, _, World.drewN_drewN _ _ _⟩ | exact ⟨rfl, _, Eq.trans (World.drewN_drewN _ _ _) (congrArg (World.drewN _) (Nat.add_assoc _ _ _))⟩))); try go_wp2_with (first | (go_at_call 36; (with_reducible refine (spec_SameList.calls kj14 _ _ (rd_L1 l1 x10_2) _ _ (rd_L1 l0 x7_1) false _ ?side1 ?side2 ?side3 ?side4 A21.out).mono ?_); (case side1 => repeat (first | exact HR153_0.out | (with_reducible refine Kd.C_alloc ?_ _) | (with_reducible refine Kd.C_drewN ?_ _) | (with_reducible refine Kd.C_drew ?_))); (case side2 => exact HC153_0.out); (case side3 => repeat (first | exact HR154_0.out | (with_reducible refine Kd.C_alloc ?_ _) | (with_reducible refine Kd.C_drewN ?_ _) | (with_reducible refine Kd.C_drew ?_))); (case side4 => exact HC154_0.out); rintro e w' ⟨rfl, ⟨nd, rfl⟩⟩; (try first | exact ⟨rfl, _, World.drewN_drewN _ _ _⟩ | exact ⟨rfl, _, Eq.trans (World.drewN_drewN _ _ _) (congrArg (World.drewN _) (Nat.add_assoc _ _ _))⟩); have p156 : 0 ≤ (x10_2 : Int) := of_decide_eq_true (by first | (with_reducible assumption) | assumption); have q156 : x10_2 < (l1.length : Int) := of_decide_eq_true (by first | (with_reducible assumption) | assumption); obtain ⟨ad156, A156_0, c156_0, e156, hx156_0, hl156_0, hi156_0⟩ := at_L1 HR1.out x10_2 p156 q156; obtain rfl : ad153 = ad156 := (by injection e156); have HR156_0 := Aside0.mk hi156_0; have HC156_0 := Aside0.mk hl156_0; clear hi156_0 hl156_0; replace p156 := eq_true p156; replace q156 := eq_true q156; have ea_ := Option.some.inj (hx153_0.symm.trans hx156_0); injection ea_ with ea_ en_ ec_; subst ea_; subst ec_; clear en_; have p157 : 0 ≤ (x7_1 : Int) := of_decide_eq_true (by first | (with_reducible assumption) | assumption); have q157 : x7_1 < (l0.length : Int) := of_decide_eq_true (by first | (with_reducible assumption) | assumption); obtain ⟨ad157, A157_0, c157_0, e157, hx157_0, hl157_0, hi157_0⟩ := at_L1 HR0.out x7_1 p157 q157; obtain rfl : ad154 = ad157 := (by injection e157); have HR157_0 := Aside0.mk hi157_0; have HC157_0 := Aside0.mk hl157_0; clear hi157_0 hl157_0; replace p157 := eq_true p157; replace q157 := eq_true q157; have ea_ := Option.some.inj (hx154_0.symm.trans hx157_0); injection ea_ with ea_ en_ ec_; subst ea_; subst ec_; clear en_) | (go_at_call 12; (with_reducible refine (spec_SameBag.calls kj14 _ _ (rd_L1 l1 x10_2) _ _ (rd_L1 l0 x7_1) false _ ?side1 ?side2 ?side3 ?side4 A24.out).mono ?_); (case side1 => repeat (first | exact HR156_0.out | (with_reducible refine Kd.C_alloc ?_ _) | (with_reducible refine Kd.C_drewN ?_ _) | (with_reducible refine Kd.C_drew ?_))); (case side2 => exact HC156_0.out); (case side3 => repeat (first | exact HR157_0.out | (with_reducible refine Kd.C_alloc ?_ _) | (with_reducible refine Kd.C_drewN ?_ _) | (with_reducible refine Kd.C_drew ?_))); (case side4 => exact HC157_0.out); rintro e w' ⟨rfl, ⟨nd, rfl⟩⟩; (try first | exact ⟨rfl, _, World.drewN_drewN _ _ _⟩ | exact ⟨rfl, _, Eq.trans (World.drewN_drewN _ _ _) (congrArg (World.drewN _) (Nat.add_assoc _ _ _))⟩))))
                                      go_roundg kj14
                                      case measure => have := HK1.out; have := HK2.out; have := HJ6.out; have := HJ14.out; omega
                                      case rel => exact ⟨(x8_14), (x9_2), (wrap64 (x10_2 + 1)), (by first | rfl | (simp; done) | (simp [*]; done)), (by first | rfl | (simp; done) | (simp [*]; done)), (by first | rfl | (simp; done) | (simp [*]; done)), H', ⟨by have := HK1.out; have := HK2.out; have := HJ6.out; have := HJ14.out; omega⟩, by repeat (first | exact Drawn0.refl _ | apply Drawn0.step)⟩
                                  · replace c23 := Bool.eq_false_iff.mpr c23
                                    subst c23
                                    have H1 : (spec_SameRowBag.l1 kj14 l0 l1 false x7_1 x8_14 x9_2 (wrap64 (x10_2 + 1))) = some r := by rw [if_neg (show ¬ (false = true) by decide)] at H; exact H
                                    clear H
                                    have H := H1
                                    clear H1
                                    have H' := Aside0.mk H
                                    clear H
                                    have p153 : 0 ≤ (x10_2 : Int) := of_decide_eq_true (by first | (with_reducible assumption) | assumption)
                                    have q153 : x10_2 < (l1.length : Int) := of_decide_eq_true (by first | (with_reducible assumption) | assumption)
                                    obtain ⟨ad153, A153_0, c153_0, e153, hx153_0, hl153_0, hi153_0⟩ := at_L1 HR1.out x10_2 p153 q153
                                    cases e153
                                    have HR153_0 := Aside0.mk hi153_0
                                    have HC153_0 := Aside0.mk hl153_0
                                    clear hi153_0 hl153_0
                                    replace p153 := eq_true p153
                                    replace q153 := eq_true q153
                                    have p154 : 0 ≤ (x7_1 : Int) := of_decide_eq_true (by first | (with_reducible assumption) | assumption)
                                    have q154 : x7_1 < (l0.length : Int) := of_decide_eq_true (by first | (with_reducible assumption) | assumption)
                                    obtain ⟨ad154, A154_0, c154_0, e154, hx154_0, hl154_0, hi154_0⟩ := at_L1 HR0.out x7_1 p154 q154
                                    cases e154
                                    have HR154_0 := Aside0.mk hi154_0
                                    have HC154_0 := Aside0.mk hl154_0
                                    clear hi154_0 hl154_0
                                    replace p154 := eq_true p154
                                    replace q154 := eq_true q154
                                    go_wp2_with (first | (go_at_call 36; (with_reducible refine (spec_SameList.calls kj14 _ _ (rd_L1 l1 x10_2) _ _ (rd_L1 l0 x7_1) false _ ?side1 ?side2 ?side3 ?side4 A21.out).mono ?_); (case side1 => repeat (first | exact HR153_0.out | (with_reducible refine Kd.C_alloc ?_ _) | (with_reducible refine Kd.C_drewN ?_ _) | (with_reducible refine Kd.C_drew ?_))); (case side2 => exact HC153_0.out); (case side3 => repeat (first | exact HR154_0.out | (with_reducible refine Kd.C_alloc ?_ _) | (with_reducible refine Kd.C_drewN ?_ _) | (with_reducible refine Kd.C_drew ?_))); (case side4 => exact HC154_0.out); rintro e w' ⟨rfl, ⟨nd, rfl⟩⟩; (try first | exact ⟨rfl, _, World.drewN_drewN _ _ _⟩ | exact ⟨rfl, _, Eq.trans (World.drewN_drewN _ _ _) (congrArg (World.drewN _) (Nat.add_assoc _ _ _))⟩)))
                                    repeat (go_quiet (first | (go_at_call 36; (with_reducible refine (spec_SameList.calls kj14 _ _ (rd_L1 l1 x10_2) _ _ (rd_L1 l0 x7_1) false _ ?side1 ?side2 ?side3 ?side4 A21.out).mono ?_); (case side1 => repeat (first | exact HR153_0.out | (with_reducible refine Kd.C_alloc ?_ _) | (with_reducible refine Kd.C_drewN ?_ _) | (with_reducible refine Kd.C_drew ?_))); (case side2 => exact HC153_0.out); (case side3 => repeat (first | exact HR154_0.out | (with_reducible refine Kd.C_alloc ?_ _) | (with_reducible refine Kd.C_drewN ?_ _) | (with_reducible refine Kd.C_drew ?_))); (case side4 => exact HC154_0.out); rintro e w' ⟨rfl, ⟨nd, rfl⟩⟩; (try first | exact ⟨rfl, _, World.drewN_drewN _ _ _⟩ | exact ⟨rfl, _, Eq.trans (World.drewN_drewN _ _ _) (congrArg (World.drewN _) (Nat.add_assoc _ _ _))⟩))); try go_wp2_with (first | (go_at_call 36; (with_reducible refine (spec_SameList.calls kj14 _ _ (rd_L1 l1 x10_2) _ _ (rd_L1 l0 x7_1) false _ ?side1 ?side2 ?side3 ?side4 A21.out).mono ?_); (case side1 => repeat (first | exact HR153_0.out | (with_reducible refine Kd.C_alloc ?_ _) | (with_reducible refine Kd.C_drewN ?_ _) | (with_reducible refine Kd.C_drew ?_))); (case side2 => exact HC153_0.out); (case side3 => repeat (first | exact HR154_0.out | (with_reducible refine Kd.C_alloc ?_ _) | (with_reducible refine Kd.C_drewN ?_ _) | (with_reducible refine Kd.C_drew ?_))); (case side4 => exact HC154_0.out); rintro e w' ⟨rfl, ⟨nd, rfl⟩⟩; (try first | exact ⟨rfl, _, World.drewN_drewN _ _ _⟩ | exact ⟨rfl, _, Eq.trans (World.drewN_drewN _ _ _) (congrArg (World.drewN _) (Nat.add_assoc _ _ _))⟩))))
                                    go_roundg kj14
                                    case measure => have := HK1.out; have := HK2.out; have := HJ6.out; have := HJ14.out; omega
                                    case rel => exact ⟨(x8_14), (x9_2), (wrap64 (x10_2 + 1)), (by first | rfl | (simp; done) | (simp [*]; done)), (by first | rfl | (simp; done) | (simp [*]; done)), (by first | rfl | (simp; done) | (simp [*]; done)), H', ⟨by have := HK1.out; have := HK2.out; have := HJ6.out; have := HJ14.out; omega⟩, by repeat (first | exact Drawn0.refl _ | apply Drawn0.step)⟩
                              · rw [if_neg c20] at H
                                exact absurd H (by simp)
                            · rw [if_neg c19] at H
                              exact absurd H (by simp)
                          · rw [if_neg c18] at H
                            exact absurd H (by simp)
                        · rw [if_neg c17] at H
                          exact absurd H (by simp)
              · rw [if_neg c6] at H
                have c6b0 : decide (x10_2 < (l0.length : Int)) = false := decide_eq_false c6
                clear c6
                by_cases c26 : x8_2 = x9_2
                · rw [if_pos c26] at H
                  have c26b0 : (x8_2 == x9_2) = true := beq_iff_eq.mpr c26
                  have c26b1 : (x8_2 != x9_2) = false := bne_eq_false_iff_eq.mpr c26
                  clear c26
                  have H' := Aside0.mk H
                  clear H
                  go_wp2
                  repeat (go_quiet (fail); try go_wp2)
                  go_roundg k2
                  case measure => have := HK1.out; have := HK2.out; omega
                  case rel => exact ⟨(wrap64 (x7_1 + 1)), (by first | rfl | (simp; done) | (simp [*]; done)), H', ⟨by have := HK1.out; have := HK2.out; omega⟩, by repeat (first | exact Drawn0.refl _ | apply Drawn0.step)⟩
                · rw [if_neg c26] at H
                  have c26b0 : (x8_2 == x9_2) = false := beq_eq_false_iff_ne.mpr c26
                  have c26b1 : (x8_2 != x9_2) = true := bne_iff_ne.mpr c26
                  obtain rfl := Option.some.inj H
                  go_wp2
                  repeat (go_quiet (fail); try go_wp2)
                  go_ret
                  exact ⟨by first | rfl | (simp; done) | (simp [*]; done), by repeat (first | exact Drawn0.refl _ | apply Drawn0.step)⟩
        · rw [if_neg c5] at H
          have c5b0 : decide (x7_1 < (l0.length : Int)) = false := decide_eq_false c5
          clear c5
          obtain rfl := Option.some.inj H
          go_wp2
          repeat (go_quiet (fail); try go_wp2)
          go_ret
          exact ⟨by first | rfl | (simp; done) | (simp [*]; done), by repeat (first | exact Drawn0.refl _ | apply Drawn0.step)⟩
  · rw [if_neg c4] at H
    have c4b0 : ((l0.length : Int) == (l1.length : Int)) = false := beq_eq_false_iff_ne.mpr c4
    have c4b1 : ((l0.length : Int) != (l1.length : Int)) = true := bne_iff_ne.mpr c4
    have c4b2 : (l0.length == l1.length) = false := by first | simpa using c4 | (simp at c4 ⊢; omega)
    obtain rfl := Option.some.inj H
    go_enter Try.func20, Try.ntmps20
    go_wp2
    repeat (go_quiet (fail); try go_wp2)
    go_ret
    exact ⟨by first | rfl | (simp; done) | (simp [*]; done), by repeat (first | exact Drawn0.refl _ | apply Drawn0.step)⟩

/-! ### laws_level: function 21 -/
def laws_level.l0 : Nat → List (List ByteArray) → Int → Option (Bool)
  | 0, _, _ => none
  | k + 1, x0, x3 => if x3 < (x0.length : Int) then (if 0 ≤ x3 then (if 0 < (x0.length : Int) then (if ((rd_L1 x0 x3).length : Int) = ((rd_L1 x0 0).length : Int) then (laws_level.l0 k x0 (wrap64 (x3 + 1))) else (some false)) else (none)) else (none)) else (some true)
def laws_level.f (k : Nat) (l0 : List (List ByteArray)) : Option (Bool) := laws_level.l0 k l0 0
theorem laws_level.mono_l : ∀ k, (∀ y0 y1, LeO (laws_level.l0 k y0 y1) (laws_level.l0 (k + 1) y0 y1))
  | 0 => fun _ _ r h => by simp [laws_level.l0] at h
  | k + 1 => by
    have ih0 := laws_level.mono_l k
    · intro y0 y1
      unfold laws_level.l0
      repeat' first
      | (with_reducible exact ih0 _ _)
      | (with_reducible exact LeO.refl _)
      | (with_reducible exact LeO.none _)
      | (with_reducible refine LeO.ite ?_ ?_)
      | (with_reducible refine LeO.bind ?_ (fun _ => ?_))
      | exact ih0 _ _
      | exact LeO.none _
      | refine LeO.ite ?_ ?_
      | refine LeO.bind ?_ (fun _ => ?_)
theorem laws_level.mono : ∀ a0 k, LeO (laws_level.f k a0) (laws_level.f (k + 1) a0) := by
  intro a0 k
  have ih0 := laws_level.mono_l k
  unfold laws_level.f
  repeat' first
      | (with_reducible exact ih0 _ _)
      | (with_reducible exact LeO.refl _)
      | (with_reducible exact LeO.none _)
      | (with_reducible refine LeO.ite ?_ ?_)
      | (with_reducible refine LeO.bind ?_ (fun _ => ?_))
      | exact ih0 _ _
      | exact LeO.none _
      | refine LeO.ite ?_ ?_
      | refine LeO.bind ?_ (fun _ => ?_)
set_option maxHeartbeats 8000000 in
set_option maxRecDepth 100000 in
theorem laws_level.calls (k : Nat) (A0 : Option Addr) (c0 : Nat) (l0 : List (List ByteArray)) (r : Bool) (w : World) (hr0 : Kd.C (Kd.slice 9 Kd.string) w A0 l0.length l0) (hc0 : l0.length ≤ c0) (h : laws_level.f k l0 = some r) :
    Calls Try.prog 21 #[.slice A0 l0.length c0] w fun e w' => e = .returned (.bool r) ∧ Drawn0 w w' := by
  have HR0 := Aside0.mk hr0
  have HC0 := Aside0.mk hc0
  clear hr0 hc0
  have H : (laws_level.l0 k l0 0) = some r := h
  clear h
  have H' := Aside0.mk H
  clear H
  go_enter Try.func21, Try.ntmps21
  go_wp2
  repeat (go_quiet (fail); try go_wp2)
  go_loopg [3] k (fun kq v3 w' => ∃ (x3_1 : Int), v3 = .int .i64 x3_1 ∧ Aside0 (laws_level.l0 kq l0 x3_1 = some r) ∧ Aside0 (kq ≤ k) ∧ Drawn0 w w')
  case atStart => exact ⟨(0), (by first | rfl | (simp; done) | (simp [*]; done)), H', ⟨Nat.le_refl _⟩, by repeat (first | exact Drawn0.refl _ | apply Drawn0.step)⟩
  case round =>
    clear H'
    obtain ⟨x3_1, rfl, HA, HK1, ⟨m1, rfl⟩⟩ := hrel
    cases gk with
    | zero => exact absurd HA.out (by simp [laws_level.l0])
    | succ k1 =>
      have H := HA.out
      clear HA
      simp only [laws_level.l0] at H
      by_cases c2 : x3_1 < (l0.length : Int)
      · rw [if_pos c2] at H
        have c2b0 : decide (x3_1 < (l0.length : Int)) = true := decide_eq_true c2
        clear c2
        by_cases c3 : 0 ≤ x3_1
        · rw [if_pos c3] at H
          have c3b0 : decide (0 ≤ x3_1) = true := decide_eq_true c3
          clear c3
          by_cases c4 : 0 < (l0.length : Int)
          · rw [if_pos c4] at H
            have c4b0 : decide (0 < (l0.length : Int)) = true := decide_eq_true c4
            have c4b1 : decide (0 < l0.length) = true := decide_eq_true (by omega)
            clear c4
            by_cases c5 : ((rd_L1 l0 x3_1).length : Int) = ((rd_L1 l0 0).length : Int)
            · rw [if_pos c5] at H
              have c5b0 : (((rd_L1 l0 x3_1).length : Int) == ((rd_L1 l0 0).length : Int)) = true := beq_iff_eq.mpr c5
              have c5b1 : (((rd_L1 l0 x3_1).length : Int) != ((rd_L1 l0 0).length : Int)) = false := bne_eq_false_iff_eq.mpr c5
              have c5b2 : ((rd_L1 l0 x3_1).length == (rd_L1 l0 0).length) = true := by first | simpa using c5 | (simp at c5 ⊢; omega)
              clear c5
              have H' := Aside0.mk H
              clear H
              have p159 : 0 ≤ (x3_1 : Int) := of_decide_eq_true (by first | (with_reducible assumption) | assumption)
              have q159 : x3_1 < (l0.length : Int) := of_decide_eq_true (by first | (with_reducible assumption) | assumption)
              obtain ⟨ad159, A159_0, c159_0, e159, hx159_0, hl159_0, hi159_0⟩ := at_L1 HR0.out x3_1 p159 q159
              cases e159
              have HR159_0 := Aside0.mk hi159_0
              have HC159_0 := Aside0.mk hl159_0
              clear hi159_0 hl159_0
              replace p159 := eq_true p159
              replace q159 := eq_true q159
              have p160 : 0 ≤ (0 : Int) := (by omega)
              have q160 : 0 < (l0.length : Int) := of_decide_eq_true (by first | (with_reducible assumption) | assumption)
              obtain ⟨ad160, A160_0, c160_0, e160, hx160_0, hl160_0, hi160_0⟩ := at_L1 HR0.out 0 p160 q160
              obtain rfl : ad159 = ad160 := (by injection e160)
              have qi160 : (0 < l0.length) = True := eq_true (by omega)
              (try rw [show ((0 : Int)).toNat = 0 from rfl] at hx160_0)
              (try rw [Addr.add_zero'] at hx160_0)
              have HR160_0 := Aside0.mk hi160_0
              have HC160_0 := Aside0.mk hl160_0
              clear hi160_0 hl160_0
              replace p160 := eq_true p160
              replace q160 := eq_true q160
              go_wp2
              repeat (go_quiet (fail); try go_wp2)
              go_roundg k1
              case measure => have := HK1.out; omega
              case rel => exact ⟨(wrap64 (x3_1 + 1)), (by first | rfl | (simp; done) | (simp [*]; done)), H', ⟨by have := HK1.out; omega⟩, by repeat (first | exact Drawn0.refl _ | apply Drawn0.step)⟩
            · rw [if_neg c5] at H
              have c5b0 : (((rd_L1 l0 x3_1).length : Int) == ((rd_L1 l0 0).length : Int)) = false := beq_eq_false_iff_ne.mpr c5
              have c5b1 : (((rd_L1 l0 x3_1).length : Int) != ((rd_L1 l0 0).length : Int)) = true := bne_iff_ne.mpr c5
              have c5b2 : ((rd_L1 l0 x3_1).length == (rd_L1 l0 0).length) = false := by first | simpa using c5 | (simp at c5 ⊢; omega)
              obtain rfl := Option.some.inj H
              have p159 : 0 ≤ (x3_1 : Int) := of_decide_eq_true (by first | (with_reducible assumption) | assumption)
              have q159 : x3_1 < (l0.length : Int) := of_decide_eq_true (by first | (with_reducible assumption) | assumption)
              obtain ⟨ad159, A159_0, c159_0, e159, hx159_0, hl159_0, hi159_0⟩ := at_L1 HR0.out x3_1 p159 q159
              cases e159
              have HR159_0 := Aside0.mk hi159_0
              have HC159_0 := Aside0.mk hl159_0
              clear hi159_0 hl159_0
              replace p159 := eq_true p159
              replace q159 := eq_true q159
              have p160 : 0 ≤ (0 : Int) := (by omega)
              have q160 : 0 < (l0.length : Int) := of_decide_eq_true (by first | (with_reducible assumption) | assumption)
              obtain ⟨ad160, A160_0, c160_0, e160, hx160_0, hl160_0, hi160_0⟩ := at_L1 HR0.out 0 p160 q160
              obtain rfl : ad159 = ad160 := (by injection e160)
              have qi160 : (0 < l0.length) = True := eq_true (by omega)
              (try rw [show ((0 : Int)).toNat = 0 from rfl] at hx160_0)
              (try rw [Addr.add_zero'] at hx160_0)
              have HR160_0 := Aside0.mk hi160_0
              have HC160_0 := Aside0.mk hl160_0
              clear hi160_0 hl160_0
              replace p160 := eq_true p160
              replace q160 := eq_true q160
              go_wp2
              repeat (go_quiet (fail); try go_wp2)
              go_ret
              exact ⟨by first | rfl | (simp; done) | (simp [*]; done), by repeat (first | exact Drawn0.refl _ | apply Drawn0.step)⟩
          · rw [if_neg c4] at H
            exact absurd H (by simp)
        · rw [if_neg c3] at H
          exact absurd H (by simp)
      · rw [if_neg c2] at H
        have c2b0 : decide (x3_1 < (l0.length : Int)) = false := decide_eq_false c2
        clear c2
        obtain rfl := Option.some.inj H
        go_wp2
        repeat (go_quiet (fail); try go_wp2)
        go_ret
        exact ⟨by first | rfl | (simp; done) | (simp [*]; done), by repeat (first | exact Drawn0.refl _ | apply Drawn0.step)⟩

end Go.Proofs.Ythmkbojkhoaolaa.PFnRowsEqual
