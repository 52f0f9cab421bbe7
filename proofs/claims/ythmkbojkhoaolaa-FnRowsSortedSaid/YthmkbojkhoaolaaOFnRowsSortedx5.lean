/- The machine side of laws.FnRowsSorted: each function of this text answers what its Lean function answers (written for this claim by a program of this session over the kit's print; no condition beyond what each theorem says). -/
import Derived.Test.YthmkbojkhoaolaaOFnRowsSortedx0
import Derived.Test.YthmkbojkhoaolaaOFnRowsSortedx3
import Derived.Test.YthmkbojkhoaolaaOFnRowsSortedx4
namespace Go.Proofs.Ythmkbojkhoaolaa.PFnRowsSorted
open Go.RowKit Go.Proofs.YthmkbojkhoaolaaW.PrintWords Go.Proofs.YthmkbojkhoaolaaW.PrintLast Go.Proofs.YthmkbojkhoaolaaW.PrintMore
attribute [local go_sem] max2_int min2_int max_two min_two max_three min_three max_four min_four   -- for this text's walks alone
set_option linter.unusedVariables false
set_option linter.unusedSimpArgs false

/-! ### spec_SameRows: function 23 -/
def spec_SameRows.l0 : Nat → List (List ByteArray) → List (List ByteArray) → Int → Option (Bool)
  | 0, _, _, _ => none
  | k + 1, x0, x1, x5 => if x5 < (x0.length : Int) then (if 0 ≤ x5 then (if x5 < (x1.length : Int) then ((spec_SameList.f k (rd_L1 x0 x5) (rd_L1 x1 x5)).bind fun t162 => (if t162 = true then (spec_SameRows.l0 k x0 x1 (wrap64 (x5 + 1))) else (some false))) else (none)) else (none)) else (some true)
def spec_SameRows.f (k : Nat) (l0 : List (List ByteArray)) (l1 : List (List ByteArray)) : Option (Bool) := if (l0.length : Int) = (l1.length : Int) then (spec_SameRows.l0 k l0 l1 0) else (some false)
theorem spec_SameRows.mono_l : ∀ k, (∀ y0 y1 y2, LeO (spec_SameRows.l0 k y0 y1 y2) (spec_SameRows.l0 (k + 1) y0 y1 y2))
  | 0 => fun _ _ _ r h => by simp [spec_SameRows.l0] at h
  | k + 1 => by
    have ih0 := spec_SameRows.mono_l k
    · intro y0 y1 y2
      unfold spec_SameRows.l0
      repeat' first
      | (with_reducible exact ih0 _ _ _)
      | (with_reducible exact spec_SameList.mono _ _ _)
      | (with_reducible exact LeO.refl _)
      | (with_reducible exact LeO.none _)
      | (with_reducible refine LeO.ite ?_ ?_)
      | (with_reducible refine LeO.bind ?_ (fun _ => ?_))
      | exact ih0 _ _ _
      | exact spec_SameList.mono _ _ _
      | exact LeO.none _
      | refine LeO.ite ?_ ?_
      | refine LeO.bind ?_ (fun _ => ?_)
theorem spec_SameRows.mono : ∀ a0 a1 k, LeO (spec_SameRows.f k a0 a1) (spec_SameRows.f (k + 1) a0 a1) := by
  intro a0 a1 k
  have ih0 := spec_SameRows.mono_l k
  unfold spec_SameRows.f
  repeat' first
      | (with_reducible exact ih0 _ _ _)
      | (with_reducible exact spec_SameList.mono _ _ _)
      | (with_reducible exact LeO.refl _)
      | (with_reducible exact LeO.none _)
      | (with_reducible refine LeO.ite ?_ ?_)
      | (with_reducible refine LeO.bind ?_ (fun _ => ?_))
      | exact ih0 _ _ _
      | exact spec_SameList.mono _ _ _
      | exact LeO.none _
      | refine LeO.ite ?_ ?_
      | refine LeO.bind ?_ (fun _ => ?_)
set_option maxHeartbeats 8000000 in
set_option maxRecDepth 100000 in
theorem spec_SameRows.calls (k : Nat) (A0 : Option Addr) (c0 : Nat) (l0 : List (List ByteArray)) (A1 : Option Addr) (c1 : Nat) (l1 : List (List ByteArray)) (r : Bool) (w : World) (hr0 : Kd.C (Kd.slice 9 Kd.string) w A0 l0.length l0) (hc0 : l0.length ≤ c0) (hr1 : Kd.C (Kd.slice 9 Kd.string) w A1 l1.length l1) (hc1 : l1.length ≤ c1) (h : spec_SameRows.f k l0 l1 = some r) :
    Calls Try.prog 23 #[.slice A0 l0.length c0, .slice A1 l1.length c1] w fun e w' => e = .returned (.bool r) ∧ Drawn0 w w' := by
  have HR0 := Aside0.mk hr0
  have HC0 := Aside0.mk hc0
  clear hr0 hc0
  have HR1 := Aside0.mk hr1
  have HC1 := Aside0.mk hc1
  clear hr1 hc1
  have H : (if (l0.length : Int) = (l1.length : Int) then (spec_SameRows.l0 k l0 l1 0) else (some false)) = some r := h
  clear h
  by_cases c3 : (l0.length : Int) = (l1.length : Int)
  · rw [if_pos c3] at H
    have c3b0 : ((l0.length : Int) == (l1.length : Int)) = true := beq_iff_eq.mpr c3
    have c3b1 : ((l0.length : Int) != (l1.length : Int)) = false := bne_eq_false_iff_eq.mpr c3
    have c3b2 : (l0.length == l1.length) = true := by first | simpa using c3 | (simp at c3 ⊢; omega)
    clear c3
    have H' := Aside0.mk H
    clear H
    go_enter Try.func23, Try.ntmps23
    go_wp2
    repeat (go_quiet (fail); try go_wp2)
    go_loopg [5] k (fun kq v5 w' => ∃ (x5_1 : Int), v5 = .int .i64 x5_1 ∧ Aside0 (spec_SameRows.l0 kq l0 l1 x5_1 = some r) ∧ Aside0 (kq ≤ k) ∧ Drawn0 w w')
    case atStart => exact ⟨(0), (by first | rfl | (simp; done) | (simp [*]; done)), H', ⟨Nat.le_refl _⟩, by repeat (first | exact Drawn0.refl _ | apply Drawn0.step)⟩
    case round =>
      clear H'
      try clear c1
      try clear c2
      try clear p2
      try clear c3
      try clear c3b0
      try clear c3b1
      try clear c3b2
      obtain ⟨x5_1, rfl, HA, HK1, ⟨m1, rfl⟩⟩ := hrel
      cases gk with
      | zero => exact absurd HA.out (by simp [spec_SameRows.l0])
      | succ k1 =>
        have H := HA.out
        clear HA
        simp only [spec_SameRows.l0] at H
        by_cases c4 : x5_1 < (l0.length : Int)
        · rw [if_pos c4] at H
          have c4b0 : decide (x5_1 < (l0.length : Int)) = true := decide_eq_true c4
          clear c4
          by_cases c5 : 0 ≤ x5_1
          · rw [if_pos c5] at H
            have c5b0 : decide (0 ≤ x5_1) = true := decide_eq_true c5
            clear c5
            by_cases c6 : x5_1 < (l1.length : Int)
            · rw [if_pos c6] at H
              have c6b0 : decide (x5_1 < (l1.length : Int)) = true := decide_eq_true c6
              clear c6
              replace H := Option.bind_eq_some_iff.mp H
              obtain ⟨t162, A70, H⟩ := H
              replace H : (if t162 = true then (spec_SameRows.l0 k1 l0 l1 (wrap64 (x5_1 + 1))) else (some false)) = some r := H
              have A7 := Aside0.mk A70
              clear A70
              by_cases c8 : t162 = true
              · subst c8
                have H1 : (spec_SameRows.l0 k1 l0 l1 (wrap64 (x5_1 + 1))) = some r := by rw [if_pos rfl] at H; exact H
                clear H
                have H := H1
                clear H1
                have H' := Aside0.mk H
                clear H
                have p160 : 0 ≤ (x5_1 : Int) := of_decide_eq_true (by first | (with_reducible assumption) | assumption)
                have q160 : x5_1 < (l0.length : Int) := of_decide_eq_true (by first | (with_reducible assumption) | assumption)
                obtain ⟨ad160, A160_0, c160_0, e160, hx160_0, hl160_0, hi160_0⟩ := at_L1 HR0.out x5_1 p160 q160
                cases e160
                have HR160_0 := Aside0.mk hi160_0
                have HC160_0 := Aside0.mk hl160_0
                clear hi160_0 hl160_0
                replace p160 := eq_true p160
                replace q160 := eq_true q160
                have p161 : 0 ≤ (x5_1 : Int) := of_decide_eq_true (by first | (with_reducible assumption) | assumption)
                have q161 : x5_1 < (l1.length : Int) := of_decide_eq_true (by first | (with_reducible assumption) | assumption)
                obtain ⟨ad161, A161_0, c161_0, e161, hx161_0, hl161_0, hi161_0⟩ := at_L1 HR1.out x5_1 p161 q161
                cases e161
                have HR161_0 := Aside0.mk hi161_0
                have HC161_0 := Aside0.mk hl161_0
                clear hi161_0 hl161_0
                replace p161 := eq_true p161
                replace q161 := eq_true q161
                go_wp2_with (first | (go_at_call 36; (with_reducible refine (spec_SameList.calls k1 _ _ (rd_L1 l0 x5_1) _ _ (rd_L1 l1 x5_1) true _ ?side1 ?side2 ?side3 ?side4 A7.out).mono ?_); (case side1 => repeat (first | exact HR160_0.out | (with_reducible refine Kd.C_alloc ?_ _) | (with_reducible refine Kd.C_drewN ?_ _) | (with_reducible refine Kd.C_drew ?_))); (case side2 => exact HC160_0.out); (case side3 => repeat (first | exact HR161_0.out | (with_reducible refine Kd.C_alloc ?_ _) | (with_reducible refine Kd.C_drewN ?_ _) | (with_reducible refine Kd.C_drew ?_))); (case side4 => exact HC161_0.out); rintro e w' ⟨rfl, ⟨nd, rfl⟩⟩; (try first | exact ⟨rfl, _, World.drewN_drewN _ _ _⟩ | exact ⟨rfl, _, Eq.trans (World.drewN_drewN _ _ _) (congrArg (World.drewN _) (Nat.add_assoc _ _ _))⟩)))
                repeat (go_quiet (first | (go_at_call 36; (with_reducible refine (spec_SameList.calls k1 _ _ (rd_L1 l0 x5_1) _ _ (rd_L1 l1 x5_1) true _ ?side1 ?side2 ?side3 ?side4 A7.out).mono ?_); (case side1 => repeat (first | exact HR160_0.out | (with_reducible refine Kd.C_alloc ?_ _) | (with_reducible refine Kd.C_drewN ?_ _) | (with_reducible refine Kd.C_drew ?_))); (case side2 => exact HC160_0.out); (case side3 => repeat (first | exact HR161_0.out | (with_reducible refine Kd.C_alloc ?_ _) | (with_reducible refine Kd.C_drewN ?_ _) | (with_reducible refine Kd.C_drew ?_))); (case side4 => exact HC161_0.out); rintro e w' ⟨rfl, ⟨nd, rfl⟩⟩; (try first | exact ⟨rfl, _, World.drewN_drewN _ _ _⟩ | exact ⟨rfl, _, Eq.trans (World.drewN_drewN _ _ _) (congrArg (World.drewN _) (Nat.add_assoc _ _ _))⟩))); try go_wp2_with (first | (go_at_call 36; (with_reducible refine (spec_SameList.calls k1 _ _ (rd_L1 l0 x5_1) _ _ (rd_L1 l1 x5_1) true _ ?side1 ?side2 ?side3 ?side4 A7.out).mono ?_); (case side1 => repeat (first | exact HR160_0.out | (with_reducible refine Kd.C_alloc ?_ _) | (with_reducible refine Kd.C_drewN ?_ _) | (with_reducible refine Kd.C_drew ?_))); (case side2 => exact HC160_0.out); (case side3 => repeat (first | exact HR161_0.out | (with_reducible refine Kd.C_alloc ?_ _) | (with_reducible refine Kd.C_drewN ?_ _) | (with_reducible refine Kd.C_drew ?_))); (case side4 => exact HC161_0.out); rintro e w' ⟨rfl, ⟨nd, rfl⟩⟩; (try first | exact ⟨rfl, _, World.drewN_drewN _ _ _⟩ | exact ⟨rfl, _, Eq.trans (World.drewN_drewN _ _ _) (congrArg (World.drewN _) (Nat.add_assoc _ _ _))⟩))))
                go_roundg k1
                case measure => have := HK1.out; omega
                case rel => exact ⟨(wrap64 (x5_1 + 1)), (by first | rfl | (simp; done) | (simp [*]; done)), H', ⟨by have := HK1.out; omega⟩, by repeat (first | exact Drawn0.refl _ | apply Drawn0.step)⟩
              · replace c8 := Bool.eq_false_iff.mpr c8
                subst c8
                have H1 : (some false) = some r := by rw [if_neg (show ¬ (false = true) by decide)] at H; exact H
                clear H
                have H := H1
                clear H1
                obtain rfl := Option.some.inj H
                have p160 : 0 ≤ (x5_1 : Int) := of_decide_eq_true (by first | (with_reducible assumption) | assumption)
                have q160 : x5_1 < (l0.length : Int) := of_decide_eq_true (by first | (with_reducible assumption) | assumption)
                obtain ⟨ad160, A160_0, c160_0, e160, hx160_0, hl160_0, hi160_0⟩ := at_L1 HR0.out x5_1 p160 q160
                cases e160
                have HR160_0 := Aside0.mk hi160_0
                have HC160_0 := Aside0.mk hl160_0
                clear hi160_0 hl160_0
                replace p160 := eq_true p160
                replace q160 := eq_true q160
                have p161 : 0 ≤ (x5_1 : Int) := of_decide_eq_true (by first | (with_reducible assumption) | assumption)
                have q161 : x5_1 < (l1.length : Int) := of_decide_eq_true (by first | (with_reducible assumption) | assumption)
                obtain ⟨ad161, A161_0, c161_0, e161, hx161_0, hl161_0, hi161_0⟩ := at_L1 HR1.out x5_1 p161 q161
                cases e161
                have HR161_0 := Aside0.mk hi161_0
                have HC161_0 := Aside0.mk hl161_0
                clear hi161_0 hl161_0
                replace p161 := eq_true p161
                replace q161 := eq_true q161
                go_wp2_with (first | (go_at_call 36; (with_reducible refine (spec_SameList.calls k1 _ _ (rd_L1 l0 x5_1) _ _ (rd_L1 l1 x5_1) false _ ?side1 ?side2 ?side3 ?side4 A7.out).mono ?_); (case side1 => repeat (first | exact HR160_0.out | (with_reducible refine Kd.C_alloc ?_ _) | (with_reducible refine Kd.C_drewN ?_ _) | (with_reducible refine Kd.C_drew ?_))); (case side2 => exact HC160_0.out); (case side3 => repeat (first | exact HR161_0.out | (with_reducible refine Kd.C_alloc ?_ _) | (with_reducible refine Kd.C_drewN ?_ _) | (with_reducible refine Kd.C_drew ?_))); (case side4 => exact HC161_0.out); rintro e w' ⟨rfl, ⟨nd, rfl⟩⟩; (try first | exact ⟨rfl, _, World.drewN_drewN _ _ _⟩ | exact ⟨rfl, _, Eq.trans (World.drewN_drewN _ _ _) (congrArg (World.drewN _) (Nat.add_assoc _ _ _))⟩)))
                repeat (go_quiet (first | (go_at_call 36; (with_reducible refine (spec_SameList.calls k1 _ _ (rd_L1 l0 x5_1) _ _ (rd_L1 l1 x5_1) false _ ?side1 ?side2 ?side3 ?side4 A7.out).mono ?_); (case side1 => repeat (first | exact HR160_0.out | (with_reducible refine Kd.C_alloc ?_ _) | (with_reducible refine Kd.C_drewN ?_ _) | (with_reducible refine Kd.C_drew ?_))); (case side2 => exact HC160_0.out); (case side3 => repeat (first | exact HR161_0.out | (with_reducible refine Kd.C_alloc ?_ _) | (with_reducible refine Kd.C_drewN ?_ _) | (with_reducible refine Kd.C_drew ?_))); (case side4 => exact HC161_0.out); rintro e w' ⟨rfl, ⟨nd, rfl⟩⟩; (try first | exact ⟨rfl, _, World.drewN_drewN _ _ _⟩ | exact ⟨rfl, _, Eq.trans (World.drewN_drewN _ _ _) (congrArg (World.drewN _) (Nat.add_assoc _ _ _))⟩))); try go_wp2_with (first | (go_at_call 36; (with_reducible refine (spec_SameList.calls k1 _ _ (rd_L1 l0 x5_1) _ _ (rd_L1 l1 x5_1) false _ ?side1 ?side2 ?side3 ?side4 A7.out).mono ?_); (case side1 => repeat (first | exact HR160_0.out | (with_reducible refine Kd.C_alloc ?_ _) | (with_reducible refine Kd.C_drewN ?_ _) | (with_reducible refine Kd.C_drew ?_))); (case side2 => exact HC160_0.out); (case side3 => repeat (first | exact HR161_0.out | (with_reducible refine Kd.C_alloc ?_ _) | (with_reducible refine Kd.C_drewN ?_ _) | (with_reducible refine Kd.C_drew ?_))); (case side4 => exact HC161_0.out); rintro e w' ⟨rfl, ⟨nd, rfl⟩⟩; (try first | exact ⟨rfl, _, World.drewN_drewN _ _ _⟩ | exact ⟨rfl, _, Eq.trans (World.drewN_drewN _ _ _) (congrArg (World.drewN _) (Nat.add_assoc _ _ _))⟩))))
                go_ret
                exact ⟨by first | rfl | (simp; done) | (simp [*]; done), by repeat (first | exact Drawn0.refl _ | apply Drawn0.step)⟩
            · rw [if_neg c6] at H
              exact absurd H (by simp)
          · rw [if_neg c5] at H
            exact absurd H (by simp)
        · rw [if_neg c4] at H
          have c4b0 : decide (x5_1 < (l0.length : Int)) = false := decide_eq_false c4
          clear c4
          obtain rfl := Option.some.inj H
          go_wp2
          repeat (go_quiet (fail); try go_wp2)
          go_ret
          exact ⟨by first | rfl | (simp; done) | (simp [*]; done), by repeat (first | exact Drawn0.refl _ | apply Drawn0.step)⟩
  · rw [if_neg c3] at H
    have c3b0 : ((l0.length : Int) == (l1.length : Int)) = false := beq_eq_false_iff_ne.mpr c3
    have c3b1 : ((l0.length : Int) != (l1.length : Int)) = true := bne_iff_ne.mpr c3
    have c3b2 : (l0.length == l1.length) = false := by first | simpa using c3 | (simp at c3 ⊢; omega)
    obtain rfl := Option.some.inj H
    go_enter Try.func23, Try.ntmps23
    go_wp2
    repeat (go_quiet (fail); try go_wp2)
    go_ret
    exact ⟨by first | rfl | (simp; done) | (simp [*]; done), by repeat (first | exact Drawn0.refl _ | apply Drawn0.step)⟩

/-! ### spec_SortedRows: function 24 -/
mutual
def spec_rowLess.l0 : Nat → List ByteArray → List ByteArray → Int → Option (Bool)
  | 0, _, _, _ => none
  | k + 1, x0, x1, x5 => if x5 < (x0.length : Int) then (spec_rowLess.j1 k x0 x1 x5 (decide (x5 < (x1.length : Int)))) else (spec_rowLess.j1 k x0 x1 x5 false)
def spec_rowLess.j1 : Nat → List ByteArray → List ByteArray → Int → Bool → Option (Bool)
  | 0, _, _, _, _ => none
  | k + 1, x0, x1, x5, x15 => if x15 = true then (if 0 ≤ x5 then (if x5 < (x0.length : Int) then (if x5 < (x1.length : Int) then (if (rdOf ByteArray.empty x0 x5).toList = (rdOf ByteArray.empty x1 x5).toList then (spec_rowLess.l0 k x0 x1 (wrap64 (x5 + 1))) else (some (Op.bytesLess ((rdOf ByteArray.empty x0 x5).toList) ((rdOf ByteArray.empty x1 x5).toList)))) else (none)) else (none)) else (none)) else (some (decide ((x0.length : Int) < (x1.length : Int))))
end
def spec_rowLess.f (k : Nat) (l0 : List ByteArray) (l1 : List ByteArray) : Option (Bool) := spec_rowLess.l0 k l0 l1 0
theorem spec_rowLess.mono_l : ∀ k, (∀ y0 y1 y2, LeO (spec_rowLess.l0 k y0 y1 y2) (spec_rowLess.l0 (k + 1) y0 y1 y2)) ∧ (∀ y0 y1 y2 y3, LeO (spec_rowLess.j1 k y0 y1 y2 y3) (spec_rowLess.j1 (k + 1) y0 y1 y2 y3))
  | 0 => ⟨fun _ _ _ r h => by simp [spec_rowLess.l0] at h, fun _ _ _ _ r h => by simp [spec_rowLess.j1] at h⟩
  | k + 1 => by
    obtain ⟨ih0, ih1⟩ := spec_rowLess.mono_l k
    refine ⟨?_, ?_⟩
    · intro y0 y1 y2
      unfold spec_rowLess.l0
      repeat' first
      | (with_reducible exact ih0 _ _ _)
      | (with_reducible exact ih1 _ _ _ _)
      | (with_reducible exact LeO.refl _)
      | (with_reducible exact LeO.none _)
      | (with_reducible refine LeO.ite ?_ ?_)
      | (with_reducible refine LeO.bind ?_ (fun _ => ?_))
      | exact ih0 _ _ _
      | exact ih1 _ _ _ _
      | exact LeO.none _
      | refine LeO.ite ?_ ?_
      | refine LeO.bind ?_ (fun _ => ?_)
    · intro y0 y1 y2 y3
      unfold spec_rowLess.j1
      repeat' first
      | (with_reducible exact ih0 _ _ _)
      | (with_reducible exact ih1 _ _ _ _)
      | (with_reducible exact LeO.refl _)
      | (with_reducible exact LeO.none _)
      | (with_reducible refine LeO.ite ?_ ?_)
      | (with_reducible refine LeO.bind ?_ (fun _ => ?_))
      | exact ih0 _ _ _
      | exact ih1 _ _ _ _
      | exact LeO.none _
      | refine LeO.ite ?_ ?_
      | refine LeO.bind ?_ (fun _ => ?_)
theorem spec_rowLess.mono : ∀ a0 a1 k, LeO (spec_rowLess.f k a0 a1) (spec_rowLess.f (k + 1) a0 a1) := by
  intro a0 a1 k
  obtain ⟨ih0, ih1⟩ := spec_rowLess.mono_l k
  unfold spec_rowLess.f
  repeat' first
      | (with_reducible exact ih0 _ _ _)
      | (with_reducible exact ih1 _ _ _ _)
      | (with_reducible exact LeO.refl _)
      | (with_reducible exact LeO.none _)
      | (with_reducible refine LeO.ite ?_ ?_)
      | (with_reducible refine LeO.bind ?_ (fun _ => ?_))
      | exact ih0 _ _ _
      | exact ih1 _ _ _ _
      | exact LeO.none _
      | refine LeO.ite ?_ ?_
      | refine LeO.bind ?_ (fun _ => ?_)
set_option maxHeartbeats 8000000 in
set_option maxRecDepth 100000 in
theorem spec_rowLess.calls (k : Nat) (A0 : Option Addr) (c0 : Nat) (l0 : List ByteArray) (A1 : Option Addr) (c1 : Nat) (l1 : List ByteArray) (r : Bool) (w : World) (hr0 : Kd.C Kd.string w A0 l0.length l0) (hc0 : l0.length ≤ c0) (hr1 : Kd.C Kd.string w A1 l1.length l1) (hc1 : l1.length ≤ c1) (h : spec_rowLess.f k l0 l1 = some r) :
    Calls Try.prog 38 #[.slice A0 l0.length c0, .slice A1 l1.length c1] w fun e w' => e = .returned (.bool r) ∧ Drawn0 w w' := by
  have HR0 := Aside0.mk hr0
  have HC0 := Aside0.mk hc0
  clear hr0 hc0
  have HR1 := Aside0.mk hr1
  have HC1 := Aside0.mk hc1
  clear hr1 hc1
  have H : (spec_rowLess.l0 k l0 l1 0) = some r := h
  clear h
  have H' := Aside0.mk H
  clear H
  go_enter Try.func38, Try.ntmps38
  go_wp2
  repeat (go_quiet (fail); try go_wp2)
  go_loopg [5] k (fun kq v5 w' => ∃ (x5_1 : Int), v5 = .int .i64 x5_1 ∧ Aside0 (spec_rowLess.l0 kq l0 l1 x5_1 = some r) ∧ Aside0 (kq ≤ k) ∧ Drawn0 w w')
  case atStart => exact ⟨(0), (by first | rfl | (simp; done) | (simp [*]; done)), H', ⟨Nat.le_refl _⟩, by repeat (first | exact Drawn0.refl _ | apply Drawn0.step)⟩
  case round =>
    clear H'
    try clear c1
    try clear p2
    obtain ⟨x5_1, rfl, HA, HK1, ⟨m1, rfl⟩⟩ := hrel
    cases gk with
    | zero => exact absurd HA.out (by simp [spec_rowLess.l0])
    | succ k1 =>
      have H := HA.out
      clear HA
      simp only [spec_rowLess.l0] at H
      have HC3 := Aside0.mk H
      clear H
      go_upto_region 2 with (fail)
      repeat (go_quiet (fail); go_upto_region 2 with (fail))
      go_cut [15] (fun v15 wc => ∃ (kq : Nat) (x15_2 : Bool), v15 = .bool x15_2 ∧ Aside0 (spec_rowLess.j1 kq l0 l1 x5_1 x15_2 = some r) ∧ Aside0 (kq ≤ k1) ∧ Drawn0 w wc)
      case first =>
        have H := HC3.out
        clear HC3
        by_cases c4 : x5_1 < (l0.length : Int)
        · rw [if_pos c4] at H
          have c4b0 : decide (x5_1 < (l0.length : Int)) = true := decide_eq_true c4
          clear c4
          (first | rw [c4b0] | (simp only [i64_w, i32_w]; rw [c4b0]) | skip)
          have H' := Aside0.mk H
          clear H
          go_wp2
          repeat (go_quiet (fail); try go_wp2)
          go_meet
          case rel => exact ⟨_, (decide (x5_1 < (l1.length : Int))), (by first | rfl | (simp; done) | (simp [*]; done)), H', ⟨by have := HK1.out; first | omega | exact Nat.le_refl _⟩, by repeat (first | exact Drawn0.refl _ | apply Drawn0.step)⟩
        · rw [if_neg c4] at H
          have c4b0 : decide (x5_1 < (l0.length : Int)) = false := decide_eq_false c4
          clear c4
          (first | rw [c4b0] | (simp only [i64_w, i32_w]; rw [c4b0]) | skip)
          have H' := Aside0.mk H
          clear H
          go_wp2
          repeat (go_quiet (fail); try go_wp2)
          go_meet
          case rel => exact ⟨_, (false), (by first | rfl | (simp; done) | (simp [*]; done)), H', ⟨by have := HK1.out; first | omega | exact Nat.le_refl _⟩, by repeat (first | exact Drawn0.refl _ | apply Drawn0.step)⟩
      case rest =>
        clear HC3
        try clear c1
        try clear p2
        try clear c3
        try clear c4
        try clear c4b0
        try clear p2
        obtain ⟨kq, x15_2, rfl, HA, HJ2, ⟨mc2, rfl⟩⟩ := hcut
        cases kq with
        | zero => exact absurd HA.out (by simp [spec_rowLess.j1])
        | succ kj2 =>
          have H := HA.out
          clear HA
          simp only [spec_rowLess.j1] at H
          by_cases c5 : x15_2 = true
          · subst c5
            have H1 : (if 0 ≤ x5_1 then (if x5_1 < (l0.length : Int) then (if x5_1 < (l1.length : Int) then (if (rdOf ByteArray.empty l0 x5_1).toList = (rdOf ByteArray.empty l1 x5_1).toList then (spec_rowLess.l0 kj2 l0 l1 (wrap64 (x5_1 + 1))) else (some (Op.bytesLess ((rdOf ByteArray.empty l0 x5_1).toList) ((rdOf ByteArray.empty l1 x5_1).toList)))) else (none)) else (none)) else (none)) = some r := by rw [if_pos rfl] at H; exact H
            clear H
            have H := H1
            clear H1
            by_cases c6 : 0 ≤ x5_1
            · rw [if_pos c6] at H
              have c6b0 : decide (0 ≤ x5_1) = true := decide_eq_true c6
              clear c6
              by_cases c7 : x5_1 < (l0.length : Int)
              · rw [if_pos c7] at H
                have c7b0 : decide (x5_1 < (l0.length : Int)) = true := decide_eq_true c7
                clear c7
                by_cases c8 : x5_1 < (l1.length : Int)
                · rw [if_pos c8] at H
                  have c8b0 : decide (x5_1 < (l1.length : Int)) = true := decide_eq_true c8
                  clear c8
                  by_cases c9 : (rdOf ByteArray.empty l0 x5_1).toList = (rdOf ByteArray.empty l1 x5_1).toList
                  · rw [if_pos c9] at H
                    have c9b0 : ((rdOf ByteArray.empty l0 x5_1).toList == (rdOf ByteArray.empty l1 x5_1).toList) = true := beq_iff_eq.mpr c9
                    have c9b1 : ((rdOf ByteArray.empty l0 x5_1).toList != (rdOf ByteArray.empty l1 x5_1).toList) = false := bne_eq_false_iff_eq.mpr c9
                    clear c9
                    have H' := Aside0.mk H
                    clear H
                    have p165 : 0 ≤ (x5_1 : Int) := of_decide_eq_true (by first | (with_reducible assumption) | assumption)
                    have q165 : x5_1 < (l0.length : Int) := of_decide_eq_true (by first | (with_reducible assumption) | assumption)
                    obtain ⟨ad165, e165, hx165_0⟩ := Kd.at_string HR0.out x5_1 p165 q165
                    cases e165
                    replace p165 := eq_true p165
                    replace q165 := eq_true q165
                    have p166 : 0 ≤ (x5_1 : Int) := of_decide_eq_true (by first | (with_reducible assumption) | assumption)
                    have q166 : x5_1 < (l1.length : Int) := of_decide_eq_true (by first | (with_reducible assumption) | assumption)
                    obtain ⟨ad166, e166, hx166_0⟩ := Kd.at_string HR1.out x5_1 p166 q166
                    cases e166
                    replace p166 := eq_true p166
                    replace q166 := eq_true q166
                    go_wp2
                    repeat (go_quiet (fail); try go_wp2)
                    go_roundg kj2
                    case measure => have := HK1.out; have := HJ2.out; omega
                    case rel => exact ⟨(wrap64 (x5_1 + 1)), (by first | rfl | (simp; done) | (simp [*]; done)), H', ⟨by have := HK1.out; have := HJ2.out; omega⟩, by repeat (first | exact Drawn0.refl _ | apply Drawn0.step)⟩
                  · rw [if_neg c9] at H
                    have c9b0 : ((rdOf ByteArray.empty l0 x5_1).toList == (rdOf ByteArray.empty l1 x5_1).toList) = false := beq_eq_false_iff_ne.mpr c9
                    have c9b1 : ((rdOf ByteArray.empty l0 x5_1).toList != (rdOf ByteArray.empty l1 x5_1).toList) = true := bne_iff_ne.mpr c9
                    obtain rfl := Option.some.inj H
                    have p165 : 0 ≤ (x5_1 : Int) := of_decide_eq_true (by first | (with_reducible assumption) | assumption)
                    have q165 : x5_1 < (l0.length : Int) := of_decide_eq_true (by first | (with_reducible assumption) | assumption)
                    obtain ⟨ad165, e165, hx165_0⟩ := Kd.at_string HR0.out x5_1 p165 q165
                    cases e165
                    replace p165 := eq_true p165
                    replace q165 := eq_true q165
                    have p166 : 0 ≤ (x5_1 : Int) := of_decide_eq_true (by first | (with_reducible assumption) | assumption)
                    have q166 : x5_1 < (l1.length : Int) := of_decide_eq_true (by first | (with_reducible assumption) | assumption)
                    obtain ⟨ad166, e166, hx166_0⟩ := Kd.at_string HR1.out x5_1 p166 q166
                    cases e166
                    replace p166 := eq_true p166
                    replace q166 := eq_true q166
                    have p167 : 0 ≤ (x5_1 : Int) := of_decide_eq_true (by first | (with_reducible assumption) | assumption)
                    have q167 : x5_1 < (l0.length : Int) := of_decide_eq_true (by first | (with_reducible assumption) | assumption)
                    obtain ⟨ad167, e167, hx167_0⟩ := Kd.at_string HR0.out x5_1 p167 q167
                    obtain rfl : ad165 = ad167 := (by injection e167)
                    replace p167 := eq_true p167
                    replace q167 := eq_true q167
                    have p168 : 0 ≤ (x5_1 : Int) := of_decide_eq_true (by first | (with_reducible assumption) | assumption)
                    have q168 : x5_1 < (l1.length : Int) := of_decide_eq_true (by first | (with_reducible assumption) | assumption)
                    obtain ⟨ad168, e168, hx168_0⟩ := Kd.at_string HR1.out x5_1 p168 q168
                    obtain rfl : ad166 = ad168 := (by injection e168)
                    replace p168 := eq_true p168
                    replace q168 := eq_true q168
                    go_wp2
                    repeat (go_quiet (fail); try go_wp2)
                    go_ret
                    exact ⟨by first | rfl | (simp; done) | (simp [*]; done), by repeat (first | exact Drawn0.refl _ | apply Drawn0.step)⟩
                · rw [if_neg c8] at H
                  exact absurd H (by simp)
              · rw [if_neg c7] at H
                exact absurd H (by simp)
            · rw [if_neg c6] at H
              exact absurd H (by simp)
          · replace c5 := Bool.eq_false_iff.mpr c5
            subst c5
            have H1 : (some (decide ((l0.length : Int) < (l1.length : Int)))) = some r := by rw [if_neg (show ¬ (false = true) by decide)] at H; exact H
            clear H
            have H := H1
            clear H1
            obtain rfl := Option.some.inj H
            go_wp2
            repeat (go_quiet (fail); try go_wp2)
            go_ret
            exact ⟨by first | rfl | (simp; done) | (simp [*]; done), by repeat (first | exact Drawn0.refl _ | apply Drawn0.step)⟩

section
open Go.Proofs.Ythmkbojkhoaolaa.Base
theorem rowLess_loop (x y : List ByteArray) (hx : x.length ≤ 9223372036854775807) (hy : y.length ≤ 9223372036854775807) : ∀ (n t : Nat), t + n = min x.length y.length → Ev (fun k => spec_rowLess.l0 k x y (t : Int)) (rowLt (x.drop t) (y.drop t)) := by
  intro n
  induction n with
  | zero =>
    intro t h
    have h1 : t ≤ x.length := by omega
    have h2 : t ≤ y.length := by omega
    have h3 : t = x.length ∨ t = y.length := by omega
    have fin : ∀ b : Bool, b = false → Ev (fun k => spec_rowLess.j1 k x y (t : Int) b) (rowLt (x.drop t) (y.drop t)) := by
      rintro b rfl
      refine Ev.step (fun _ => spec_rowLess.j1.eq_2 _ _ _ _ _) (Ev.neg (by simp) ?_)
      rw [rowLt_end x y t h1 h2 h3]
      refine Ev.eqr ?_ (Ev.now _)
      simp
    by_cases g : (t : Int) < (x.length : Int)
    · exact Ev.step (fun _ => spec_rowLess.l0.eq_2 _ _ _ _) (Ev.pos g (fin _ (decide_eq_false (by omega))))
    · exact Ev.step (fun _ => spec_rowLess.l0.eq_2 _ _ _ _) (Ev.neg g (fin _ rfl))
  | succ n ih =>
    intro t h
    have g1 : (t : Int) < (x.length : Int) := by omega
    have g2 : (t : Int) < (y.length : Int) := by omega
    refine Ev.step (fun _ => spec_rowLess.l0.eq_2 _ _ _ _) (Ev.pos g1 ?_)
    rw [decide_eq_true g2]
    refine Ev.step (fun _ => spec_rowLess.j1.eq_2 _ _ _ _ _) (Ev.pos rfl (Ev.pos (by omega) (Ev.pos g1 (Ev.pos g2 ?_))))
    have e := rowLt_step x y (t : Int) (by omega) g1 g2
    simp only [Int.toNat_natCast] at e
    rw [e]
    by_cases q : (rdOf ByteArray.empty x (t : Int)).toList = (rdOf ByteArray.empty y (t : Int)).toList
    · rw [if_pos q]
      refine Ev.pos q ?_
      rw [w64 (by omega) (by omega)]
      have := ih (t + 1) (by omega)
      simpa using this
    · rw [if_neg q]
      exact Ev.neg q (Ev.now _)
theorem rowLess_lt (A : Option Addr) (c : Nat) (x : List ByteArray) (A' : Option Addr) (c' : Nat) (y : List ByteArray) (W : World) (hx : Kd.C Kd.string W A x.length x) (hc : x.length ≤ c) (hy : Kd.C Kd.string W A' y.length y) (hc' : y.length ≤ c') :
    Calls Try.prog 38 #[.slice A x.length c, .slice A' y.length c'] W fun e w' => e = .returned (.bool (rowLt x y)) ∧ Drawn0 W w' := by
  obtain ⟨k, hk⟩ := Ev.rounds (rowLess_loop x y hx.2.1 hy.2.1 (min x.length y.length) 0 (by omega))
  exact spec_rowLess.calls k A c x A' c' y (rowLt x y) W hx hc hy hc' hk
end
def spec_SortedRows.f (l : List (List ByteArray)) : Option (List (List ByteArray)) := if l.length < 5864062014805 then some (sortR l) else none
theorem sorted_N (W1 : World) (base : Nat) (ok : Nat → Prop) (g cap : Nat) (cur : Array Value) (hs : List Hdr) (l : List (List ByteArray)) (hbase : base ≤ g) (hb : W1.heap[g]? = some (.cells cur 22 (0, 0))) (h1 : l.length ≤ cap) (h2 : cap ≤ maxLen) (h3 : cur.size = cap * 1)
    (hL : Leads W1 (fun k => ok k ∧ some k ≠ (Value.slice (some ⟨g, 0, none⟩) l.length cap).ownBlock) hs l) (h0 : ∀ k, (Value.slice (some ⟨g, 0, none⟩) l.length cap).ownBlock = some k → ok k) [Inhabited (Fin l.length)]
    (enc : Fin l.length → Value) (henc : enc = fun i => (hs.getD i.val (none, 0, 0)).val) (d : Array (Fin l.length)) (hd : d = (List.finRange l.length).toArray) (d' : Array (Fin l.length)) (hp : Go.Sort.PermIn 0 l.length d d') (hso : Go.Sort.SortedIn (ltI l) 0 l.length d') (n : Nat) (os : Array Obj) :
    Kd.N (Kd.slice 9 Kd.string) 22 (Go.Sort.grow (Go.Sort.putRow enc (Go.Sort.ahead W1 n) g 0 d') os) base ok (.slice (some ⟨g, 0, none⟩) l.length cap) (sortR l) := by
  have hlen := hL.1
  have hds : d.size = l.length := by rw [hd]; simp
  obtain ⟨hsz, _, hperm⟩ := hp
  have full : ∀ z : Array (Fin l.length), z.size = l.length → z.extract 0 l.length = z := fun z hz => by
    apply Array.ext
    · simp; omega
    · intro i h1 h2; simp
  rw [full d' (hsz.trans hds), full d hds, hd] at hperm
  have hdl : d'.toList.length = l.length := by rw [hperm.length_eq]; simp
  have hsr : d'.toList.map l.get = sortR l := by
    apply sortR_unique
    · have := hperm.map l.get
      rwa [show ((List.finRange l.length).toArray.toList).map l.get = l from List.ext_getElem (by simp) (fun i h1 h2 => by simp)] at this
    · rw [List.pairwise_map]
      rw [List.pairwise_iff_getElem]
      intro i j hi hj hij
      have := hso i j (Nat.zero_le _) hij (by omega)
      rw [getElem!_pos d' j (by simpa using hj), getElem!_pos d' i (by simpa using hi)] at this
      simpa [ltI] using this
  have hown := owns_srt enc (n := n) (os := os) (w := W1) (base := base) (g := g) (cap := cap) (ts := d'.toList) hdl hbase hb h1 h2 h3
  have hgr := grownBy_srt (n := n) (os := os) (w := W1) (g := g) enc d'
  refine headers_N (okv := fun _ => True) (hs := d'.toList.map fun i => hs.getD i.val (none, 0, 0)) (Kd.R_of_own ?_ (fun _ _ => trivial)) ⟨by rw [List.length_map, sortR_length]; exact hdl, ?_⟩ h0
  · rw [List.length_map, hdl]
    have e : encs Hdr.val (d'.toList.map fun i => hs.getD i.val (none, 0, 0)) = d'.toList.map enc := by
      unfold encs
      rw [List.map_map, henc]
      rfl
    rw [e]
    exact hown
  · intro j q x hq hx
    rw [List.getElem?_map] at hq
    obtain ⟨i, hi, rfl⟩ := Option.map_eq_some_iff.1 hq
    have h6 : x = l.get i := by
      rw [← hsr, List.getElem?_map, hi] at hx
      exact (Option.some.inj hx).symm
    have hp1 : i.val < hs.length := by rw [hlen]; exact i.isLt
    obtain ⟨e1, e2, hF⟩ := hL.2 i.val hs[i.val] x (List.getElem?_eq_getElem hp1) (by rw [h6]; simp)
    simp only [List.getD_eq_getElem?_getD, List.getElem?_eq_getElem hp1, Option.getD_some]
    exact ⟨e1, e2, Kd.F_grown hF hgr (fun k hk e => hk.2 (by rw [e]; rfl))⟩
set_option maxHeartbeats 8000000 in
set_option maxRecDepth 1000000 in
/-- the loops of spec.SortedRows over a row of headers of the call's own -/
theorem spec_SortedRows.calls (A0 : Option Addr) (c0 : Nat) (l0 : List (List ByteArray)) (r : List (List ByteArray)) (w : World) (hr0 : Kd.C (Kd.slice 9 Kd.string) w A0 l0.length l0) (hc0 : l0.length ≤ c0) (h : spec_SortedRows.f l0 = some r) :
    Calls Try.prog 24 #[.slice A0 l0.length c0] w fun e w' => ∃ v0_ : Value, e = .returned (v0_) ∧ Kd.N (Kd.slice 9 Kd.string) 22 w' w.heap.size (fun _ => True) v0_ r ∧ Below w.heap.size w w' := by
  have hl : l0.length < 5864062014805 := by
    unfold spec_SortedRows.f at h
    by_cases g : l0.length < 5864062014805
    · exact g
    · rw [if_neg g] at h; cases h
  have hr : r = sortR l0 := by
    unfold spec_SortedRows.f at h
    rw [if_pos hl] at h
    exact (Option.some.inj h).symm
  subst hr
  clear h
  obtain ⟨hs, hC, hL⟩ := C_headers hr0 Kd.heap_string
  have HC := Aside0.mk hC
  have HL := Aside0.mk hL
  have hlen : hs.length = l0.length := hL.1
  have HB := Aside0.mk (Below.refl w.heap.size w)
  clear hC hL hr0 hc0
  go_enter Try.func24, Try.ntmps24
  go_wp2_with (first
    | ((with_reducible refine gate_dst (N := 6) rfl ?_); refine Kd.R_lit header _ 22 ?hg (N := 6) ?hd (xs := ([] : List Hdr)) (inner := []) (ok := fun _ => True) (okp := fun _ => True) ?hr ?hp (fun _ hk => hk) trivial (Below.refl _ _) (Nat.le_refl _) (by simp) ?_; (case hd => rfl); (case hg => rfl); (case hr => first | (go_simp; done) | (go_simp; rfl)); (case hp => exact (Reps.none _ _)); intro v256 w3 ho4 hb hg_ hnew_; clear hg_ hnew_; have HO1 := Aside0.mk ho4; have HB1 := Aside0.mk hb; clear hb ho4)
    | ((with_reducible refine gate_builtin (b := .append) (xs := #[.tmp 6, .tmp 7]) rfl ?_); at_builtin; refine Kd.R_append_rows header (w0 := w) w.heap.size rfl (.tmp 6) (.tmp 7) 30 22 (.slice none 0 0) 24 rfl Try.underlying30 info22 rfl (by decide) (by omega) v256 [] hs _ _ _ (fun _ => True) (fun _ => False) rfl rfl ?aO ?aR (fun _ _ h => h) (fun _ h => h.elim) ?aF ?aB ?aS ?aL ?_; (case aR => exact Kd.C_below HC.out HB1.out); (case aB => exact HB1.out); (case aF => exact (fun _ _ => trivial)); (case aO => exact HO1.out); (case aS => exact (below_size HB1.out)); (case aL => simp; omega); intro v259 w5 ho hb hg hat; rw [List.nil_append] at ho; have HO2 := Aside0.mk ho; have HB2 := Aside0.mk hb; clear ho hb hg hat))
  obtain ⟨A2, c2, e2⟩ := Kd.R_slice HO2.out
  rcases Nat.eq_zero_or_pos l0.length with hz | hp
  · have hl0 : l0 = [] := List.eq_nil_of_length_eq_zero hz
    have hs0 : hs = [] := List.eq_nil_of_length_eq_zero (by omega)
    subst hl0
    subst hs0
    subst e2
    go_loopw [4] (fun v4 w' => v4 = .int .i64 1 ∧ w' = w5) (fun _ _ => 0)
    case atStart => exact ⟨rfl, rfl⟩
    case round =>
      obtain ⟨rfl, rfl⟩ := hrel
      go_wp2
      go_ret
      refine ⟨_, rfl, headers_N (hs := []) (okv := fun _ => True) HO2.out ⟨by simp [sortR], fun j q x hq => by simp at hq⟩ (fun _ _ => trivial), HB2.out⟩
  · have ho := Kd.own_of_R HO2.out
    rcases ho.2 with ⟨_, hn⟩ | ⟨g, cap, cur, e3, hbase, hb, h1, h2, h3, h4⟩
    · omega
    rw [e3] at e2
    injection e2 with e4 e5 e6
    subst e3
    clear e4 e5 e6
    have hv : Value.slice (some ⟨g, 0, none⟩) hs.length cap = .slice (some ⟨g, 0, none⟩) l0.length cap := by rw [hlen]
    rw [hv]
    letI inst : Inhabited (Fin l0.length) := ⟨⟨0, by omega⟩⟩
    letI instH : Inhabited Hdr := ⟨(none, 0, 0)⟩
    obtain ⟨enc, henc⟩ : ∃ enc : Fin l0.length → Value, enc = fun i => (hs.getD i.val (none, 0, 0)).val := ⟨_, rfl⟩
    obtain ⟨d, hd⟩ : ∃ d : Array (Fin l0.length), d = (List.finRange l0.length).toArray := ⟨_, rfl⟩
    have hds : d.size = l0.length := by rw [hd]; simp
    have hH : Go.Sort.Holds enc w5 g 0 d := by
      rw [hd]
      refine holds_blk enc hb ?_
      have e7 : cur.toList.take l0.length = hs.map Hdr.val := by rw [Nat.mul_one] at h4; rw [← hlen]; exact h4
      have e8 : hs.map Hdr.val = (List.finRange l0.length).map enc := by
        apply List.ext_getElem (by simp [hlen])
        intro j g1 g3
        simp only [List.length_map] at g1
        simp [henc, List.getD_eq_getElem?_getD, List.getElem?_eq_getElem g1]
      rw [List.length_finRange, ← e8]
      exact e7
    have HH := Aside0.mk hH
    have HE := Aside0.mk henc
    have HBLK := Aside0.mk (And.intro hb (And.intro hbase (And.intro h1 (And.intro h2 h3))))
    clear hH henc hb hbase h1 h2 h3 h4 ho
    go_loopw [4] (fun vi wr => ∃ (i n : Nat) (dk : Array (Fin l0.length)), vi = .int .i64 i ∧ 0 < i ∧ i ≤ l0.length + 1 ∧ dk.size = l0.length ∧ wr = Go.Sort.putRow enc (Go.Sort.ahead w5 n) g 0 dk ∧
      Go.Sort.insOuter (ltI l0) 0 l0.length i dk = Go.Sort.insOuter (ltI l0) 0 l0.length 1 d) (fun vi _ => l0.length + 1 - (intOf vi).toNat)
    case atStart => exact ⟨1, 0, d, by go_num, by omega, by omega, hds, (Go.Sort.putRow_self _ _ _ _ _ HH.out).symm, rfl⟩
    case round =>
      obtain ⟨i, n, dk, rfl, hi0, hib, hsk, hwr, hO⟩ := hrel
      have HO : Hid (Go.Sort.insOuter (ltI l0) 0 l0.length i dk = Go.Sort.insOuter (ltI l0) 0 l0.length 1 d) := hO
      clear hO
      by_cases hlt : i < l0.length
      · have c1 : decide (i < l0.length) = true := decide_eq_true hlt
        have c2 : decide ((i : Int) < (l0.length : Int)) = true := decide_eq_true (by omega)
        go_wp2
        go_loopw [5] (fun vj wr2 => ∃ (j m : Nat) (dj : Array (Fin l0.length)), vj = .int .i64 j ∧ j ≤ i ∧ dj.size = l0.length ∧ wr2 = Go.Sort.putRow enc (Go.Sort.ahead w5 m) g 0 dj ∧
          Go.Sort.insInner (ltI l0) 0 j dj = Go.Sort.insInner (ltI l0) 0 i dk) (fun vj _ => (intOf vj).toNat)
        case atStart => exact ⟨i, n, dk, rfl, Nat.le_refl _, hsk, rfl, rfl⟩
        case round =>
          obtain ⟨j, m, dj, rfl, hji, hsj, hw2, hI⟩ := hrel
          have HW : Hid (wr = Go.Sort.putRow enc (Go.Sort.ahead w5 m) g 0 dj) := hw2
          have HI : Hid (Go.Sort.insInner (ltI l0) 0 j dj = Go.Sort.insInner (ltI l0) 0 i dk) := hI
          have out : (j ≤ 0 ∨ ltI l0 dj[j]! dj[j - 1]! = false) → ∀ q, ∃ i' n' dk', Value.int .i64 ((i : Int) + 1) = .int .i64 (i' : Nat) ∧ 0 < i' ∧ i' ≤ l0.length + 1 ∧ dk'.size = l0.length ∧
              wr.drewN q = Go.Sort.putRow enc (Go.Sort.ahead w5 n') g 0 dk' ∧ Go.Sort.insOuter (ltI l0) 0 l0.length i' dk' = Go.Sort.insOuter (ltI l0) 0 l0.length 1 d := fun hst q =>
            ⟨i + 1, m + q, dj, by go_num, by omega, by omega, hsj, by rw [HW.out]; exact Go.Proofs.putRow_drewN _ _ _ _ _ _ _,
              by rw [← HO.out, Go.Proofs.insOuter_go _ _ _ _ _ hlt, ← HI.out, Go.Proofs.insInner_stop _ _ _ _ hst]⟩
          have OUT : Hid _ := out
          clear out hI
          -- the row's cells, and what they lead to
          obtain ⟨X, hX⟩ : ∃ X : Nat → List ByteArray, ∀ t, X t = l0.get dj[t]! := ⟨fun t => l0.get dj[t]!, fun _ => rfl⟩
          obtain ⟨GA, hGA⟩ : ∃ GA : Nat → Option Addr, ∀ t, GA t = (hs.getD (dj[t]!).val (none, 0, 0)).1 := ⟨fun t => (hs.getD (dj[t]!).val (none, 0, 0)).1, fun _ => rfl⟩
          obtain ⟨GC, hGC⟩ : ∃ GC : Nat → Nat, ∀ t, GC t = (hs.getD (dj[t]!).val (none, 0, 0)).2.2 := ⟨fun t => (hs.getD (dj[t]!).val (none, 0, 0)).2.2, fun _ => rfl⟩
          have hle : ∀ t, (hs.getD (dj[t]!).val (none, 0, 0)).2.1 = (X t).length ∧ (X t).length ≤ GC t ∧ Kd.F Kd.string w (fun k => k < w.heap.size) (GA t) (X t).length (X t) := by
            intro t
            have hp1 : (dj[t]!).val < hs.length := by rw [hlen]; exact (dj[t]!).isLt
            rw [hX, hGA, hGC]
            have := HL.out.2 (dj[t]!).val hs[(dj[t]!).val] (l0.get dj[t]!) (List.getElem?_eq_getElem hp1) (by simp)
            simp only [List.getD_eq_getElem?_getD, List.getElem?_eq_getElem hp1, Option.getD_some]
            exact this
          have hHm : Go.Sort.Holds enc (Go.Sort.ahead w5 m) g 0 d := Go.Sort.holds_ahead _ _ _ _ _ _ HH.out
          have hcw : ∀ t, t < l0.length → wr.cell? ⟨g, 0 + t, none⟩ = some (.slice (GA t) (X t).length (GC t)) := fun t ht => by
            rw [hw2, Go.Sort.cell?_putRow _ _ _ _ d dj hHm (by rw [hds]; exact hsj) t (by omega), HE.out]
            simp only [Hdr.val, hGA, hGC, (hle t).1]
          have hfw : ∀ t, t < l0.length → wr.frozen? ⟨g, 0 + t, none⟩ = false := fun t ht => by
            rw [hw2, Go.Sort.frozen?_putRow]; exact (hHm t (by omega)).2
          simp only [Nat.zero_add] at hcw hfw
          have hCt : ∀ t, Kd.C Kd.string wr (GA t) (X t).length (X t) := fun t => (hle t).2.2 wr (fun k hk _ => by
            rw [hw2]
            have e1 := (grownBy_srt (n := m) (os := #[]) (w := w5) (g := g) enc dj).block k (Nat.lt_of_lt_of_le hk (below_size HB2.out)) (by have := HBLK.out.2.1; intro e; injection e with e; omega)
            rw [Go.Sort.grow_empty] at e1
            rw [e1]
            exact HB2.out.block k hk)
          have HCT := Aside0.mk hCt
          have HV := Aside0.mk (fun t => show enc dj[t]! = .slice (GA t) (X t).length (GC t) from by rw [HE.out]; simp only [Hdr.val, hGA, hGC, (hle t).1])
          have HLE := Aside0.mk hle
          have HX := Aside0.mk (fun a b => show ltI l0 dj[a]! dj[b]! = rowLt (X a) (X b) from by rw [hX, hX]; rfl)
          clear hle hHm hCt hX hGA hGC hw2
          rcases Nat.eq_zero_or_pos j with hj0 | hj0
          · subst hj0
            go_wp2
            go_quiet (fail)
            go_wp2
            go_roundw
            case rel => exact OUT.out (Or.inl (Nat.le_refl 0)) nq
            case measure => simp [intOf]; omega
          · obtain ⟨p, rfl⟩ : ∃ p, j = p + 1 := ⟨j - 1, by omega⟩
            have b1 : decide (0 < ((p + 1 : Nat) : Int)) = true := decide_eq_true (by omega)
            have hc1 := hcw (p + 1) (by omega)
            have hc2 := hcw p (by omega)
            go_wp2
            go_quiet (first | (go_at_call 38; (with_reducible refine (rowLess_lt (GA (p + 1)) (GC (p + 1)) (X (p + 1)) (GA p) (GC p) (X p) _ (Kd.C_drewN (HCT.out (p + 1)) _) (HLE.out (p + 1)).2.1 (Kd.C_drewN (HCT.out p) _) (HLE.out p).2.1).mono ?_); rintro e w' ⟨rfl, ⟨nd, rfl⟩⟩; exact ⟨rfl, _, World.drewN_drewN _ _ _⟩))
            cases hbb : rowLt (X (p + 1)) (X p) with
            | false =>
              go_wp2
              go_roundw
              case rel => exact OUT.out (Or.inr (by rw [HX.out]; exact hbb)) nq
              case measure => simp [intOf]; omega
            | true =>
              have hf1 := hfw (p + 1) (by omega)
              have hf2 := hfw p (by omega)
              go_wp2
              go_region
              all_goals go_wp2
              go_roundw
              case rel =>
                refine ⟨p, m + (nq + 1), Go.Sort.swp dj (p + 1) p, by first | rfl | (congr 1; omega), by omega, by rw [Go.Sort.size_swp]; exact hsj, ?_, ?_⟩
                · rw [HW.out, ← HV.out, ← HV.out]
                  have e := Go.Proofs.swap_worldA enc w5 m (nq + 1) g 0 dj (p + 1) p (by omega) (by omega)
                  simp only [Nat.zero_add] at e
                  exact e
                · rw [← HI.out, Go.Proofs.insInner_go (ltI l0) 0 (p + 1) dj (by omega) (by rw [HX.out]; exact hbb)]
                  rfl
              case measure => first | (simp [intOf]; done) | (simp [intOf]; omega)
      · have c1 : decide (i < l0.length) = false := decide_eq_false hlt
        have c2 : decide ((i : Int) < (l0.length : Int)) = false := decide_eq_false (by omega)
        go_wp2
        go_ret
        have hfin : dk = Go.Sort.insertionSort (ltI l0) d 0 l0.length := by
          unfold Go.Sort.insertionSort
          rw [← HO.out, Go.Proofs.insOuter_stop _ _ _ _ _ hlt]
        have hps := Go.Sort.insertionSort_holds (lt := ltI l0) (swo_I l0) d 0 l0.length (Nat.zero_le _) (by omega)
        have hN := sorted_N w5 w.heap.size (fun _ => True) g cap cur hs l0 HBLK.out.2.1 HBLK.out.1 (by have := HBLK.out.2.2.1; omega) HBLK.out.2.2.2.1 HBLK.out.2.2.2.2
          ((HL.out.step (fun k hk _ => HB2.out.block k hk)).mono (fun k hk => ⟨trivial, fun e => by have := HBLK.out.2.1; simp [Value.ownBlock] at e; omega⟩)) (fun _ _ => trivial) enc HE.out d hd _ hps.1 hps.2 n #[]
        rw [← hfin, Go.Sort.grow_empty] at hN
        refine ⟨_, rfl, hN, ?_⟩
        have hg := grownBy_srt (n := n) (os := #[]) (w := w5) (g := g) enc dk
        rw [Go.Sort.grow_empty] at hg
        exact HB2.out.grown hg (below_size HB2.out) (fun k hk => by injection hk with hk; have := HBLK.out.2.1; omega)

/-! ### laws_FnRowsSorted: function 5 -/
def laws_FnRowsSorted.f (k : Nat) (l0 : List (List ByteArray)) : Option (Bool) := (laws_zzFits11.f k l0).bind fun t163 => (if t163 = true then ((laws_rows.f k l0).bind fun t164 => (if t164 = true then ((laws_level.f k l0).bind fun t166 => (if t166 = true then ((laws_copiedRows.f k l0).bind fun t168 => ((impl_SortArray2D.f k t168).bind fun t171 => ((spec_SortedRows.f l0).bind fun t174 => ((spec_SameRows.f k t171 t174).bind fun t177 => (if t177 = true then ((laws_copiedRows.f k t171).bind fun t178 => ((impl_SortArray2D.f k t178).bind fun t181 => ((spec_SameRows.f k t181 t171).bind fun t184 => (if t184 = true then ((laws_awakeUtil.f k).bind fun t185 => (some t185)) else (some false))))) else (some false)))))) else ((laws_awakeUtil.f k).bind fun t167 => (some t167)))) else ((laws_awakeUtil.f k).bind fun t165 => (some t165)))) else (some true))
theorem laws_FnRowsSorted.mono : ∀ a0 k, LeO (laws_FnRowsSorted.f k a0) (laws_FnRowsSorted.f (k + 1) a0) := by
  intro a0 k
  unfold laws_FnRowsSorted.f
  repeat' first
      | (with_reducible exact impl_SortArray2D.mono _ _)
      | (with_reducible exact laws_awakeUtil.mono _)
      | (with_reducible exact laws_copiedRows.mono _ _)
      | (with_reducible exact laws_level.mono _ _)
      | (with_reducible exact laws_rows.mono _ _)
      | (with_reducible exact laws_zzFits11.mono _ _)
      | (with_reducible exact spec_SameRows.mono _ _ _)
      | (with_reducible exact LeO.refl _)
      | (with_reducible exact LeO.none _)
      | (with_reducible refine LeO.ite ?_ ?_)
      | (with_reducible refine LeO.bind ?_ (fun _ => ?_))
      | exact impl_SortArray2D.mono _ _
      | exact laws_awakeUtil.mono _
      | exact laws_copiedRows.mono _ _
      | exact laws_level.mono _ _
      | exact laws_rows.mono _ _
      | exact laws_zzFits11.mono _ _
      | exact spec_SameRows.mono _ _ _
      | exact LeO.none _
      | refine LeO.ite ?_ ?_
      | refine LeO.bind ?_ (fun _ => ?_)
set_option maxHeartbeats 8000000 in
set_option maxRecDepth 100000 in
theorem laws_FnRowsSorted.calls (k : Nat) (A0 : Option Addr) (c0 : Nat) (l0 : List (List ByteArray)) (r : Bool) (w : World) (hr0 : Kd.C (Kd.slice 9 Kd.string) w A0 l0.length l0) (hc0 : l0.length ≤ c0) (h : laws_FnRowsSorted.f k l0 = some r) :
    Calls Try.prog 5 #[.slice A0 l0.length c0] w fun e w' => e = .returned (.bool r) ∧ Below w.heap.size w w' := by
  have HR0 := Aside0.mk hr0
  have HC0 := Aside0.mk hc0
  clear hr0 hc0
  have HB := Aside0.mk (Below.refl w.heap.size w)
  have H : ((laws_zzFits11.f k l0).bind fun t163 => (if t163 = true then ((laws_rows.f k l0).bind fun t164 => (if t164 = true then ((laws_level.f k l0).bind fun t166 => (if t166 = true then ((laws_copiedRows.f k l0).bind fun t168 => ((impl_SortArray2D.f k t168).bind fun t171 => ((spec_SortedRows.f l0).bind fun t174 => ((spec_SameRows.f k t171 t174).bind fun t177 => (if t177 = true then ((laws_copiedRows.f k t171).bind fun t178 => ((impl_SortArray2D.f k t178).bind fun t181 => ((spec_SameRows.f k t181 t171).bind fun t184 => (if t184 = true then ((laws_awakeUtil.f k).bind fun t185 => (some t185)) else (some false))))) else (some false)))))) else ((laws_awakeUtil.f k).bind fun t167 => (some t167)))) else ((laws_awakeUtil.f k).bind fun t165 => (some t165)))) else (some true))) = some r := h
  clear h
  replace H := Option.bind_eq_some_iff.mp H
  obtain ⟨t163, A20, H⟩ := H
  replace H : (if t163 = true then ((laws_rows.f k l0).bind fun t164 => (if t164 = true then ((laws_level.f k l0).bind fun t166 => (if t166 = true then ((laws_copiedRows.f k l0).bind fun t168 => ((impl_SortArray2D.f k t168).bind fun t171 => ((spec_SortedRows.f l0).bind fun t174 => ((spec_SameRows.f k t171 t174).bind fun t177 => (if t177 = true then ((laws_copiedRows.f k t171).bind fun t178 => ((impl_SortArray2D.f k t178).bind fun t181 => ((spec_SameRows.f k t181 t171).bind fun t184 => (if t184 = true then ((laws_awakeUtil.f k).bind fun t185 => (some t185)) else (some false))))) else (some false)))))) else ((laws_awakeUtil.f k).bind fun t167 => (some t167)))) else ((laws_awakeUtil.f k).bind fun t165 => (some t165)))) else (some true)) = some r := H
  have A2 := Aside0.mk A20
  clear A20
  by_cases c3 : t163 = true
  · subst c3
    have H1 : ((laws_rows.f k l0).bind fun t164 => (if t164 = true then ((laws_level.f k l0).bind fun t166 => (if t166 = true then ((laws_copiedRows.f k l0).bind fun t168 => ((impl_SortArray2D.f k t168).bind fun t171 => ((spec_SortedRows.f l0).bind fun t174 => ((spec_SameRows.f k t171 t174).bind fun t177 => (if t177 = true then ((laws_copiedRows.f k t171).bind fun t178 => ((impl_SortArray2D.f k t178).bind fun t181 => ((spec_SameRows.f k t181 t171).bind fun t184 => (if t184 = true then ((laws_awakeUtil.f k).bind fun t185 => (some t185)) else (some false))))) else (some false)))))) else ((laws_awakeUtil.f k).bind fun t167 => (some t167)))) else ((laws_awakeUtil.f k).bind fun t165 => (some t165)))) = some r := by rw [if_pos rfl] at H; exact H
    clear H
    have H := H1
    clear H1
    replace H := Option.bind_eq_some_iff.mp H
    obtain ⟨t164, A40, H⟩ := H
    replace H : (if t164 = true then ((laws_level.f k l0).bind fun t166 => (if t166 = true then ((laws_copiedRows.f k l0).bind fun t168 => ((impl_SortArray2D.f k t168).bind fun t171 => ((spec_SortedRows.f l0).bind fun t174 => ((spec_SameRows.f k t171 t174).bind fun t177 => (if t177 = true then ((laws_copiedRows.f k t171).bind fun t178 => ((impl_SortArray2D.f k t178).bind fun t181 => ((spec_SameRows.f k t181 t171).bind fun t184 => (if t184 = true then ((laws_awakeUtil.f k).bind fun t185 => (some t185)) else (some false))))) else (some false)))))) else ((laws_awakeUtil.f k).bind fun t167 => (some t167)))) else ((laws_awakeUtil.f k).bind fun t165 => (some t165))) = some r := H
    have A4 := Aside0.mk A40
    clear A40
    by_cases c5 : t164 = true
    · subst c5
      have H1 : ((laws_level.f k l0).bind fun t166 => (if t166 = true then ((laws_copiedRows.f k l0).bind fun t168 => ((impl_SortArray2D.f k t168).bind fun t171 => ((spec_SortedRows.f l0).bind fun t174 => ((spec_SameRows.f k t171 t174).bind fun t177 => (if t177 = true then ((laws_copiedRows.f k t171).bind fun t178 => ((impl_SortArray2D.f k t178).bind fun t181 => ((spec_SameRows.f k t181 t171).bind fun t184 => (if t184 = true then ((laws_awakeUtil.f k).bind fun t185 => (some t185)) else (some false))))) else (some false)))))) else ((laws_awakeUtil.f k).bind fun t167 => (some t167)))) = some r := by rw [if_pos rfl] at H; exact H
      clear H
      have H := H1
      clear H1
      replace H := Option.bind_eq_some_iff.mp H
      obtain ⟨t166, A60, H⟩ := H
      replace H : (if t166 = true then ((laws_copiedRows.f k l0).bind fun t168 => ((impl_SortArray2D.f k t168).bind fun t171 => ((spec_SortedRows.f l0).bind fun t174 => ((spec_SameRows.f k t171 t174).bind fun t177 => (if t177 = true then ((laws_copiedRows.f k t171).bind fun t178 => ((impl_SortArray2D.f k t178).bind fun t181 => ((spec_SameRows.f k t181 t171).bind fun t184 => (if t184 = true then ((laws_awakeUtil.f k).bind fun t185 => (some t185)) else (some false))))) else (some false)))))) else ((laws_awakeUtil.f k).bind fun t167 => (some t167))) = some r := H
      have A6 := Aside0.mk A60
      clear A60
      by_cases c7 : t166 = true
      · subst c7
        have H1 : ((laws_copiedRows.f k l0).bind fun t168 => ((impl_SortArray2D.f k t168).bind fun t171 => ((spec_SortedRows.f l0).bind fun t174 => ((spec_SameRows.f k t171 t174).bind fun t177 => (if t177 = true then ((laws_copiedRows.f k t171).bind fun t178 => ((impl_SortArray2D.f k t178).bind fun t181 => ((spec_SameRows.f k t181 t171).bind fun t184 => (if t184 = true then ((laws_awakeUtil.f k).bind fun t185 => (some t185)) else (some false))))) else (some false)))))) = some r := by rw [if_pos rfl] at H; exact H
        clear H
        have H := H1
        clear H1
        replace H := Option.bind_eq_some_iff.mp H
        obtain ⟨t168, A80, H⟩ := H
        replace H : ((impl_SortArray2D.f k t168).bind fun t171 => ((spec_SortedRows.f l0).bind fun t174 => ((spec_SameRows.f k t171 t174).bind fun t177 => (if t177 = true then ((laws_copiedRows.f k t171).bind fun t178 => ((impl_SortArray2D.f k t178).bind fun t181 => ((spec_SameRows.f k t181 t171).bind fun t184 => (if t184 = true then ((laws_awakeUtil.f k).bind fun t185 => (some t185)) else (some false))))) else (some false))))) = some r := H
        have A8 := Aside0.mk A80
        clear A80
        replace H := Option.bind_eq_some_iff.mp H
        obtain ⟨t171, A90, H⟩ := H
        replace H : ((spec_SortedRows.f l0).bind fun t174 => ((spec_SameRows.f k t171 t174).bind fun t177 => (if t177 = true then ((laws_copiedRows.f k t171).bind fun t178 => ((impl_SortArray2D.f k t178).bind fun t181 => ((spec_SameRows.f k t181 t171).bind fun t184 => (if t184 = true then ((laws_awakeUtil.f k).bind fun t185 => (some t185)) else (some false))))) else (some false)))) = some r := H
        have A9 := Aside0.mk A90
        clear A90
        replace H := Option.bind_eq_some_iff.mp H
        obtain ⟨t174, A100, H⟩ := H
        replace H : ((spec_SameRows.f k t171 t174).bind fun t177 => (if t177 = true then ((laws_copiedRows.f k t171).bind fun t178 => ((impl_SortArray2D.f k t178).bind fun t181 => ((spec_SameRows.f k t181 t171).bind fun t184 => (if t184 = true then ((laws_awakeUtil.f k).bind fun t185 => (some t185)) else (some false))))) else (some false))) = some r := H
        have A10 := Aside0.mk A100
        clear A100
        replace H := Option.bind_eq_some_iff.mp H
        obtain ⟨t177, A110, H⟩ := H
        replace H : (if t177 = true then ((laws_copiedRows.f k t171).bind fun t178 => ((impl_SortArray2D.f k t178).bind fun t181 => ((spec_SameRows.f k t181 t171).bind fun t184 => (if t184 = true then ((laws_awakeUtil.f k).bind fun t185 => (some t185)) else (some false))))) else (some false)) = some r := H
        have A11 := Aside0.mk A110
        clear A110
        by_cases c12 : t177 = true
        · subst c12
          have H1 : ((laws_copiedRows.f k t171).bind fun t178 => ((impl_SortArray2D.f k t178).bind fun t181 => ((spec_SameRows.f k t181 t171).bind fun t184 => (if t184 = true then ((laws_awakeUtil.f k).bind fun t185 => (some t185)) else (some false))))) = some r := by rw [if_pos rfl] at H; exact H
          clear H
          have H := H1
          clear H1
          replace H := Option.bind_eq_some_iff.mp H
          obtain ⟨t178, A130, H⟩ := H
          replace H : ((impl_SortArray2D.f k t178).bind fun t181 => ((spec_SameRows.f k t181 t171).bind fun t184 => (if t184 = true then ((laws_awakeUtil.f k).bind fun t185 => (some t185)) else (some false)))) = some r := H
          have A13 := Aside0.mk A130
          clear A130
          replace H := Option.bind_eq_some_iff.mp H
          obtain ⟨t181, A140, H⟩ := H
          replace H : ((spec_SameRows.f k t181 t171).bind fun t184 => (if t184 = true then ((laws_awakeUtil.f k).bind fun t185 => (some t185)) else (some false))) = some r := H
          have A14 := Aside0.mk A140
          clear A140
          replace H := Option.bind_eq_some_iff.mp H
          obtain ⟨t184, A150, H⟩ := H
          replace H : (if t184 = true then ((laws_awakeUtil.f k).bind fun t185 => (some t185)) else (some false)) = some r := H
          have A15 := Aside0.mk A150
          clear A150
          by_cases c16 : t184 = true
          · subst c16
            have H1 : ((laws_awakeUtil.f k).bind fun t185 => (some t185)) = some r := by rw [if_pos rfl] at H; exact H
            clear H
            have H := H1
            clear H1
            replace H := Option.bind_eq_some_iff.mp H
            obtain ⟨t185, A170, H⟩ := H
            replace H : (some t185) = some r := H
            have A17 := Aside0.mk A170
            clear A170
            obtain rfl := Option.some.inj H
            go_enter Try.func5, Try.ntmps5
            go_wp2_with (first | ((with_reducible refine gate_callee (f := 15) rfl ?_); refine goesL_ (some 5) rfl rfl Try.func15 (by kernel_rfl) rfl #[.slice A0 l0.length c0] rfl (by (try simp only [List.map_toArray, List.map_cons, List.map_nil]); first | done | rfl | (simp only [List.length_drop, List.length_take]; rfl)) ?_; (with_reducible refine (laws_zzFits11.calls k _ _ l0 true _ ?side1 ?side2 A2.out).mono ?_); (case side1 => repeat (first | exact HR0.out | (with_reducible refine Kd.C_alloc ?_ _) | (with_reducible refine Kd.C_drewN ?_ _) | (with_reducible refine Kd.C_drew ?_))); (case side2 => exact HC0.out); rintro e w' ⟨rfl, ⟨nd, rfl⟩⟩; refine ⟨_, rfl, ?_⟩) | ((with_reducible refine gate_callee (f := 16) rfl ?_); refine goesL_ (some 8) rfl rfl Try.func16 (by kernel_rfl) rfl #[.slice A0 l0.length c0] rfl (by (try simp only [List.map_toArray, List.map_cons, List.map_nil]); first | done | rfl | (simp only [List.length_drop, List.length_take]; rfl)) ?_; (with_reducible refine (laws_rows.calls k _ _ l0 true _ ?side1 ?side2 A4.out).mono ?_); (case side1 => repeat (first | exact HR0.out | (with_reducible refine Kd.C_alloc ?_ _) | (with_reducible refine Kd.C_drewN ?_ _) | (with_reducible refine Kd.C_drew ?_))); (case side2 => exact HC0.out); rintro e w' ⟨rfl, ⟨nd, rfl⟩⟩; refine ⟨_, rfl, ?_⟩) | ((with_reducible refine gate_callee (f := 21) rfl ?_); refine goesL_ (some 12) rfl rfl Try.func21 (by kernel_rfl) rfl #[.slice A0 l0.length c0] rfl (by (try simp only [List.map_toArray, List.map_cons, List.map_nil]); first | done | rfl | (simp only [List.length_drop, List.length_take]; rfl)) ?_; (with_reducible refine (laws_level.calls k _ _ l0 true _ ?side1 ?side2 A6.out).mono ?_); (case side1 => repeat (first | exact HR0.out | (with_reducible refine Kd.C_alloc ?_ _) | (with_reducible refine Kd.C_drewN ?_ _) | (with_reducible refine Kd.C_drew ?_))); (case side2 => exact HC0.out); rintro e w' ⟨rfl, ⟨nd, rfl⟩⟩; refine ⟨_, rfl, ?_⟩) | ((with_reducible refine gate_callee (f := 19) rfl ?_); refine goesL_ (some 16) rfl rfl Try.func19 (by kernel_rfl) rfl #[.slice A0 l0.length c0] rfl (by (try simp only [List.map_toArray, List.map_cons, List.map_nil]); first | done | rfl | (simp only [List.length_drop, List.length_take]; rfl)) ?_; (with_reducible refine (laws_copiedRows.calls k _ _ l0 t168 _ ?side1 ?side2 A8.out).mono ?_); (case side1 => repeat (first | exact HR0.out | (with_reducible refine Kd.C_alloc ?_ _) | (with_reducible refine Kd.C_drewN ?_ _) | (with_reducible refine Kd.C_drew ?_))); (case side2 => exact HC0.out); rintro e w18 ⟨v169, rfl, ho0, hb⟩; refine ⟨_, rfl, ?_⟩; (try replace ho0 := Kd.S_N ho0); have n0_ := Aside0.mk (Kd.N_lower ho0 (below_size (by repeat (first | (with_reducible first | exact HB.out | apply below_alloc | apply pw_below_drewN | apply below_drew1) | exact HB.out)))); have n1_ := Aside0.mk (below_step (by repeat (first | (with_reducible first | exact HB.out | apply below_alloc | apply pw_below_drewN | apply below_drew1) | exact HB.out)) hb); clear HB; have HO170 := n0_; have HB := n1_; clear n0_ n1_; (try clear hb); (try clear hb2); (try clear hk); (try clear hi); (try clear ho0); obtain ⟨Ao19, co19, eo19⟩ := Kd.N_slice HO170.out; subst eo19) | ((with_reducible refine gate_callee (f := 22) rfl ?_); refine goesL_ (some 17) rfl rfl Try.func22 (by kernel_rfl) rfl #[.slice Ao19 t168.length co19] rfl (by (try simp only [List.map_toArray, List.map_cons, List.map_nil]); first | done | rfl | (simp only [List.length_drop, List.length_take]; rfl)) ?_; (with_reducible refine (impl_SortArray2D.calls k _ _ t168 t171 _ ?side1 ?side2 A9.out).mono ?_); (case side1 => repeat (first | exact (Kd.N_reads' HO170.out).2.2 | (with_reducible refine Kd.C_alloc ?_ _) | (with_reducible refine Kd.C_drewN ?_ _) | (with_reducible refine Kd.C_drew ?_))); (case side2 => exact (Kd.N_reads' HO170.out).2.1); rintro e w20 ⟨v172, rfl, ho0, hb⟩; refine ⟨_, rfl, ?_⟩; (try replace ho0 := Kd.S_N ho0); have n0_ := Aside0.mk (Kd.N_elder' (by (with_reducible repeat (first | apply Kd.N_alloc | apply Kd.N_drewN | apply Kd.N_drew)); exact HO170.out) (Kd.N_base ho0) hb); have n1_ := Aside0.mk (Kd.N_lower ho0 (below_size (by repeat (first | (with_reducible first | exact HB.out | apply below_alloc | apply pw_below_drewN | apply below_drew1) | exact HB.out)))); have n2_ := Aside0.mk (below_step (by repeat (first | (with_reducible first | exact HB.out | apply below_alloc | apply pw_below_drewN | apply below_drew1) | exact HB.out)) hb); clear HO170; clear HB; have HO170 := n0_; have HO173 := n1_; have HB := n2_; clear n0_ n1_ n2_; (try clear hb); (try clear hb2); (try clear hk); (try clear hi); (try clear ho0)) | ((with_reducible refine gate_callee (f := 24) rfl ?_); refine goesL_ (some 20) rfl rfl Try.func24 (by kernel_rfl) rfl #[.slice A0 l0.length c0] rfl (by (try simp only [List.map_toArray, List.map_cons, List.map_nil]); first | done | rfl | (simp only [List.length_drop, List.length_take]; rfl)) ?_; (with_reducible refine (spec_SortedRows.calls _ _ l0 t174 _ ?side1 ?side2 A10.out).mono ?_); (case side1 => repeat (first | exact (Kd.C_below HR0.out HB.out) | (with_reducible refine Kd.C_alloc ?_ _) | (with_reducible refine Kd.C_drewN ?_ _) | (with_reducible refine Kd.C_drew ?_))); (case side2 => exact HC0.out); rintro e w21 ⟨v175, rfl, ho0, hb⟩; refine ⟨_, rfl, ?_⟩; (try replace ho0 := Kd.S_N ho0); have n0_ := Aside0.mk (Kd.N_elder' (by (with_reducible repeat (first | apply Kd.N_alloc | apply Kd.N_drewN | apply Kd.N_drew)); exact HO170.out) (Kd.N_base ho0) hb); have n1_ := Aside0.mk (Kd.N_elder' (by (with_reducible repeat (first | apply Kd.N_alloc | apply Kd.N_drewN | apply Kd.N_drew)); exact HO173.out) (Kd.N_base ho0) hb); have n2_ := Aside0.mk (Kd.N_lower ho0 (below_size (by repeat (first | (with_reducible first | exact HB.out | apply below_alloc | apply pw_below_drewN | apply below_drew1) | exact HB.out)))); have n3_ := Aside0.mk (below_step (by repeat (first | (with_reducible first | exact HB.out | apply below_alloc | apply pw_below_drewN | apply below_drew1) | exact HB.out)) hb); clear HO170; clear HO173; clear HB; have HO170 := n0_; have HO173 := n1_; have HO176 := n2_; have HB := n3_; clear n0_ n1_ n2_ n3_; (try clear hb); (try clear hb2); (try clear hk); (try clear hi); (try clear ho0); obtain ⟨Ao22, co22, eo22⟩ := Kd.N_slice HO173.out; subst eo22; obtain ⟨Ao23, co23, eo23⟩ := Kd.N_slice HO176.out; subst eo23) | ((with_reducible refine gate_callee (f := 23) rfl ?_); refine goesL_ (some 21) rfl rfl Try.func23 (by kernel_rfl) rfl #[.slice Ao22 t171.length co22, .slice Ao23 t174.length co23] rfl (by (try simp only [List.map_toArray, List.map_cons, List.map_nil]); first | done | rfl | (simp only [List.length_drop, List.length_take]; rfl)) ?_; (with_reducible refine (spec_SameRows.calls k _ _ t171 _ _ t174 true _ ?side1 ?side2 ?side3 ?side4 A11.out).mono ?_); (case side1 => repeat (first | exact (Kd.N_reads' HO173.out).2.2 | (with_reducible refine Kd.C_alloc ?_ _) | (with_reducible refine Kd.C_drewN ?_ _) | (with_reducible refine Kd.C_drew ?_))); (case side2 => exact (Kd.N_reads' HO173.out).2.1); (case side3 => repeat (first | exact (Kd.N_reads' HO176.out).2.2 | (with_reducible refine Kd.C_alloc ?_ _) | (with_reducible refine Kd.C_drewN ?_ _) | (with_reducible refine Kd.C_drew ?_))); (case side4 => exact (Kd.N_reads' HO176.out).2.1); rintro e w' ⟨rfl, ⟨nd, rfl⟩⟩; refine ⟨_, rfl, ?_⟩) | (go_at_call 19; (with_reducible refine (laws_copiedRows.calls k _ _ t171 t178 _ ?side1 ?side2 A13.out).mono ?_); (case side1 => repeat (first | exact (Kd.N_reads' HO173.out).2.2 | (with_reducible refine Kd.C_alloc ?_ _) | (with_reducible refine Kd.C_drewN ?_ _) | (with_reducible refine Kd.C_drew ?_))); (case side2 => exact (Kd.N_reads' HO173.out).2.1); rintro e w24 ⟨v179, rfl, ho0, hb⟩; (try replace ho0 := Kd.S_N ho0); have n0_ := Aside0.mk (Kd.N_elder' (by (with_reducible repeat (first | apply Kd.N_alloc | apply Kd.N_drewN | apply Kd.N_drew)); exact HO170.out) (Kd.N_base ho0) hb); have n1_ := Aside0.mk (Kd.N_elder' (by (with_reducible repeat (first | apply Kd.N_alloc | apply Kd.N_drewN | apply Kd.N_drew)); exact HO173.out) (Kd.N_base ho0) hb); have n2_ := Aside0.mk (Kd.N_elder' (by (with_reducible repeat (first | apply Kd.N_alloc | apply Kd.N_drewN | apply Kd.N_drew)); exact HO176.out) (Kd.N_base ho0) hb); have n3_ := Aside0.mk (Kd.N_lower ho0 (below_size (by repeat (first | (with_reducible first | exact HB.out | apply below_alloc | apply pw_below_drewN | apply below_drew1) | exact HB.out)))); have n4_ := Aside0.mk (below_step (by repeat (first | (with_reducible first | exact HB.out | apply below_alloc | apply pw_below_drewN | apply below_drew1) | exact HB.out)) hb); clear HO170; clear HO173; clear HO176; clear HB; have HO170 := n0_; have HO173 := n1_; have HO176 := n2_; have HO180 := n3_; have HB := n4_; clear n0_ n1_ n2_ n3_ n4_; (try clear hb); (try clear hb2); (try clear hk); (try clear hi); (try clear ho0); obtain ⟨Ao25, co25, eo25⟩ := Kd.N_slice HO180.out; subst eo25) | (go_at_call 22; (with_reducible refine (impl_SortArray2D.calls k _ _ t178 t181 _ ?side1 ?side2 A14.out).mono ?_); (case side1 => repeat (first | exact (Kd.N_reads' HO180.out).2.2 | (with_reducible refine Kd.C_alloc ?_ _) | (with_reducible refine Kd.C_drewN ?_ _) | (with_reducible refine Kd.C_drew ?_))); (case side2 => exact (Kd.N_reads' HO180.out).2.1); rintro e w26 ⟨v182, rfl, ho0, hb⟩; (try replace ho0 := Kd.S_N ho0); have n0_ := Aside0.mk (Kd.N_elder' (by (with_reducible repeat (first | apply Kd.N_alloc | apply Kd.N_drewN | apply Kd.N_drew)); exact HO170.out) (Kd.N_base ho0) hb); have n1_ := Aside0.mk (Kd.N_elder' (by (with_reducible repeat (first | apply Kd.N_alloc | apply Kd.N_drewN | apply Kd.N_drew)); exact HO173.out) (Kd.N_base ho0) hb); have n2_ := Aside0.mk (Kd.N_elder' (by (with_reducible repeat (first | apply Kd.N_alloc | apply Kd.N_drewN | apply Kd.N_drew)); exact HO176.out) (Kd.N_base ho0) hb); have n3_ := Aside0.mk (Kd.N_elder' (by (with_reducible repeat (first | apply Kd.N_alloc | apply Kd.N_drewN | apply Kd.N_drew)); exact HO180.out) (Kd.N_base ho0) hb); have n4_ := Aside0.mk (Kd.N_lower ho0 (below_size (by repeat (first | (with_reducible first | exact HB.out | apply below_alloc | apply pw_below_drewN | apply below_drew1) | exact HB.out)))); have n5_ := Aside0.mk (below_step (by repeat (first | (with_reducible first | exact HB.out | apply below_alloc | apply pw_below_drewN | apply below_drew1) | exact HB.out)) hb); clear HO170; clear HO173; clear HO176; clear HO180; clear HB; have HO170 := n0_; have HO173 := n1_; have HO176 := n2_; have HO180 := n3_; have HO183 := n4_; have HB := n5_; clear n0_ n1_ n2_ n3_ n4_ n5_; (try clear hb); (try clear hb2); (try clear hk); (try clear hi); (try clear ho0); obtain ⟨Ao27, co27, eo27⟩ := Kd.N_slice HO183.out; subst eo27) | (go_at_call 23; (with_reducible refine (spec_SameRows.calls k _ _ t181 _ _ t171 true _ ?side1 ?side2 ?side3 ?side4 A15.out).mono ?_); (case side1 => repeat (first | exact (Kd.N_reads' HO183.out).2.2 | (with_reducible refine Kd.C_alloc ?_ _) | (with_reducible refine Kd.C_drewN ?_ _) | (with_reducible refine Kd.C_drew ?_))); (case side2 => exact (Kd.N_reads' HO183.out).2.1); (case side3 => repeat (first | exact (Kd.N_reads' HO173.out).2.2 | (with_reducible refine Kd.C_alloc ?_ _) | (with_reducible refine Kd.C_drewN ?_ _) | (with_reducible refine Kd.C_drew ?_))); (case side4 => exact (Kd.N_reads' HO173.out).2.1); rintro e w' ⟨rfl, ⟨nd, rfl⟩⟩) | (go_at_call 9; (with_reducible refine (laws_awakeUtil.calls k  t185 _ A17.out).mono ?_); rintro e w28 ⟨rfl, hb⟩; have n0_ := Aside0.mk (Kd.N_below (by (with_reducible repeat (first | apply Kd.N_alloc | apply Kd.N_drewN | apply Kd.N_drew)); exact HO170.out) hb); have n1_ := Aside0.mk (Kd.N_below (by (with_reducible repeat (first | apply Kd.N_alloc | apply Kd.N_drewN | apply Kd.N_drew)); exact HO173.out) hb); have n2_ := Aside0.mk (Kd.N_below (by (with_reducible repeat (first | apply Kd.N_alloc | apply Kd.N_drewN | apply Kd.N_drew)); exact HO176.out) hb); have n3_ := Aside0.mk (Kd.N_below (by (with_reducible repeat (first | apply Kd.N_alloc | apply Kd.N_drewN | apply Kd.N_drew)); exact HO180.out) hb); have n4_ := Aside0.mk (Kd.N_below (by (with_reducible repeat (first | apply Kd.N_alloc | apply Kd.N_drewN | apply Kd.N_drew)); exact HO183.out) hb); have n5_ := Aside0.mk (below_step (by repeat (first | (with_reducible first | exact HB.out | apply below_alloc | apply pw_below_drewN | apply below_drew1) | exact HB.out)) hb); clear HO170; clear HO173; clear HO176; clear HO180; clear HO183; clear HB; have HO170 := n0_; have HO173 := n1_; have HO176 := n2_; have HO180 := n3_; have HO183 := n4_; have HB := n5_; clear n0_ n1_ n2_ n3_ n4_ n5_; (try clear hb); (try clear hb2); (try clear hk); (try clear hi)))
            go_ret
            exact ⟨by first | rfl | (simp [errW_none, errW_some] <;> rfl) | (simp [*, errW_none, errW_some] <;> rfl), by repeat (first | (with_reducible first | exact HB.out | apply below_alloc | apply pw_below_drewN | apply below_drew1) | exact HB.out)⟩
          · replace c16 := Bool.eq_false_iff.mpr c16
            subst c16
            have H1 : (some false) = some r := by rw [if_neg (show ¬ (false = true) by decide)] at H; exact H
            clear H
            have H := H1
            clear H1
            obtain rfl := Option.some.inj H
            go_enter Try.func5, Try.ntmps5
            go_wp2_with (first | ((with_reducible refine gate_callee (f := 15) rfl ?_); refine goesL_ (some 5) rfl rfl Try.func15 (by kernel_rfl) rfl #[.slice A0 l0.length c0] rfl (by (try simp only [List.map_toArray, List.map_cons, List.map_nil]); first | done | rfl | (simp only [List.length_drop, List.length_take]; rfl)) ?_; (with_reducible refine (laws_zzFits11.calls k _ _ l0 true _ ?side1 ?side2 A2.out).mono ?_); (case side1 => repeat (first | exact HR0.out | (with_reducible refine Kd.C_alloc ?_ _) | (with_reducible refine Kd.C_drewN ?_ _) | (with_reducible refine Kd.C_drew ?_))); (case side2 => exact HC0.out); rintro e w' ⟨rfl, ⟨nd, rfl⟩⟩; refine ⟨_, rfl, ?_⟩) | ((with_reducible refine gate_callee (f := 16) rfl ?_); refine goesL_ (some 8) rfl rfl Try.func16 (by kernel_rfl) rfl #[.slice A0 l0.length c0] rfl (by (try simp only [List.map_toArray, List.map_cons, List.map_nil]); first | done | rfl | (simp only [List.length_drop, List.length_take]; rfl)) ?_; (with_reducible refine (laws_rows.calls k _ _ l0 true _ ?side1 ?side2 A4.out).mono ?_); (case side1 => repeat (first | exact HR0.out | (with_reducible refine Kd.C_alloc ?_ _) | (with_reducible refine Kd.C_drewN ?_ _) | (with_reducible refine Kd.C_drew ?_))); (case side2 => exact HC0.out); rintro e w' ⟨rfl, ⟨nd, rfl⟩⟩; refine ⟨_, rfl, ?_⟩) | ((with_reducible refine gate_callee (f := 21) rfl ?_); refine goesL_ (some 12) rfl rfl Try.func21 (by kernel_rfl) rfl #[.slice A0 l0.length c0] rfl (by (try simp only [List.map_toArray, List.map_cons, List.map_nil]); first | done | rfl | (simp only [List.length_drop, List.length_take]; rfl)) ?_; (with_reducible refine (laws_level.calls k _ _ l0 true _ ?side1 ?side2 A6.out).mono ?_); (case side1 => repeat (first | exact HR0.out | (with_reducible refine Kd.C_alloc ?_ _) | (with_reducible refine Kd.C_drewN ?_ _) | (with_reducible refine Kd.C_drew ?_))); (case side2 => exact HC0.out); rintro e w' ⟨rfl, ⟨nd, rfl⟩⟩; refine ⟨_, rfl, ?_⟩) | ((with_reducible refine gate_callee (f := 19) rfl ?_); refine goesL_ (some 16) rfl rfl Try.func19 (by kernel_rfl) rfl #[.slice A0 l0.length c0] rfl (by (try simp only [List.map_toArray, List.map_cons, List.map_nil]); first | done | rfl | (simp only [List.length_drop, List.length_take]; rfl)) ?_; (with_reducible refine (laws_copiedRows.calls k _ _ l0 t168 _ ?side1 ?side2 A8.out).mono ?_); (case side1 => repeat (first | exact HR0.out | (with_reducible refine Kd.C_alloc ?_ _) | (with_reducible refine Kd.C_drewN ?_ _) | (with_reducible refine Kd.C_drew ?_))); (case side2 => exact HC0.out); rintro e w29 ⟨v169, rfl, ho0, hb⟩; refine ⟨_, rfl, ?_⟩; (try replace ho0 := Kd.S_N ho0); have n0_ := Aside0.mk (Kd.N_lower ho0 (below_size (by repeat (first | (with_reducible first | exact HB.out | apply below_alloc | apply pw_below_drewN | apply below_drew1) | exact HB.out)))); have n1_ := Aside0.mk (below_step (by repeat (first | (with_reducible first | exact HB.out | apply below_alloc | apply pw_below_drewN | apply below_drew1) | exact HB.out)) hb); clear HB; have HO170 := n0_; have HB := n1_; clear n0_ n1_; (try clear hb); (try clear hb2); (try clear hk); (try clear hi); (try clear ho0); obtain ⟨Ao30, co30, eo30⟩ := Kd.N_slice HO170.out; subst eo30) | ((with_reducible refine gate_callee (f := 22) rfl ?_); refine goesL_ (some 17) rfl rfl Try.func22 (by kernel_rfl) rfl #[.slice Ao30 t168.length co30] rfl (by (try simp only [List.map_toArray, List.map_cons, List.map_nil]); first | done | rfl | (simp only [List.length_drop, List.length_take]; rfl)) ?_; (with_reducible refine (impl_SortArray2D.calls k _ _ t168 t171 _ ?side1 ?side2 A9.out).mono ?_); (case side1 => repeat (first | exact (Kd.N_reads' HO170.out).2.2 | (with_reducible refine Kd.C_alloc ?_ _) | (with_reducible refine Kd.C_drewN ?_ _) | (with_reducible refine Kd.C_drew ?_))); (case side2 => exact (Kd.N_reads' HO170.out).2.1); rintro e w31 ⟨v172, rfl, ho0, hb⟩; refine ⟨_, rfl, ?_⟩; (try replace ho0 := Kd.S_N ho0); have n0_ := Aside0.mk (Kd.N_elder' (by (with_reducible repeat (first | apply Kd.N_alloc | apply Kd.N_drewN | apply Kd.N_drew)); exact HO170.out) (Kd.N_base ho0) hb); have n1_ := Aside0.mk (Kd.N_lower ho0 (below_size (by repeat (first | (with_reducible first | exact HB.out | apply below_alloc | apply pw_below_drewN | apply below_drew1) | exact HB.out)))); have n2_ := Aside0.mk (below_step (by repeat (first | (with_reducible first | exact HB.out | apply below_alloc | apply pw_below_drewN | apply below_drew1) | exact HB.out)) hb); clear HO170; clear HB; have HO170 := n0_; have HO173 := n1_; have HB := n2_; clear n0_ n1_ n2_; (try clear hb); (try clear hb2); (try clear hk); (try clear hi); (try clear ho0)) | ((with_reducible refine gate_callee (f := 24) rfl ?_); refine goesL_ (some 20) rfl rfl Try.func24 (by kernel_rfl) rfl #[.slice A0 l0.length c0] rfl (by (try simp only [List.map_toArray, List.map_cons, List.map_nil]); first | done | rfl | (simp only [List.length_drop, List.length_take]; rfl)) ?_; (with_reducible refine (spec_SortedRows.calls _ _ l0 t174 _ ?side1 ?side2 A10.out).mono ?_); (case side1 => repeat (first | exact (Kd.C_below HR0.out HB.out) | (with_reducible refine Kd.C_alloc ?_ _) | (with_reducible refine Kd.C_drewN ?_ _) | (with_reducible refine Kd.C_drew ?_))); (case side2 => exact HC0.out); rintro e w32 ⟨v175, rfl, ho0, hb⟩; refine ⟨_, rfl, ?_⟩; (try replace ho0 := Kd.S_N ho0); have n0_ := Aside0.mk (Kd.N_elder' (by (with_reducible repeat (first | apply Kd.N_alloc | apply Kd.N_drewN | apply Kd.N_drew)); exact HO170.out) (Kd.N_base ho0) hb); have n1_ := Aside0.mk (Kd.N_elder' (by (with_reducible repeat (first | apply Kd.N_alloc | apply Kd.N_drewN | apply Kd.N_drew)); exact HO173.out) (Kd.N_base ho0) hb); have n2_ := Aside0.mk (Kd.N_lower ho0 (below_size (by repeat (first | (with_reducible first | exact HB.out | apply below_alloc | apply pw_below_drewN | apply below_drew1) | exact HB.out)))); have n3_ := Aside0.mk (below_step (by repeat (first | (with_reducible first | exact HB.out | apply below_alloc | apply pw_below_drewN | apply below_drew1) | exact HB.out)) hb); clear HO170; clear HO173; clear HB; have HO170 := n0_; have HO173 := n1_; have HO176 := n2_; have HB := n3_; clear n0_ n1_ n2_ n3_; (try clear hb); (try clear hb2); (try clear hk); (try clear hi); (try clear ho0); obtain ⟨Ao33, co33, eo33⟩ := Kd.N_slice HO173.out; subst eo33; obtain ⟨Ao34, co34, eo34⟩ := Kd.N_slice HO176.out; subst eo34) | ((with_reducible refine gate_callee (f := 23) rfl ?_); refine goesL_ (some 21) rfl rfl Try.func23 (by kernel_rfl) rfl #[.slice Ao33 t171.length co33, .slice Ao34 t174.length co34] rfl (by (try simp only [List.map_toArray, List.map_cons, List.map_nil]); first | done | rfl | (simp only [List.length_drop, List.length_take]; rfl)) ?_; (with_reducible refine (spec_SameRows.calls k _ _ t171 _ _ t174 true _ ?side1 ?side2 ?side3 ?side4 A11.out).mono ?_); (case side1 => repeat (first | exact (Kd.N_reads' HO173.out).2.2 | (with_reducible refine Kd.C_alloc ?_ _) | (with_reducible refine Kd.C_drewN ?_ _) | (with_reducible refine Kd.C_drew ?_))); (case side2 => exact (Kd.N_reads' HO173.out).2.1); (case side3 => repeat (first | exact (Kd.N_reads' HO176.out).2.2 | (with_reducible refine Kd.C_alloc ?_ _) | (with_reducible refine Kd.C_drewN ?_ _) | (with_reducible refine Kd.C_drew ?_))); (case side4 => exact (Kd.N_reads' HO176.out).2.1); rintro e w' ⟨rfl, ⟨nd, rfl⟩⟩; refine ⟨_, rfl, ?_⟩) | (go_at_call 19; (with_reducible refine (laws_copiedRows.calls k _ _ t171 t178 _ ?side1 ?side2 A13.out).mono ?_); (case side1 => repeat (first | exact (Kd.N_reads' HO173.out).2.2 | (with_reducible refine Kd.C_alloc ?_ _) | (with_reducible refine Kd.C_drewN ?_ _) | (with_reducible refine Kd.C_drew ?_))); (case side2 => exact (Kd.N_reads' HO173.out).2.1); rintro e w35 ⟨v179, rfl, ho0, hb⟩; (try replace ho0 := Kd.S_N ho0); have n0_ := Aside0.mk (Kd.N_elder' (by (with_reducible repeat (first | apply Kd.N_alloc | apply Kd.N_drewN | apply Kd.N_drew)); exact HO170.out) (Kd.N_base ho0) hb); have n1_ := Aside0.mk (Kd.N_elder' (by (with_reducible repeat (first | apply Kd.N_alloc | apply Kd.N_drewN | apply Kd.N_drew)); exact HO173.out) (Kd.N_base ho0) hb); have n2_ := Aside0.mk (Kd.N_elder' (by (with_reducible repeat (first | apply Kd.N_alloc | apply Kd.N_drewN | apply Kd.N_drew)); exact HO176.out) (Kd.N_base ho0) hb); have n3_ := Aside0.mk (Kd.N_lower ho0 (below_size (by repeat (first | (with_reducible first | exact HB.out | apply below_alloc | apply pw_below_drewN | apply below_drew1) | exact HB.out)))); have n4_ := Aside0.mk (below_step (by repeat (first | (with_reducible first | exact HB.out | apply below_alloc | apply pw_below_drewN | apply below_drew1) | exact HB.out)) hb); clear HO170; clear HO173; clear HO176; clear HB; have HO170 := n0_; have HO173 := n1_; have HO176 := n2_; have HO180 := n3_; have HB := n4_; clear n0_ n1_ n2_ n3_ n4_; (try clear hb); (try clear hb2); (try clear hk); (try clear hi); (try clear ho0); obtain ⟨Ao36, co36, eo36⟩ := Kd.N_slice HO180.out; subst eo36) | (go_at_call 22; (with_reducible refine (impl_SortArray2D.calls k _ _ t178 t181 _ ?side1 ?side2 A14.out).mono ?_); (case side1 => repeat (first | exact (Kd.N_reads' HO180.out).2.2 | (with_reducible refine Kd.C_alloc ?_ _) | (with_reducible refine Kd.C_drewN ?_ _) | (with_reducible refine Kd.C_drew ?_))); (case side2 => exact (Kd.N_reads' HO180.out).2.1); rintro e w37 ⟨v182, rfl, ho0, hb⟩; (try replace ho0 := Kd.S_N ho0); have n0_ := Aside0.mk (Kd.N_elder' (by (with_reducible repeat (first | apply Kd.N_alloc | apply Kd.N_drewN | apply Kd.N_drew)); exact HO170.out) (Kd.N_base ho0) hb); have n1_ := Aside0.mk (Kd.N_elder' (by (with_reducible repeat (first | apply Kd.N_alloc | apply Kd.N_drewN | apply Kd.N_drew)); exact HO173.out) (Kd.N_base ho0) hb); have n2_ := Aside0.mk (Kd.N_elder' (by (with_reducible repeat (first | apply Kd.N_alloc | apply Kd.N_drewN | apply Kd.N_drew)); exact HO176.out) (Kd.N_base ho0) hb); have n3_ := Aside0.mk (Kd.N_elder' (by (with_reducible repeat (first | apply Kd.N_alloc | apply Kd.N_drewN | apply Kd.N_drew)); exact HO180.out) (Kd.N_base ho0) hb); have n4_ := Aside0.mk (Kd.N_lower ho0 (below_size (by repeat (first | (with_reducible first | exact HB.out | apply below_alloc | apply pw_below_drewN | apply below_drew1) | exact HB.out)))); have n5_ := Aside0.mk (below_step (by repeat (first | (with_reducible first | exact HB.out | apply below_alloc | apply pw_below_drewN | apply below_drew1) | exact HB.out)) hb); clear HO170; clear HO173; clear HO176; clear HO180; clear HB; have HO170 := n0_; have HO173 := n1_; have HO176 := n2_; have HO180 := n3_; have HO183 := n4_; have HB := n5_; clear n0_ n1_ n2_ n3_ n4_ n5_; (try clear hb); (try clear hb2); (try clear hk); (try clear hi); (try clear ho0); obtain ⟨Ao38, co38, eo38⟩ := Kd.N_slice HO183.out; subst eo38) | (go_at_call 23; (with_reducible refine (spec_SameRows.calls k _ _ t181 _ _ t171 false _ ?side1 ?side2 ?side3 ?side4 A15.out).mono ?_); (case side1 => repeat (first | exact (Kd.N_reads' HO183.out).2.2 | (with_reducible refine Kd.C_alloc ?_ _) | (with_reducible refine Kd.C_drewN ?_ _) | (with_reducible refine Kd.C_drew ?_))); (case side2 => exact (Kd.N_reads' HO183.out).2.1); (case side3 => repeat (first | exact (Kd.N_reads' HO173.out).2.2 | (with_reducible refine Kd.C_alloc ?_ _) | (with_reducible refine Kd.C_drewN ?_ _) | (with_reducible refine Kd.C_drew ?_))); (case side4 => exact (Kd.N_reads' HO173.out).2.1); rintro e w' ⟨rfl, ⟨nd, rfl⟩⟩))
            go_ret
            exact ⟨by first | rfl | (simp [errW_none, errW_some] <;> rfl) | (simp [*, errW_none, errW_some] <;> rfl), by repeat (first | (with_reducible first | exact HB.out | apply below_alloc | apply pw_below_drewN | apply below_drew1) | exact HB.out)⟩
        · replace c12 := Bool.eq_false_iff.mpr c12
          subst c12
          have H1 : (some false) = some r := by rw [if_neg (show ¬ (false = true) by decide)] at H; exact H
          clear H
          have H := H1
          clear H1
          obtain rfl := Option.some.inj H
          go_enter Try.func5, Try.ntmps5
          go_wp2_with (first | ((with_reducible refine gate_callee (f := 15) rfl ?_); refine goesL_ (some 5) rfl rfl Try.func15 (by kernel_rfl) rfl #[.slice A0 l0.length c0] rfl (by (try simp only [List.map_toArray, List.map_cons, List.map_nil]); first | done | rfl | (simp only [List.length_drop, List.length_take]; rfl)) ?_; (with_reducible refine (laws_zzFits11.calls k _ _ l0 true _ ?side1 ?side2 A2.out).mono ?_); (case side1 => repeat (first | exact HR0.out | (with_reducible refine Kd.C_alloc ?_ _) | (with_reducible refine Kd.C_drewN ?_ _) | (with_reducible refine Kd.C_drew ?_))); (case side2 => exact HC0.out); rintro e w' ⟨rfl, ⟨nd, rfl⟩⟩; refine ⟨_, rfl, ?_⟩) | ((with_reducible refine gate_callee (f := 16) rfl ?_); refine goesL_ (some 8) rfl rfl Try.func16 (by kernel_rfl) rfl #[.slice A0 l0.length c0] rfl (by (try simp only [List.map_toArray, List.map_cons, List.map_nil]); first | done | rfl | (simp only [List.length_drop, List.length_take]; rfl)) ?_; (with_reducible refine (laws_rows.calls k _ _ l0 true _ ?side1 ?side2 A4.out).mono ?_); (case side1 => repeat (first | exact HR0.out | (with_reducible refine Kd.C_alloc ?_ _) | (with_reducible refine Kd.C_drewN ?_ _) | (with_reducible refine Kd.C_drew ?_))); (case side2 => exact HC0.out); rintro e w' ⟨rfl, ⟨nd, rfl⟩⟩; refine ⟨_, rfl, ?_⟩) | ((with_reducible refine gate_callee (f := 21) rfl ?_); refine goesL_ (some 12) rfl rfl Try.func21 (by kernel_rfl) rfl #[.slice A0 l0.length c0] rfl (by (try simp only [List.map_toArray, List.map_cons, List.map_nil]); first | done | rfl | (simp only [List.length_drop, List.length_take]; rfl)) ?_; (with_reducible refine (laws_level.calls k _ _ l0 true _ ?side1 ?side2 A6.out).mono ?_); (case side1 => repeat (first | exact HR0.out | (with_reducible refine Kd.C_alloc ?_ _) | (with_reducible refine Kd.C_drewN ?_ _) | (with_reducible refine Kd.C_drew ?_))); (case side2 => exact HC0.out); rintro e w' ⟨rfl, ⟨nd, rfl⟩⟩; refine ⟨_, rfl, ?_⟩) | ((with_reducible refine gate_callee (f := 19) rfl ?_); refine goesL_ (some 16) rfl rfl Try.func19 (by kernel_rfl) rfl #[.slice A0 l0.length c0] rfl (by (try simp only [List.map_toArray, List.map_cons, List.map_nil]); first | done | rfl | (simp only [List.length_drop, List.length_take]; rfl)) ?_; (with_reducible refine (laws_copiedRows.calls k _ _ l0 t168 _ ?side1 ?side2 A8.out).mono ?_); (case side1 => repeat (first | exact HR0.out | (with_reducible refine Kd.C_alloc ?_ _) | (with_reducible refine Kd.C_drewN ?_ _) | (with_reducible refine Kd.C_drew ?_))); (case side2 => exact HC0.out); rintro e w39 ⟨v169, rfl, ho0, hb⟩; refine ⟨_, rfl, ?_⟩; (try replace ho0 := Kd.S_N ho0); have n0_ := Aside0.mk (Kd.N_lower ho0 (below_size (by repeat (first | (with_reducible first | exact HB.out | apply below_alloc | apply pw_below_drewN | apply below_drew1) | exact HB.out)))); have n1_ := Aside0.mk (below_step (by repeat (first | (with_reducible first | exact HB.out | apply below_alloc | apply pw_below_drewN | apply below_drew1) | exact HB.out)) hb); clear HB; have HO170 := n0_; have HB := n1_; clear n0_ n1_; (try clear hb); (try clear hb2); (try clear hk); (try clear hi); (try clear ho0); obtain ⟨Ao40, co40, eo40⟩ := Kd.N_slice HO170.out; subst eo40) | ((with_reducible refine gate_callee (f := 22) rfl ?_); refine goesL_ (some 17) rfl rfl Try.func22 (by kernel_rfl) rfl #[.slice Ao40 t168.length co40] rfl (by (try simp only [List.map_toArray, List.map_cons, List.map_nil]); first | done | rfl | (simp only [List.length_drop, List.length_take]; rfl)) ?_; (with_reducible refine (impl_SortArray2D.calls k _ _ t168 t171 _ ?side1 ?side2 A9.out).mono ?_); (case side1 => repeat (first | exact (Kd.N_reads' HO170.out).2.2 | (with_reducible refine Kd.C_alloc ?_ _) | (with_reducible refine Kd.C_drewN ?_ _) | (with_reducible refine Kd.C_drew ?_))); (case side2 => exact (Kd.N_reads' HO170.out).2.1); rintro e w41 ⟨v172, rfl, ho0, hb⟩; refine ⟨_, rfl, ?_⟩; (try replace ho0 := Kd.S_N ho0); have n0_ := Aside0.mk (Kd.N_elder' (by (with_reducible repeat (first | apply Kd.N_alloc | apply Kd.N_drewN | apply Kd.N_drew)); exact HO170.out) (Kd.N_base ho0) hb); have n1_ := Aside0.mk (Kd.N_lower ho0 (below_size (by repeat (first | (with_reducible first | exact HB.out | apply below_alloc | apply pw_below_drewN | apply below_drew1) | exact HB.out)))); have n2_ := Aside0.mk (below_step (by repeat (first | (with_reducible first | exact HB.out | apply below_alloc | apply pw_below_drewN | apply below_drew1) | exact HB.out)) hb); clear HO170; clear HB; have HO170 := n0_; have HO173 := n1_; have HB := n2_; clear n0_ n1_ n2_; (try clear hb); (try clear hb2); (try clear hk); (try clear hi); (try clear ho0)) | ((with_reducible refine gate_callee (f := 24) rfl ?_); refine goesL_ (some 20) rfl rfl Try.func24 (by kernel_rfl) rfl #[.slice A0 l0.length c0] rfl (by (try simp only [List.map_toArray, List.map_cons, List.map_nil]); first | done | rfl | (simp only [List.length_drop, List.length_take]; rfl)) ?_; (with_reducible refine (spec_SortedRows.calls _ _ l0 t174 _ ?side1 ?side2 A10.out).mono ?_); (case side1 => repeat (first | exact (Kd.C_below HR0.out HB.out) | (with_reducible refine Kd.C_alloc ?_ _) | (with_reducible refine Kd.C_drewN ?_ _) | (with_reducible refine Kd.C_drew ?_))); (case side2 => exact HC0.out); rintro e w42 ⟨v175, rfl, ho0, hb⟩; refine ⟨_, rfl, ?_⟩; (try replace ho0 := Kd.S_N ho0); have n0_ := Aside0.mk (Kd.N_elder' (by (with_reducible repeat (first | apply Kd.N_alloc | apply Kd.N_drewN | apply Kd.N_drew)); exact HO170.out) (Kd.N_base ho0) hb); have n1_ := Aside0.mk (Kd.N_elder' (by (with_reducible repeat (first | apply Kd.N_alloc | apply Kd.N_drewN | apply Kd.N_drew)); exact HO173.out) (Kd.N_base ho0) hb); have n2_ := Aside0.mk (Kd.N_lower ho0 (below_size (by repeat (first | (with_reducible first | exact HB.out | apply below_alloc | apply pw_below_drewN | apply below_drew1) | exact HB.out)))); have n3_ := Aside0.mk (below_step (by repeat (first | (with_reducible first | exact HB.out | apply below_alloc | apply pw_below_drewN | apply below_drew1) | exact HB.out)) hb); clear HO170; clear HO173; clear HB; have HO170 := n0_; have HO173 := n1_; have HO176 := n2_; have HB := n3_; clear n0_ n1_ n2_ n3_; (try clear hb); (try clear hb2); (try clear hk); (try clear hi); (try clear ho0); obtain ⟨Ao43, co43, eo43⟩ := Kd.N_slice HO173.out; subst eo43; obtain ⟨Ao44, co44, eo44⟩ := Kd.N_slice HO176.out; subst eo44) | ((with_reducible refine gate_callee (f := 23) rfl ?_); refine goesL_ (some 21) rfl rfl Try.func23 (by kernel_rfl) rfl #[.slice Ao43 t171.length co43, .slice Ao44 t174.length co44] rfl (by (try simp only [List.map_toArray, List.map_cons, List.map_nil]); first | done | rfl | (simp only [List.length_drop, List.length_take]; rfl)) ?_; (with_reducible refine (spec_SameRows.calls k _ _ t171 _ _ t174 false _ ?side1 ?side2 ?side3 ?side4 A11.out).mono ?_); (case side1 => repeat (first | exact (Kd.N_reads' HO173.out).2.2 | (with_reducible refine Kd.C_alloc ?_ _) | (with_reducible refine Kd.C_drewN ?_ _) | (with_reducible refine Kd.C_drew ?_))); (case side2 => exact (Kd.N_reads' HO173.out).2.1); (case side3 => repeat (first | exact (Kd.N_reads' HO176.out).2.2 | (with_reducible refine Kd.C_alloc ?_ _) | (with_reducible refine Kd.C_drewN ?_ _) | (with_reducible refine Kd.C_drew ?_))); (case side4 => exact (Kd.N_reads' HO176.out).2.1); rintro e w' ⟨rfl, ⟨nd, rfl⟩⟩; refine ⟨_, rfl, ?_⟩))
          go_ret
          exact ⟨by first | rfl | (simp [errW_none, errW_some] <;> rfl) | (simp [*, errW_none, errW_some] <;> rfl), by repeat (first | (with_reducible first | exact HB.out | apply below_alloc | apply pw_below_drewN | apply below_drew1) | exact HB.out)⟩
      · replace c7 := Bool.eq_false_iff.mpr c7
        subst c7
        have H1 : ((laws_awakeUtil.f k).bind fun t167 => (some t167)) = some r := by rw [if_neg (show ¬ (false = true) by decide)] at H; exact H
        clear H
        have H := H1
        clear H1
        replace H := Option.bind_eq_some_iff.mp H
        obtain ⟨t167, A450, H⟩ := H
        replace H : (some t167) = some r := H
        have A45 := Aside0.mk A450
        clear A450
        obtain rfl := Option.some.inj H
        go_enter Try.func5, Try.ntmps5
        go_wp2_with (first | ((with_reducible refine gate_callee (f := 15) rfl ?_); refine goesL_ (some 5) rfl rfl Try.func15 (by kernel_rfl) rfl #[.slice A0 l0.length c0] rfl (by (try simp only [List.map_toArray, List.map_cons, List.map_nil]); first | done | rfl | (simp only [List.length_drop, List.length_take]; rfl)) ?_; (with_reducible refine (laws_zzFits11.calls k _ _ l0 true _ ?side1 ?side2 A2.out).mono ?_); (case side1 => repeat (first | exact HR0.out | (with_reducible refine Kd.C_alloc ?_ _) | (with_reducible refine Kd.C_drewN ?_ _) | (with_reducible refine Kd.C_drew ?_))); (case side2 => exact HC0.out); rintro e w' ⟨rfl, ⟨nd, rfl⟩⟩; refine ⟨_, rfl, ?_⟩) | ((with_reducible refine gate_callee (f := 16) rfl ?_); refine goesL_ (some 8) rfl rfl Try.func16 (by kernel_rfl) rfl #[.slice A0 l0.length c0] rfl (by (try simp only [List.map_toArray, List.map_cons, List.map_nil]); first | done | rfl | (simp only [List.length_drop, List.length_take]; rfl)) ?_; (with_reducible refine (laws_rows.calls k _ _ l0 true _ ?side1 ?side2 A4.out).mono ?_); (case side1 => repeat (first | exact HR0.out | (with_reducible refine Kd.C_alloc ?_ _) | (with_reducible refine Kd.C_drewN ?_ _) | (with_reducible refine Kd.C_drew ?_))); (case side2 => exact HC0.out); rintro e w' ⟨rfl, ⟨nd, rfl⟩⟩; refine ⟨_, rfl, ?_⟩) | ((with_reducible refine gate_callee (f := 21) rfl ?_); refine goesL_ (some 12) rfl rfl Try.func21 (by kernel_rfl) rfl #[.slice A0 l0.length c0] rfl (by (try simp only [List.map_toArray, List.map_cons, List.map_nil]); first | done | rfl | (simp only [List.length_drop, List.length_take]; rfl)) ?_; (with_reducible refine (laws_level.calls k _ _ l0 false _ ?side1 ?side2 A6.out).mono ?_); (case side1 => repeat (first | exact HR0.out | (with_reducible refine Kd.C_alloc ?_ _) | (with_reducible refine Kd.C_drewN ?_ _) | (with_reducible refine Kd.C_drew ?_))); (case side2 => exact HC0.out); rintro e w' ⟨rfl, ⟨nd, rfl⟩⟩; refine ⟨_, rfl, ?_⟩) | ((with_reducible refine gate_callee (f := 9) rfl ?_); refine goesL_ (some 14) rfl rfl Try.func9 (by kernel_rfl) rfl #[] rfl (by (try simp only [List.map_toArray, List.map_cons, List.map_nil]); first | done | rfl | (simp only [List.length_drop, List.length_take]; rfl)) ?_; (with_reducible refine (laws_awakeUtil.calls k  t167 _ A45.out).mono ?_); rintro e w46 ⟨rfl, hb⟩; refine ⟨_, rfl, ?_⟩; have n0_ := Aside0.mk (below_step (by repeat (first | (with_reducible first | exact HB.out | apply below_alloc | apply pw_below_drewN | apply below_drew1) | exact HB.out)) hb); clear HB; have HB := n0_; clear n0_; (try clear hb); (try clear hb2); (try clear hk); (try clear hi)))
        go_ret
        exact ⟨by first | rfl | (simp [errW_none, errW_some] <;> rfl) | (simp [*, errW_none, errW_some] <;> rfl), by repeat (first | (with_reducible first | exact HB.out | apply below_alloc | apply pw_below_drewN | apply below_drew1) | exact HB.out)⟩
    · replace c5 := Bool.eq_false_iff.mpr c5
      subst c5
      have H1 : ((laws_awakeUtil.f k).bind fun t165 => (some t165)) = some r := by rw [if_neg (show ¬ (false = true) by decide)] at H; exact H
      clear H
      have H := H1
      clear H1
      replace H := Option.bind_eq_some_iff.mp H
      obtain ⟨t165, A470, H⟩ := H
      replace H : (some t165) = some r := H
      have A47 := Aside0.mk A470
      clear A470
      obtain rfl := Option.some.inj H
      go_enter Try.func5, Try.ntmps5
      go_wp2_with (first | ((with_reducible refine gate_callee (f := 15) rfl ?_); refine goesL_ (some 5) rfl rfl Try.func15 (by kernel_rfl) rfl #[.slice A0 l0.length c0] rfl (by (try simp only [List.map_toArray, List.map_cons, List.map_nil]); first | done | rfl | (simp only [List.length_drop, List.length_take]; rfl)) ?_; (with_reducible refine (laws_zzFits11.calls k _ _ l0 true _ ?side1 ?side2 A2.out).mono ?_); (case side1 => repeat (first | exact HR0.out | (with_reducible refine Kd.C_alloc ?_ _) | (with_reducible refine Kd.C_drewN ?_ _) | (with_reducible refine Kd.C_drew ?_))); (case side2 => exact HC0.out); rintro e w' ⟨rfl, ⟨nd, rfl⟩⟩; refine ⟨_, rfl, ?_⟩) | ((with_reducible refine gate_callee (f := 16) rfl ?_); refine goesL_ (some 8) rfl rfl Try.func16 (by kernel_rfl) rfl #[.slice A0 l0.length c0] rfl (by (try simp only [List.map_toArray, List.map_cons, List.map_nil]); first | done | rfl | (simp only [List.length_drop, List.length_take]; rfl)) ?_; (with_reducible refine (laws_rows.calls k _ _ l0 false _ ?side1 ?side2 A4.out).mono ?_); (case side1 => repeat (first | exact HR0.out | (with_reducible refine Kd.C_alloc ?_ _) | (with_reducible refine Kd.C_drewN ?_ _) | (with_reducible refine Kd.C_drew ?_))); (case side2 => exact HC0.out); rintro e w' ⟨rfl, ⟨nd, rfl⟩⟩; refine ⟨_, rfl, ?_⟩) | ((with_reducible refine gate_callee (f := 9) rfl ?_); refine goesL_ (some 10) rfl rfl Try.func9 (by kernel_rfl) rfl #[] rfl (by (try simp only [List.map_toArray, List.map_cons, List.map_nil]); first | done | rfl | (simp only [List.length_drop, List.length_take]; rfl)) ?_; (with_reducible refine (laws_awakeUtil.calls k  t165 _ A47.out).mono ?_); rintro e w48 ⟨rfl, hb⟩; refine ⟨_, rfl, ?_⟩; have n0_ := Aside0.mk (below_step (by repeat (first | (with_reducible first | exact HB.out | apply below_alloc | apply pw_below_drewN | apply below_drew1) | exact HB.out)) hb); clear HB; have HB := n0_; clear n0_; (try clear hb); (try clear hb2); (try clear hk); (try clear hi)))
      go_ret
      exact ⟨by first | rfl | (simp [errW_none, errW_some] <;> rfl) | (simp [*, errW_none, errW_some] <;> rfl), by repeat (first | (with_reducible first | exact HB.out | apply below_alloc | apply pw_below_drewN | apply below_drew1) | exact HB.out)⟩
  · replace c3 := Bool.eq_false_iff.mpr c3
    subst c3
    have H1 : (some true) = some r := by rw [if_neg (show ¬ (false = true) by decide)] at H; exact H
    clear H
    have H := H1
    clear H1
    obtain rfl := Option.some.inj H
    go_enter Try.func5, Try.ntmps5
    go_wp2_with (first | ((with_reducible refine gate_callee (f := 15) rfl ?_); refine goesL_ (some 5) rfl rfl Try.func15 (by kernel_rfl) rfl #[.slice A0 l0.length c0] rfl (by (try simp only [List.map_toArray, List.map_cons, List.map_nil]); first | done | rfl | (simp only [List.length_drop, List.length_take]; rfl)) ?_; (with_reducible refine (laws_zzFits11.calls k _ _ l0 false _ ?side1 ?side2 A2.out).mono ?_); (case side1 => repeat (first | exact HR0.out | (with_reducible refine Kd.C_alloc ?_ _) | (with_reducible refine Kd.C_drewN ?_ _) | (with_reducible refine Kd.C_drew ?_))); (case side2 => exact HC0.out); rintro e w' ⟨rfl, ⟨nd, rfl⟩⟩; refine ⟨_, rfl, ?_⟩))
    go_ret
    exact ⟨by first | rfl | (simp [errW_none, errW_some] <;> rfl) | (simp [*, errW_none, errW_some] <;> rfl), by repeat (first | (with_reducible first | exact HB.out | apply below_alloc | apply pw_below_drewN | apply below_drew1) | exact HB.out)⟩

end Go.Proofs.Ythmkbojkhoaolaa.PFnRowsSorted
