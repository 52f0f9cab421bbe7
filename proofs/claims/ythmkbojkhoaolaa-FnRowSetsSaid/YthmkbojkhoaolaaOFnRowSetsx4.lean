/- The machine side of laws.FnRowSets: each function of this text answers what its Lean function answers (written for this claim by a program of this session over the kit's print; no condition beyond what each theorem says). -/
import Derived.Test.YthmkbojkhoaolaaOFnRowSetsx0
namespace Go.Proofs.Ythmkbojkhoaolaa.PFnRowSets
open Go.RowKit Go.Proofs.YthmkbojkhoaolaaW.PrintWords Go.Proofs.YthmkbojkhoaolaaW.PrintLast Go.Proofs.YthmkbojkhoaolaaW.PrintMore
attribute [local go_sem] max2_int min2_int max_two min_two max_three min_three max_four min_four   -- for this text's walks alone
set_option linter.unusedVariables false
set_option linter.unusedSimpArgs false

/-! ### laws_marked: function 17 -/
mutual
def laws_marked.l0 : Nat → List (List ByteArray) → Int → Option (Bool)
  | 0, _, _ => none
  | k + 1, x0, x3 => if x3 < (x0.length : Int) then (laws_marked.l1 k x0 x3 0) else (some true)
def laws_marked.l1 : Nat → List (List ByteArray) → Int → Int → Option (Bool)
  | 0, _, _, _ => none
  | k + 1, x0, x3, x4 => if 0 ≤ x3 then (if x3 < (x0.length : Int) then (if x4 < ((rd_L1 x0 x3).length : Int) then (laws_marked.l2 k x0 x3 x4 0) else (laws_marked.l0 k x0 (wrap64 (x3 + 1)))) else (none)) else (none)
def laws_marked.l2 : Nat → List (List ByteArray) → Int → Int → Int → Option (Bool)
  | 0, _, _, _, _ => none
  | k + 1, x0, x3, x4, x5 => if 0 ≤ x3 then (if x3 < (x0.length : Int) then (if 0 ≤ x4 then (if x4 < ((rd_L1 x0 x3).length : Int) then (if x5 < ((rdOf ByteArray.empty (rd_L1 x0 x3) x4).size : Int) then (if 0 ≤ x5 then (if (bt (rdOf ByteArray.empty (rd_L1 x0 x3) x4) x5) = 44 then (some false) else (laws_marked.l2 k x0 x3 x4 (wrap64 (x5 + 1)))) else (none)) else (if (rdOf ByteArray.empty (rd_L1 x0 x3) x4).toList = ([] : List UInt8) then (some false) else (laws_marked.l1 k x0 x3 (wrap64 (x4 + 1))))) else (none)) else (none)) else (none)) else (none)
end
def laws_marked.f (k : Nat) (l0 : List (List ByteArray)) : Option (Bool) := laws_marked.l0 k l0 0
theorem laws_marked.mono_l : ∀ k, (∀ y0 y1, LeO (laws_marked.l0 k y0 y1) (laws_marked.l0 (k + 1) y0 y1)) ∧ (∀ y0 y1 y2, LeO (laws_marked.l1 k y0 y1 y2) (laws_marked.l1 (k + 1) y0 y1 y2)) ∧ (∀ y0 y1 y2 y3, LeO (laws_marked.l2 k y0 y1 y2 y3) (laws_marked.l2 (k + 1) y0 y1 y2 y3))
  | 0 => ⟨fun _ _ r h => by simp [laws_marked.l0] at h, fun _ _ _ r h => by simp [laws_marked.l1] at h, fun _ _ _ _ r h => by simp [laws_marked.l2] at h⟩
  | k + 1 => by
    obtain ⟨ih0, ih1, ih2⟩ := laws_marked.mono_l k
    refine ⟨?_, ?_, ?_⟩
    · intro y0 y1
      unfold laws_marked.l0
      repeat' first
      | (with_reducible exact ih0 _ _)
      | (with_reducible exact ih1 _ _ _)
      | (with_reducible exact ih2 _ _ _ _)
      | (with_reducible exact LeO.refl _)
      | (with_reducible exact LeO.none _)
      | (with_reducible refine LeO.ite ?_ ?_)
      | (with_reducible refine LeO.bind ?_ (fun _ => ?_))
      | exact ih0 _ _
      | exact ih1 _ _ _
      | exact ih2 _ _ _ _
      | exact LeO.none _
      | refine LeO.ite ?_ ?_
      | refine LeO.bind ?_ (fun _ => ?_)
    · intro y0 y1 y2
      unfold laws_marked.l1
      repeat' first
      | (with_reducible exact ih0 _ _)
      | (with_reducible exact ih1 _ _ _)
      | (with_reducible exact ih2 _ _ _ _)
      | (with_reducible exact LeO.refl _)
      | (with_reducible exact LeO.none _)
      | (with_reducible refine LeO.ite ?_ ?_)
      | (with_reducible refine LeO.bind ?_ (fun _ => ?_))
      | exact ih0 _ _
      | exact ih1 _ _ _
      | exact ih2 _ _ _ _
      | exact LeO.none _
      | refine LeO.ite ?_ ?_
      | refine LeO.bind ?_ (fun _ => ?_)
    · intro y0 y1 y2 y3
      unfold laws_marked.l2
      repeat' first
      | (with_reducible exact ih0 _ _)
      | (with_reducible exact ih1 _ _ _)
      | (with_reducible exact ih2 _ _ _ _)
      | (with_reducible exact LeO.refl _)
      | (with_reducible exact LeO.none _)
      | (with_reducible refine LeO.ite ?_ ?_)
      | (with_reducible refine LeO.bind ?_ (fun _ => ?_))
      | exact ih0 _ _
      | exact ih1 _ _ _
      | exact ih2 _ _ _ _
      | exact LeO.none _
      | refine LeO.ite ?_ ?_
      | refine LeO.bind ?_ (fun _ => ?_)
theorem laws_marked.mono : ∀ a0 k, LeO (laws_marked.f k a0) (laws_marked.f (k + 1) a0) := by
  intro a0 k
  obtain ⟨ih0, ih1, ih2⟩ := laws_marked.mono_l k
  unfold laws_marked.f
  repeat' first
      | (with_reducible exact ih0 _ _)
      | (with_reducible exact ih1 _ _ _)
      | (with_reducible exact ih2 _ _ _ _)
      | (with_reducible exact LeO.refl _)
      | (with_reducible exact LeO.none _)
      | (with_reducible refine LeO.ite ?_ ?_)
      | (with_reducible refine LeO.bind ?_ (fun _ => ?_))
      | exact ih0 _ _
      | exact ih1 _ _ _
      | exact ih2 _ _ _ _
      | exact LeO.none _
      | refine LeO.ite ?_ ?_
      | refine LeO.bind ?_ (fun _ => ?_)
set_option maxHeartbeats 8000000 in
set_option maxRecDepth 100000 in
theorem laws_marked.calls (k : Nat) (A0 : Option Addr) (c0 : Nat) (l0 : List (List ByteArray)) (r : Bool) (w : World) (hr0 : Kd.C (Kd.slice 9 Kd.string) w A0 l0.length l0) (hc0 : l0.length ≤ c0) (h : laws_marked.f k l0 = some r) :
    Calls Try.prog 17 #[.slice A0 l0.length c0] w fun e w' => e = .returned (.bool r) ∧ Drawn0 w w' := by
  have HR0 := Aside0.mk hr0
  have HC0 := Aside0.mk hc0
  clear hr0 hc0
  have H : (laws_marked.l0 k l0 0) = some r := h
  clear h
  have H' := Aside0.mk H
  clear H
  go_enter Try.func17, Try.ntmps17
  go_wp2
  go_loopg [3] k (fun kq v3 w' => ∃ (x3_1 : Int), v3 = .int .i64 x3_1 ∧ Aside0 (laws_marked.l0 kq l0 x3_1 = some r) ∧ Aside0 (kq ≤ k) ∧ Drawn0 w w')
  case atStart => exact ⟨(0), (by first | rfl | (simp; done) | (simp [*]; done)), H', ⟨Nat.le_refl _⟩, by repeat (first | exact Drawn0.refl _ | apply Drawn0.step)⟩
  case round =>
    clear H'
    try clear c1
    obtain ⟨x3_1, rfl, HA, HK1, ⟨m1, rfl⟩⟩ := hrel
    cases gk with
    | zero => exact absurd HA.out (by simp [laws_marked.l0])
    | succ k1 =>
      have H := HA.out
      clear HA
      simp only [laws_marked.l0] at H
      by_cases c2 : x3_1 < (l0.length : Int)
      · rw [if_pos c2] at H
        have c2b0 : decide (x3_1 < (l0.length : Int)) = true := decide_eq_true c2
        clear c2
        have H' := Aside0.mk H
        clear H
        go_wp2
        go_loopg [4] k1 (fun kq v4 w' => ∃ (x4_2 : Int), v4 = .int .i64 x4_2 ∧ Aside0 (laws_marked.l1 kq l0 x3_1 x4_2 = some r) ∧ Aside0 (kq ≤ k1) ∧ Drawn0 w w')
        case atStart => exact ⟨(0), (by first | rfl | (simp; done) | (simp [*]; done)), H', ⟨Nat.le_refl _⟩, by repeat (first | exact Drawn0.refl _ | apply Drawn0.step)⟩
        case round =>
          clear H'
          try clear c1
          try clear c2
          try clear c2b0
          try clear p2
          obtain ⟨x4_2, rfl, HA, HK2, ⟨m2, rfl⟩⟩ := hrel
          cases gk with
          | zero => exact absurd HA.out (by simp [laws_marked.l1])
          | succ k2 =>
            have H := HA.out
            clear HA
            simp only [laws_marked.l1] at H
            by_cases c3 : 0 ≤ x3_1
            · rw [if_pos c3] at H
              have c3b0 : decide (0 ≤ x3_1) = true := decide_eq_true c3
              clear c3
              by_cases c4 : x3_1 < (l0.length : Int)
              · rw [if_pos c4] at H
                have c4b0 : decide (x3_1 < (l0.length : Int)) = true := decide_eq_true c4
                clear c4
                by_cases c5 : x4_2 < ((rd_L1 l0 x3_1).length : Int)
                · rw [if_pos c5] at H
                  have c5b0 : decide (x4_2 < ((rd_L1 l0 x3_1).length : Int)) = true := decide_eq_true c5
                  clear c5
                  have H' := Aside0.mk H
                  clear H
                  have p127 : 0 ≤ (x3_1 : Int) := of_decide_eq_true (by first | (with_reducible assumption) | assumption)
                  have q127 : x3_1 < (l0.length : Int) := of_decide_eq_true (by first | (with_reducible assumption) | assumption)
                  obtain ⟨ad127, A127_0, c127_0, e127, hx127_0, hl127_0, hi127_0⟩ := at_L1 HR0.out x3_1 p127 q127
                  cases e127
                  have HR127_0 := Aside0.mk hi127_0
                  have HC127_0 := Aside0.mk hl127_0
                  clear hi127_0 hl127_0
                  replace p127 := eq_true p127
                  replace q127 := eq_true q127
                  go_wp2
                  go_loopg [5] k2 (fun kq v5 w' => ∃ (x5_3 : Int), v5 = .int .i64 x5_3 ∧ Aside0 (laws_marked.l2 kq l0 x3_1 x4_2 x5_3 = some r) ∧ Aside0 (kq ≤ k2) ∧ Drawn0 w w')
                  case atStart => exact ⟨(0), (by first | rfl | (simp; done) | (simp [*]; done)), H', ⟨Nat.le_refl _⟩, by repeat (first | exact Drawn0.refl _ | apply Drawn0.step)⟩
                  case round =>
                    clear H'
                    try clear c1
                    try clear p1
                    try clear q1
                    try clear hx1
                    try clear c2
                    try clear c2b0
                    try clear p2
                    try clear c3
                    try clear c3b0
                    try clear c4
                    try clear c4b0
                    try clear c5
                    try clear c5b0
                    try clear hx127_0
                    try clear p127
                    try clear p2
                    try clear q127
                    obtain ⟨x5_3, rfl, HA, HK3, ⟨m3, rfl⟩⟩ := hrel
                    cases gk with
                    | zero => exact absurd HA.out (by simp [laws_marked.l2])
                    | succ k3 =>
                      have H := HA.out
                      clear HA
                      simp only [laws_marked.l2] at H
                      by_cases c6 : 0 ≤ x3_1
                      · rw [if_pos c6] at H
                        have c6b0 : decide (0 ≤ x3_1) = true := decide_eq_true c6
                        clear c6
                        by_cases c7 : x3_1 < (l0.length : Int)
                        · rw [if_pos c7] at H
                          have c7b0 : decide (x3_1 < (l0.length : Int)) = true := decide_eq_true c7
                          clear c7
                          by_cases c8 : 0 ≤ x4_2
                          · rw [if_pos c8] at H
                            have c8b0 : decide (0 ≤ x4_2) = true := decide_eq_true c8
                            clear c8
                            by_cases c9 : x4_2 < ((rd_L1 l0 x3_1).length : Int)
                            · rw [if_pos c9] at H
                              have c9b0 : decide (x4_2 < ((rd_L1 l0 x3_1).length : Int)) = true := decide_eq_true c9
                              clear c9
                              by_cases c10 : x5_3 < ((rdOf ByteArray.empty (rd_L1 l0 x3_1) x4_2).size : Int)
                              · rw [if_pos c10] at H
                                have c10b0 : decide (x5_3 < ((rdOf ByteArray.empty (rd_L1 l0 x3_1) x4_2).size : Int)) = true := decide_eq_true c10
                                clear c10
                                by_cases c11 : 0 ≤ x5_3
                                · rw [if_pos c11] at H
                                  have c11b0 : decide (0 ≤ x5_3) = true := decide_eq_true c11
                                  clear c11
                                  by_cases c13 : (bt (rdOf ByteArray.empty (rd_L1 l0 x3_1) x4_2) x5_3) = 44
                                  · rw [if_pos c13] at H
                                    have c13b0 : ((bt (rdOf ByteArray.empty (rd_L1 l0 x3_1) x4_2) x5_3) == 44) = true := beq_iff_eq.mpr c13
                                    have c13b1 : ((bt (rdOf ByteArray.empty (rd_L1 l0 x3_1) x4_2) x5_3) != 44) = false := bne_eq_false_iff_eq.mpr c13
                                    clear c13
                                    obtain rfl := Option.some.inj H
                                    have p128 : 0 ≤ (x3_1 : Int) := of_decide_eq_true (by first | (with_reducible assumption) | assumption)
                                    have q128 : x3_1 < (l0.length : Int) := of_decide_eq_true (by first | (with_reducible assumption) | assumption)
                                    obtain ⟨ad128, A128_0, c128_0, e128, hx128_0, hl128_0, hi128_0⟩ := at_L1 HR0.out x3_1 p128 q128
                                    obtain rfl : ad127 = ad128 := (by injection e128)
                                    have HR128_0 := Aside0.mk hi128_0
                                    have HC128_0 := Aside0.mk hl128_0
                                    clear hi128_0 hl128_0
                                    replace p128 := eq_true p128
                                    replace q128 := eq_true q128
                                    have p129 : 0 ≤ (x4_2 : Int) := of_decide_eq_true (by first | (with_reducible assumption) | assumption)
                                    have q129 : x4_2 < ((rd_L1 l0 x3_1).length : Int) := of_decide_eq_true (by first | (with_reducible assumption) | assumption)
                                    obtain ⟨ad129, e129, hx129_0⟩ := Kd.at_string HR128_0.out x4_2 p129 q129
                                    cases e129
                                    replace p129 := eq_true p129
                                    replace q129 := eq_true q129
                                    have p130 : 0 ≤ (x3_1 : Int) := of_decide_eq_true (by first | (with_reducible assumption) | assumption)
                                    have q130 : x3_1 < (l0.length : Int) := of_decide_eq_true (by first | (with_reducible assumption) | assumption)
                                    obtain ⟨ad130, A130_0, c130_0, e130, hx130_0, hl130_0, hi130_0⟩ := at_L1 HR0.out x3_1 p130 q130
                                    obtain rfl : ad127 = ad130 := (by injection e130)
                                    have HR130_0 := Aside0.mk hi130_0
                                    have HC130_0 := Aside0.mk hl130_0
                                    clear hi130_0 hl130_0
                                    replace p130 := eq_true p130
                                    replace q130 := eq_true q130
                                    have ea_ := Option.some.inj (hx128_0.symm.trans hx130_0)
                                    injection ea_ with ea_ en_ ec_
                                    subst ea_
                                    subst ec_
                                    clear en_
                                    have p131 : 0 ≤ (x4_2 : Int) := of_decide_eq_true (by first | (with_reducible assumption) | assumption)
                                    have q131 : x4_2 < ((rd_L1 l0 x3_1).length : Int) := of_decide_eq_true (by first | (with_reducible assumption) | assumption)
                                    obtain ⟨ad131, e131, hx131_0⟩ := Kd.at_string HR130_0.out x4_2 p131 q131
                                    cases e131
                                    replace p131 := eq_true p131
                                    replace q131 := eq_true q131
                                    have p12 : 0 ≤ (x5_3 : Int) := of_decide_eq_true (by first | (with_reducible assumption) | assumption)
                                    have q12 : x5_3 < ((rdOf ByteArray.empty (rd_L1 l0 x3_1) x4_2).size : Int) := of_decide_eq_true (by first | (with_reducible assumption) | assumption)
                                    have hx12 := bt_at (rdOf ByteArray.empty (rd_L1 l0 x3_1) x4_2) x5_3
                                    replace p12 := eq_true p12
                                    replace q12 := eq_true q12
                                    go_wp2
                                    go_ret
                                    exact ⟨by first | rfl | (simp; done) | (simp [*]; done), by repeat (first | exact Drawn0.refl _ | apply Drawn0.step)⟩
                                  · rw [if_neg c13] at H
                                    have c13b0 : ((bt (rdOf ByteArray.empty (rd_L1 l0 x3_1) x4_2) x5_3) == 44) = false := beq_eq_false_iff_ne.mpr c13
                                    have c13b1 : ((bt (rdOf ByteArray.empty (rd_L1 l0 x3_1) x4_2) x5_3) != 44) = true := bne_iff_ne.mpr c13
                                    have H' := Aside0.mk H
                                    clear H
                                    have p128 : 0 ≤ (x3_1 : Int) := of_decide_eq_true (by first | (with_reducible assumption) | assumption)
                                    have q128 : x3_1 < (l0.length : Int) := of_decide_eq_true (by first | (with_reducible assumption) | assumption)
                                    obtain ⟨ad128, A128_0, c128_0, e128, hx128_0, hl128_0, hi128_0⟩ := at_L1 HR0.out x3_1 p128 q128
                                    obtain rfl : ad127 = ad128 := (by injection e128)
                                    have HR128_0 := Aside0.mk hi128_0
                                    have HC128_0 := Aside0.mk hl128_0
                                    clear hi128_0 hl128_0
                                    replace p128 := eq_true p128
                                    replace q128 := eq_true q128
                                    have p129 : 0 ≤ (x4_2 : Int) := of_decide_eq_true (by first | (with_reducible assumption) | assumption)
                                    have q129 : x4_2 < ((rd_L1 l0 x3_1).length : Int) := of_decide_eq_true (by first | (with_reducible assumption) | assumption)
                                    obtain ⟨ad129, e129, hx129_0⟩ := Kd.at_string HR128_0.out x4_2 p129 q129
                                    cases e129
                                    replace p129 := eq_true p129
                                    replace q129 := eq_true q129
                                    have p130 : 0 ≤ (x3_1 : Int) := of_decide_eq_true (by first | (with_reducible assumption) | assumption)
                                    have q130 : x3_1 < (l0.length : Int) := of_decide_eq_true (by first | (with_reducible assumption) | assumption)
                                    obtain ⟨ad130, A130_0, c130_0, e130, hx130_0, hl130_0, hi130_0⟩ := at_L1 HR0.out x3_1 p130 q130
                                    obtain rfl : ad127 = ad130 := (by injection e130)
                                    have HR130_0 := Aside0.mk hi130_0
                                    have HC130_0 := Aside0.mk hl130_0
                                    clear hi130_0 hl130_0
                                    replace p130 := eq_true p130
                                    replace q130 := eq_true q130
                                    have ea_ := Option.some.inj (hx128_0.symm.trans hx130_0)
                                    injection ea_ with ea_ en_ ec_
                                    subst ea_
                                    subst ec_
                                    clear en_
                                    have p131 : 0 ≤ (x4_2 : Int) := of_decide_eq_true (by first | (with_reducible assumption) | assumption)
                                    have q131 : x4_2 < ((rd_L1 l0 x3_1).length : Int) := of_decide_eq_true (by first | (with_reducible assumption) | assumption)
                                    obtain ⟨ad131, e131, hx131_0⟩ := Kd.at_string HR130_0.out x4_2 p131 q131
                                    cases e131
                                    replace p131 := eq_true p131
                                    replace q131 := eq_true q131
                                    have p12 : 0 ≤ (x5_3 : Int) := of_decide_eq_true (by first | (with_reducible assumption) | assumption)
                                    have q12 : x5_3 < ((rdOf ByteArray.empty (rd_L1 l0 x3_1) x4_2).size : Int) := of_decide_eq_true (by first | (with_reducible assumption) | assumption)
                                    have hx12 := bt_at (rdOf ByteArray.empty (rd_L1 l0 x3_1) x4_2) x5_3
                                    replace p12 := eq_true p12
                                    replace q12 := eq_true q12
                                    go_wp2
                                    go_roundg k3
                                    case measure => have := HK1.out; have := HK2.out; have := HK3.out; omega
                                    case rel => exact ⟨(wrap64 (x5_3 + 1)), (by first | rfl | (simp; done) | (simp [*]; done)), H', ⟨by have := HK1.out; have := HK2.out; have := HK3.out; omega⟩, by repeat (first | exact Drawn0.refl _ | apply Drawn0.step)⟩
                                · rw [if_neg c11] at H
                                  exact absurd H (by simp)
                              · rw [if_neg c10] at H
                                have c10b0 : decide (x5_3 < ((rdOf ByteArray.empty (rd_L1 l0 x3_1) x4_2).size : Int)) = false := decide_eq_false c10
                                clear c10
                                by_cases c14 : (rdOf ByteArray.empty (rd_L1 l0 x3_1) x4_2).toList = ([] : List UInt8)
                                · rw [if_pos c14] at H
                                  have c14b0 : ((rdOf ByteArray.empty (rd_L1 l0 x3_1) x4_2).toList == ([] : List UInt8)) = true := beq_iff_eq.mpr c14
                                  have c14b1 : ((rdOf ByteArray.empty (rd_L1 l0 x3_1) x4_2).toList != ([] : List UInt8)) = false := bne_eq_false_iff_eq.mpr c14
                                  clear c14
                                  obtain rfl := Option.some.inj H
                                  have p128 : 0 ≤ (x3_1 : Int) := of_decide_eq_true (by first | (with_reducible assumption) | assumption)
                                  have q128 : x3_1 < (l0.length : Int) := of_decide_eq_true (by first | (with_reducible assumption) | assumption)
                                  obtain ⟨ad128, A128_0, c128_0, e128, hx128_0, hl128_0, hi128_0⟩ := at_L1 HR0.out x3_1 p128 q128
                                  obtain rfl : ad127 = ad128 := (by injection e128)
                                  have HR128_0 := Aside0.mk hi128_0
                                  have HC128_0 := Aside0.mk hl128_0
                                  clear hi128_0 hl128_0
                                  replace p128 := eq_true p128
                                  replace q128 := eq_true q128
                                  have p129 : 0 ≤ (x4_2 : Int) := of_decide_eq_true (by first | (with_reducible assumption) | assumption)
                                  have q129 : x4_2 < ((rd_L1 l0 x3_1).length : Int) := of_decide_eq_true (by first | (with_reducible assumption) | assumption)
                                  obtain ⟨ad129, e129, hx129_0⟩ := Kd.at_string HR128_0.out x4_2 p129 q129
                                  cases e129
                                  replace p129 := eq_true p129
                                  replace q129 := eq_true q129
                                  have p132 : 0 ≤ (x3_1 : Int) := of_decide_eq_true (by first | (with_reducible assumption) | assumption)
                                  have q132 : x3_1 < (l0.length : Int) := of_decide_eq_true (by first | (with_reducible assumption) | assumption)
                                  obtain ⟨ad132, A132_0, c132_0, e132, hx132_0, hl132_0, hi132_0⟩ := at_L1 HR0.out x3_1 p132 q132
                                  obtain rfl : ad127 = ad132 := (by injection e132)
                                  have HR132_0 := Aside0.mk hi132_0
                                  have HC132_0 := Aside0.mk hl132_0
                                  clear hi132_0 hl132_0
                                  replace p132 := eq_true p132
                                  replace q132 := eq_true q132
                                  have ea_ := Option.some.inj (hx128_0.symm.trans hx132_0)
                                  injection ea_ with ea_ en_ ec_
                                  subst ea_
                                  subst ec_
                                  clear en_
                                  have p133 : 0 ≤ (x4_2 : Int) := of_decide_eq_true (by first | (with_reducible assumption) | assumption)
                                  have q133 : x4_2 < ((rd_L1 l0 x3_1).length : Int) := of_decide_eq_true (by first | (with_reducible assumption) | assumption)
                                  obtain ⟨ad133, e133, hx133_0⟩ := Kd.at_string HR132_0.out x4_2 p133 q133
                                  cases e133
                                  replace p133 := eq_true p133
                                  replace q133 := eq_true q133
                                  go_wp2
                                  go_ret
                                  exact ⟨by first | rfl | (simp; done) | (simp [*]; done), by repeat (first | exact Drawn0.refl _ | apply Drawn0.step)⟩
                                · rw [if_neg c14] at H
                                  have c14b0 : ((rdOf ByteArray.empty (rd_L1 l0 x3_1) x4_2).toList == ([] : List UInt8)) = false := beq_eq_false_iff_ne.mpr c14
                                  have c14b1 : ((rdOf ByteArray.empty (rd_L1 l0 x3_1) x4_2).toList != ([] : List UInt8)) = true := bne_iff_ne.mpr c14
                                  have H' := Aside0.mk H
                                  clear H
                                  have p128 : 0 ≤ (x3_1 : Int) := of_decide_eq_true (by first | (with_reducible assumption) | assumption)
                                  have q128 : x3_1 < (l0.length : Int) := of_decide_eq_true (by first | (with_reducible assumption) | assumption)
                                  obtain ⟨ad128, A128_0, c128_0, e128, hx128_0, hl128_0, hi128_0⟩ := at_L1 HR0.out x3_1 p128 q128
                                  obtain rfl : ad127 = ad128 := (by injection e128)
                                  have HR128_0 := Aside0.mk hi128_0
                                  have HC128_0 := Aside0.mk hl128_0
                                  clear hi128_0 hl128_0
                                  replace p128 := eq_true p128
                                  replace q128 := eq_true q128
                                  have p129 : 0 ≤ (x4_2 : Int) := of_decide_eq_true (by first | (with_reducible assumption) | assumption)
                                  have q129 : x4_2 < ((rd_L1 l0 x3_1).length : Int) := of_decide_eq_true (by first | (with_reducible assumption) | assumption)
                                  obtain ⟨ad129, e129, hx129_0⟩ := Kd.at_string HR128_0.out x4_2 p129 q129
                                  cases e129
                                  replace p129 := eq_true p129
                                  replace q129 := eq_true q129
                                  have p132 : 0 ≤ (x3_1 : Int) := of_decide_eq_true (by first | (with_reducible assumption) | assumption)
                                  have q132 : x3_1 < (l0.length : Int) := of_decide_eq_true (by first | (with_reducible assumption) | assumption)
                                  obtain ⟨ad132, A132_0, c132_0, e132, hx132_0, hl132_0, hi132_0⟩ := at_L1 HR0.out x3_1 p132 q132
                                  obtain rfl : ad127 = ad132 := (by injection e132)
                                  have HR132_0 := Aside0.mk hi132_0
                                  have HC132_0 := Aside0.mk hl132_0
                                  clear hi132_0 hl132_0
                                  replace p132 := eq_true p132
                                  replace q132 := eq_true q132
                                  have ea_ := Option.some.inj (hx128_0.symm.trans hx132_0)
                                  injection ea_ with ea_ en_ ec_
                                  subst ea_
                                  subst ec_
                                  clear en_
                                  have p133 : 0 ≤ (x4_2 : Int) := of_decide_eq_true (by first | (with_reducible assumption) | assumption)
                                  have q133 : x4_2 < ((rd_L1 l0 x3_1).length : Int) := of_decide_eq_true (by first | (with_reducible assumption) | assumption)
                                  obtain ⟨ad133, e133, hx133_0⟩ := Kd.at_string HR132_0.out x4_2 p133 q133
                                  cases e133
                                  replace p133 := eq_true p133
                                  replace q133 := eq_true q133
                                  go_wp2
                                  go_roundg k3
                                  case measure => have := HK1.out; have := HK2.out; have := HK3.out; omega
                                  case rel => exact ⟨(wrap64 (x4_2 + 1)), (by first | rfl | (simp; done) | (simp [*]; done)), H', ⟨by have := HK1.out; have := HK2.out; have := HK3.out; omega⟩, by repeat (first | exact Drawn0.refl _ | apply Drawn0.step)⟩
                            · rw [if_neg c9] at H
                              exact absurd H (by simp)
                          · rw [if_neg c8] at H
                            exact absurd H (by simp)
                        · rw [if_neg c7] at H
                          exact absurd H (by simp)
                      · rw [if_neg c6] at H
                        exact absurd H (by simp)
                · rw [if_neg c5] at H
                  have c5b0 : decide (x4_2 < ((rd_L1 l0 x3_1).length : Int)) = false := decide_eq_false c5
                  clear c5
                  have H' := Aside0.mk H
                  clear H
                  have p127 : 0 ≤ (x3_1 : Int) := of_decide_eq_true (by first | (with_reducible assumption) | assumption)
                  have q127 : x3_1 < (l0.length : Int) := of_decide_eq_true (by first | (with_reducible assumption) | assumption)
                  obtain ⟨ad127, A127_0, c127_0, e127, hx127_0, hl127_0, hi127_0⟩ := at_L1 HR0.out x3_1 p127 q127
                  cases e127
                  have HR127_0 := Aside0.mk hi127_0
                  have HC127_0 := Aside0.mk hl127_0
                  clear hi127_0 hl127_0
                  replace p127 := eq_true p127
                  replace q127 := eq_true q127
                  go_wp2
                  go_roundg k2
                  case measure => have := HK1.out; have := HK2.out; omega
                  case rel => exact ⟨(wrap64 (x3_1 + 1)), (by first | rfl | (simp; done) | (simp [*]; done)), H', ⟨by have := HK1.out; have := HK2.out; omega⟩, by repeat (first | exact Drawn0.refl _ | apply Drawn0.step)⟩
              · rw [if_neg c4] at H
                exact absurd H (by simp)
            · rw [if_neg c3] at H
              exact absurd H (by simp)
      · rw [if_neg c2] at H
        have c2b0 : decide (x3_1 < (l0.length : Int)) = false := decide_eq_false c2
        clear c2
        obtain rfl := Option.some.inj H
        go_wp2
        go_ret
        exact ⟨by first | rfl | (simp; done) | (simp [*]; done), by repeat (first | exact Drawn0.refl _ | apply Drawn0.step)⟩

end Go.Proofs.Ythmkbojkhoaolaa.PFnRowSets
