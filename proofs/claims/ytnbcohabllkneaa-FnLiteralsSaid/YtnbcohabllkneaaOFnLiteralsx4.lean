/- The machine side of laws.FnLiterals: each function of this text answers what its Lean function answers (written for this claim by a program of this session over the kit's print; no condition beyond what each theorem says). -/
import Derived.Test.YtnbcohabllkneaaOFnLiteralsx0
import Derived.Test.YtnbcohabllkneaaOFnLiteralsx3
namespace Go.Proofs.Ytnbcohabllkneaa.PFnLiterals
open Go.RowKit Go.Proofs.YtnbcohabllkneaaW.PrintWords Go.Proofs.YtnbcohabllkneaaW.PrintLast Go.Proofs.YtnbcohabllkneaaW.PrintMore
attribute [local go_sem] max2_int min2_int max_two min_two max_three min_three max_four min_four   -- for this text's walks alone
set_option linter.unusedVariables false
set_option linter.unusedSimpArgs false

/-! ### spec_Doubled: function 34 -/
mutual
def spec_Doubled.l0 : Nat → ByteArray → ByteArray → Int → Int → Option (ByteArray)
  | 0, _, _, _, _ => none
  | k + 1, x0, x3, x4, x5 => if x5 < (x0.size : Int) then (if 0 ≤ x5 then (if x4 = 0 then (if (bt x0 x5) = 39 then (spec_Doubled.j1 k x0 x3 x4 x5 (bt x0 x5) true) else (spec_Doubled.j1 k x0 x3 x4 x5 (bt x0 x5) ((bt x0 x5) == 34))) else (spec_Doubled.j1 k x0 x3 x4 x5 (bt x0 x5) false)) else (none)) else (some x3)
def spec_Doubled.j1 : Nat → ByteArray → ByteArray → Int → Int → Int → Bool → Option (ByteArray)
  | 0, _, _, _, _, _, _ => none
  | k + 1, x0, x3, x4, x5, x6, x25 => if x25 = true then (if 0 ≤ x5 then (if x5 ≤ (wrap64 (x5 + 1)) then (if (wrap64 (x5 + 1)) ≤ (x0.size : Int) then (if x3.size + (x0.extract (x5 : Int).toNat ((wrap64 (x5 + 1)) : Int).toNat).size ≤ 9223372036854775807 then (spec_Doubled.l0 k x0 (x3 ++ (x0.extract (x5 : Int).toNat ((wrap64 (x5 + 1)) : Int).toNat)) x6 (wrap64 (x5 + 1))) else (none)) else (none)) else (none)) else (none)) else (if x4 = 0 then (spec_Doubled.j2 k x0 x3 x4 x5 x6 false) else (spec_Doubled.j2 k x0 x3 x4 x5 x6 (x6 == x4)))
def spec_Doubled.j2 : Nat → ByteArray → ByteArray → Int → Int → Int → Bool → Option (ByteArray)
  | 0, _, _, _, _, _, _ => none
  | k + 1, x0, x3, x4, x5, x6, x33 => if x33 = true then (if 0 ≤ x5 then (if x5 ≤ (wrap64 (x5 + 1)) then (if (wrap64 (x5 + 1)) ≤ (x0.size : Int) then (if x3.size + (x0.extract (x5 : Int).toNat ((wrap64 (x5 + 1)) : Int).toNat).size ≤ 9223372036854775807 then (spec_Doubled.l0 k x0 (x3 ++ (x0.extract (x5 : Int).toNat ((wrap64 (x5 + 1)) : Int).toNat)) 0 (wrap64 (x5 + 1))) else (none)) else (none)) else (none)) else (none)) else (if x4 = 0 then (if 0 ≤ x5 then (if x5 ≤ (wrap64 (x5 + 1)) then (if (wrap64 (x5 + 1)) ≤ (x0.size : Int) then (if x3.size + (x0.extract (x5 : Int).toNat ((wrap64 (x5 + 1)) : Int).toNat).size ≤ 9223372036854775807 then (spec_Doubled.l0 k x0 (x3 ++ (x0.extract (x5 : Int).toNat ((wrap64 (x5 + 1)) : Int).toNat)) x4 (wrap64 (x5 + 1))) else (none)) else (none)) else (none)) else (none)) else (if x6 = 92 then (if x3.size + 1 ≤ 9223372036854775807 then (if 0 ≤ x5 then (if x5 ≤ (wrap64 (x5 + 1)) then (if (wrap64 (x5 + 1)) ≤ (x0.size : Int) then (if (x3 ++ (⟨#[92]⟩ : ByteArray)).size + (x0.extract (x5 : Int).toNat ((wrap64 (x5 + 1)) : Int).toNat).size ≤ 9223372036854775807 then (spec_Doubled.l0 k x0 ((x3 ++ (⟨#[92]⟩ : ByteArray)) ++ (x0.extract (x5 : Int).toNat ((wrap64 (x5 + 1)) : Int).toNat)) x4 (wrap64 (x5 + 1))) else (none)) else (none)) else (none)) else (none)) else (none)) else (if 0 ≤ x5 then (if x5 ≤ (wrap64 (x5 + 1)) then (if (wrap64 (x5 + 1)) ≤ (x0.size : Int) then (if x3.size + (x0.extract (x5 : Int).toNat ((wrap64 (x5 + 1)) : Int).toNat).size ≤ 9223372036854775807 then (spec_Doubled.l0 k x0 (x3 ++ (x0.extract (x5 : Int).toNat ((wrap64 (x5 + 1)) : Int).toNat)) x4 (wrap64 (x5 + 1))) else (none)) else (none)) else (none)) else (none))))
end
def spec_Doubled.f (k : Nat) (a0 : ByteArray) : Option (ByteArray) := spec_Doubled.l0 k a0 (⟨#[]⟩ : ByteArray) 0 0
theorem spec_Doubled.mono_l : ∀ k, (∀ y0 y1 y2 y3, LeO (spec_Doubled.l0 k y0 y1 y2 y3) (spec_Doubled.l0 (k + 1) y0 y1 y2 y3)) ∧ (∀ y0 y1 y2 y3 y4 y5, LeO (spec_Doubled.j1 k y0 y1 y2 y3 y4 y5) (spec_Doubled.j1 (k + 1) y0 y1 y2 y3 y4 y5)) ∧ (∀ y0 y1 y2 y3 y4 y5, LeO (spec_Doubled.j2 k y0 y1 y2 y3 y4 y5) (spec_Doubled.j2 (k + 1) y0 y1 y2 y3 y4 y5))
  | 0 => ⟨fun _ _ _ _ r h => by simp [spec_Doubled.l0] at h, fun _ _ _ _ _ _ r h => by simp [spec_Doubled.j1] at h, fun _ _ _ _ _ _ r h => by simp [spec_Doubled.j2] at h⟩
  | k + 1 => by
    obtain ⟨ih0, ih1, ih2⟩ := spec_Doubled.mono_l k
    refine ⟨?_, ?_, ?_⟩
    · intro y0 y1 y2 y3
      unfold spec_Doubled.l0
      repeat' first
      | (with_reducible exact ih0 _ _ _ _)
      | (with_reducible exact ih1 _ _ _ _ _ _)
      | (with_reducible exact ih2 _ _ _ _ _ _)
      | (with_reducible exact LeO.refl _)
      | (with_reducible exact LeO.none _)
      | (with_reducible refine LeO.ite ?_ ?_)
      | (with_reducible refine LeO.bind ?_ (fun _ => ?_))
      | exact ih0 _ _ _ _
      | exact ih1 _ _ _ _ _ _
      | exact ih2 _ _ _ _ _ _
      | exact LeO.none _
      | refine LeO.ite ?_ ?_
      | refine LeO.bind ?_ (fun _ => ?_)
    · intro y0 y1 y2 y3 y4 y5
      unfold spec_Doubled.j1
      repeat' first
      | (with_reducible exact ih0 _ _ _ _)
      | (with_reducible exact ih1 _ _ _ _ _ _)
      | (with_reducible exact ih2 _ _ _ _ _ _)
      | (with_reducible exact LeO.refl _)
      | (with_reducible exact LeO.none _)
      | (with_reducible refine LeO.ite ?_ ?_)
      | (with_reducible refine LeO.bind ?_ (fun _ => ?_))
      | exact ih0 _ _ _ _
      | exact ih1 _ _ _ _ _ _
      | exact ih2 _ _ _ _ _ _
      | exact LeO.none _
      | refine LeO.ite ?_ ?_
      | refine LeO.bind ?_ (fun _ => ?_)
    · intro y0 y1 y2 y3 y4 y5
      unfold spec_Doubled.j2
      repeat' first
      | (with_reducible exact ih0 _ _ _ _)
      | (with_reducible exact ih1 _ _ _ _ _ _)
      | (with_reducible exact ih2 _ _ _ _ _ _)
      | (with_reducible exact LeO.refl _)
      | (with_reducible exact LeO.none _)
      | (with_reducible refine LeO.ite ?_ ?_)
      | (with_reducible refine LeO.bind ?_ (fun _ => ?_))
      | exact ih0 _ _ _ _
      | exact ih1 _ _ _ _ _ _
      | exact ih2 _ _ _ _ _ _
      | exact LeO.none _
      | refine LeO.ite ?_ ?_
      | refine LeO.bind ?_ (fun _ => ?_)
theorem spec_Doubled.mono : ∀ a0 k, LeO (spec_Doubled.f k a0) (spec_Doubled.f (k + 1) a0) := by
  intro a0 k
  obtain ⟨ih0, ih1, ih2⟩ := spec_Doubled.mono_l k
  unfold spec_Doubled.f
  repeat' first
      | (with_reducible exact ih0 _ _ _ _)
      | (with_reducible exact ih1 _ _ _ _ _ _)
      | (with_reducible exact ih2 _ _ _ _ _ _)
      | (with_reducible exact LeO.refl _)
      | (with_reducible exact LeO.none _)
      | (with_reducible refine LeO.ite ?_ ?_)
      | (with_reducible refine LeO.bind ?_ (fun _ => ?_))
      | exact ih0 _ _ _ _
      | exact ih1 _ _ _ _ _ _
      | exact ih2 _ _ _ _ _ _
      | exact LeO.none _
      | refine LeO.ite ?_ ?_
      | refine LeO.bind ?_ (fun _ => ?_)
set_option maxHeartbeats 8000000 in
set_option maxRecDepth 100000 in
theorem spec_Doubled.calls (k : Nat) (a0 : ByteArray) (r : ByteArray) (w : World) (h : spec_Doubled.f k a0 = some r) :
    Calls Try.prog 34 #[.string a0] w fun e w' => e = .returned (.string r) ∧ Drawn0 w w' := by
  have H : (spec_Doubled.l0 k a0 (⟨#[]⟩ : ByteArray) 0 0) = some r := h
  clear h
  have H' := Aside0.mk H
  clear H
  go_enter Try.func34, Try.ntmps34
  go_wp2
  go_loopg [3, 4, 5] k (fun kq v3 v4 v5 w' => ∃ (x3_1 : ByteArray) (x4_1 : Int) (x5_1 : Int), v3 = .string x3_1 ∧ v4 = .int .u8 x4_1 ∧ v5 = .int .i64 x5_1 ∧ Aside0 (spec_Doubled.l0 kq a0 x3_1 x4_1 x5_1 = some r) ∧ Aside0 (kq ≤ k) ∧ Drawn0 w w')
  case atStart => exact ⟨((⟨#[]⟩ : ByteArray)), (0), (0), (by first | rfl | (simp; done) | (simp [*]; done)), (by first | rfl | (simp; done) | (simp [*]; done)), (by first | rfl | (simp; done) | (simp [*]; done)), H', ⟨Nat.le_refl _⟩, by repeat (first | exact Drawn0.refl _ | apply Drawn0.step)⟩
  case round =>
    clear H'
    obtain ⟨x3_1, x4_1, x5_1, rfl, rfl, rfl, HA, HK1, ⟨m1, rfl⟩⟩ := hrel
    cases gk with
    | zero => exact absurd HA.out (by simp [spec_Doubled.l0])
    | succ k1 =>
      have H := HA.out
      clear HA
      simp only [spec_Doubled.l0] at H
      by_cases c2 : x5_1 < (a0.size : Int)
      · rw [if_pos c2] at H
        have c2b0 : decide (x5_1 < (a0.size : Int)) = true := decide_eq_true c2
        clear c2
        by_cases c3 : 0 ≤ x5_1
        · rw [if_pos c3] at H
          have c3b0 : decide (0 ≤ x5_1) = true := decide_eq_true c3
          clear c3
          have HC5 := Aside0.mk H
          clear H
          have p4 : 0 ≤ (x5_1 : Int) := of_decide_eq_true (by first | (with_reducible assumption) | assumption)
          have q4 : x5_1 < (a0.size : Int) := of_decide_eq_true (by first | (with_reducible assumption) | assumption)
          have hx4 := bt_at a0 x5_1
          replace p4 := eq_true p4
          replace q4 := eq_true q4
          go_upto_region 7 with (fail)
          go_cut [25] (fun v25 wc => ∃ (kq : Nat) (x25_4 : Bool), v25 = .bool x25_4 ∧ Aside0 (spec_Doubled.j1 kq a0 x3_1 x4_1 x5_1 (bt a0 x5_1) x25_4 = some r) ∧ Aside0 (kq ≤ k1) ∧ Drawn0 w wc)
          case first =>
            have H := HC5.out
            clear HC5
            by_cases c6 : x4_1 = 0
            · rw [if_pos c6] at H
              have c6b0 : (x4_1 == 0) = true := beq_iff_eq.mpr c6
              have c6b1 : (x4_1 != 0) = false := bne_eq_false_iff_eq.mpr c6
              clear c6
              (first | rw [c6b0] | (simp only [i64_w, i32_w]; rw [c6b0]) | skip)
              by_cases c7 : (bt a0 x5_1) = 39
              · rw [if_pos c7] at H
                have c7b0 : ((bt a0 x5_1) == 39) = true := beq_iff_eq.mpr c7
                have c7b1 : ((bt a0 x5_1) != 39) = false := bne_eq_false_iff_eq.mpr c7
                clear c7
                have H' := Aside0.mk H
                clear H
                go_wp2
                go_meet
                case rel => exact ⟨_, (true), (by first | rfl | (simp; done) | (simp [*]; done)), H', ⟨by have := HK1.out; first | omega | exact Nat.le_refl _⟩, by repeat (first | exact Drawn0.refl _ | apply Drawn0.step)⟩
              · rw [if_neg c7] at H
                have c7b0 : ((bt a0 x5_1) == 39) = false := beq_eq_false_iff_ne.mpr c7
                have c7b1 : ((bt a0 x5_1) != 39) = true := bne_iff_ne.mpr c7
                have H' := Aside0.mk H
                clear H
                go_wp2
                go_meet
                case rel => exact ⟨_, (((bt a0 x5_1) == 34)), (by first | rfl | (simp; done) | (simp [*]; done)), H', ⟨by have := HK1.out; first | omega | exact Nat.le_refl _⟩, by repeat (first | exact Drawn0.refl _ | apply Drawn0.step)⟩
            · rw [if_neg c6] at H
              have c6b0 : (x4_1 == 0) = false := beq_eq_false_iff_ne.mpr c6
              have c6b1 : (x4_1 != 0) = true := bne_iff_ne.mpr c6
              (first | rw [c6b0] | (simp only [i64_w, i32_w]; rw [c6b0]) | skip)
              have H' := Aside0.mk H
              clear H
              go_wp2
              go_meet
              case rel => exact ⟨_, (false), (by first | rfl | (simp; done) | (simp [*]; done)), H', ⟨by have := HK1.out; first | omega | exact Nat.le_refl _⟩, by repeat (first | exact Drawn0.refl _ | apply Drawn0.step)⟩
          case rest =>
            clear HC5
            try clear c2
            try clear c2b0
            try clear p2
            try clear c3
            try clear c3b0
            try clear p4
            try clear q4
            try clear hx4
            try clear c6
            try clear c6b0
            try clear c6b1
            try clear c7
            try clear c7b0
            try clear c7b1
            try clear p4
            try clear q4
            obtain ⟨kq, x25_4, rfl, HA, HJ4, ⟨mc4, rfl⟩⟩ := hcut
            cases kq with
            | zero => exact absurd HA.out (by simp [spec_Doubled.j1])
            | succ kj4 =>
              have H := HA.out
              clear HA
              simp only [spec_Doubled.j1] at H
              by_cases c8 : x25_4 = true
              · subst c8
                have H1 : (if 0 ≤ x5_1 then (if x5_1 ≤ (wrap64 (x5_1 + 1)) then (if (wrap64 (x5_1 + 1)) ≤ (a0.size : Int) then (if x3_1.size + (a0.extract (x5_1 : Int).toNat ((wrap64 (x5_1 + 1)) : Int).toNat).size ≤ 9223372036854775807 then (spec_Doubled.l0 kj4 a0 (x3_1 ++ (a0.extract (x5_1 : Int).toNat ((wrap64 (x5_1 + 1)) : Int).toNat)) (bt a0 x5_1) (wrap64 (x5_1 + 1))) else (none)) else (none)) else (none)) else (none)) = some r := by rw [if_pos rfl] at H; exact H
                clear H
                have H := H1
                clear H1
                by_cases c9 : 0 ≤ x5_1
                · rw [if_pos c9] at H
                  have c9b0 := eq_true c9
                  have c9b1 : decide (0 ≤ x5_1) = true := decide_eq_true c9
                  clear c9
                  by_cases c10 : x5_1 ≤ (wrap64 (x5_1 + 1))
                  · rw [if_pos c10] at H
                    have c10b0 := eq_true c10
                    have c10b1 : decide (x5_1 ≤ (wrap64 (x5_1 + 1))) = true := decide_eq_true c10
                    by_cases c11 : (wrap64 (x5_1 + 1)) ≤ (a0.size : Int)
                    · rw [if_pos c11] at H
                      have c11b0 := eq_true c11
                      have c11b1 : decide ((wrap64 (x5_1 + 1)) ≤ (a0.size : Int)) = true := decide_eq_true c11
                      by_cases c12 : x3_1.size + (a0.extract (x5_1 : Int).toNat ((wrap64 (x5_1 + 1)) : Int).toNat).size ≤ 9223372036854775807
                      · rw [if_pos c12] at H
                        have c12b0 := eq_true c12
                        have c12b1 : decide (x3_1.size + (a0.extract (x5_1 : Int).toNat ((wrap64 (x5_1 + 1)) : Int).toNat).size ≤ 9223372036854775807) = true := decide_eq_true c12
                        try have c12b2 : (9223372036854775807 < x3_1.size + (a0.extract (x5_1 : Int).toNat ((wrap64 (x5_1 + 1)) : Int).toNat).size) = False := eq_false (Nat.not_lt.2 c12)
                        have H' := Aside0.mk H
                        clear H
                        go_wp2
                        go_roundg kj4
                        case measure => have := HK1.out; have := HJ4.out; omega
                        case rel => exact ⟨(x3_1 ++ (a0.extract (x5_1 : Int).toNat ((wrap64 (x5_1 + 1)) : Int).toNat)), ((bt a0 x5_1)), (wrap64 (x5_1 + 1)), (by first | rfl | (simp; done) | (simp [*]; done)), (by first | rfl | (simp; done) | (simp [*]; done)), (by first | rfl | (simp; done) | (simp [*]; done)), H', ⟨by have := HK1.out; have := HJ4.out; omega⟩, by repeat (first | exact Drawn0.refl _ | apply Drawn0.step)⟩
                      · rw [if_neg c12] at H
                        exact absurd H (by simp)
                    · rw [if_neg c11] at H
                      exact absurd H (by simp)
                  · rw [if_neg c10] at H
                    exact absurd H (by simp)
                · rw [if_neg c9] at H
                  exact absurd H (by simp)
              · replace c8 := Bool.eq_false_iff.mpr c8
                subst c8
                have H1 : (if x4_1 = 0 then (spec_Doubled.j2 kj4 a0 x3_1 x4_1 x5_1 (bt a0 x5_1) false) else (spec_Doubled.j2 kj4 a0 x3_1 x4_1 x5_1 (bt a0 x5_1) ((bt a0 x5_1) == x4_1))) = some r := by rw [if_neg (show ¬ (false = true) by decide)] at H; exact H
                clear H
                have H := H1
                clear H1
                have HC13 := Aside0.mk H
                clear H
                go_upto_region 9 with (fail)
                go_cut [33] (fun v33 wc => ∃ (kq : Nat) (x33_12 : Bool), v33 = .bool x33_12 ∧ Aside0 (spec_Doubled.j2 kq a0 x3_1 x4_1 x5_1 (bt a0 x5_1) x33_12 = some r) ∧ Aside0 (kq ≤ kj4) ∧ Drawn0 w wc)
                case first =>
                  have H := HC13.out
                  clear HC13
                  by_cases c14 : x4_1 = 0
                  · rw [if_pos c14] at H
                    have c14b0 : (x4_1 == 0) = true := beq_iff_eq.mpr c14
                    have c14b1 : (x4_1 != 0) = false := bne_eq_false_iff_eq.mpr c14
                    clear c14
                    (first | rw [c14b0] | (simp only [i64_w, i32_w]; rw [c14b0]) | skip)
                    have H' := Aside0.mk H
                    clear H
                    go_wp2
                    go_meet
                    case rel => exact ⟨_, (false), (by first | rfl | (simp; done) | (simp [*]; done)), H', ⟨by have := HK1.out; have := HJ4.out; first | omega | exact Nat.le_refl _⟩, by repeat (first | exact Drawn0.refl _ | apply Drawn0.step)⟩
                  · rw [if_neg c14] at H
                    have c14b0 : (x4_1 == 0) = false := beq_eq_false_iff_ne.mpr c14
                    have c14b1 : (x4_1 != 0) = true := bne_iff_ne.mpr c14
                    (first | rw [c14b0] | (simp only [i64_w, i32_w]; rw [c14b0]) | skip)
                    have H' := Aside0.mk H
                    clear H
                    go_wp2
                    go_meet
                    case rel => exact ⟨_, (((bt a0 x5_1) == x4_1)), (by first | rfl | (simp; done) | (simp [*]; done)), H', ⟨by have := HK1.out; have := HJ4.out; first | omega | exact Nat.le_refl _⟩, by repeat (first | exact Drawn0.refl _ | apply Drawn0.step)⟩
                case rest =>
                  clear HC13
                  try clear c1
                  try clear c2
                  try clear c2b0
                  try clear p2
                  try clear c3
                  try clear c3b0
                  try clear c4
                  try clear p4
                  try clear q4
                  try clear hx4
                  try clear c6
                  try clear c6b0
                  try clear c6b1
                  try clear p6
                  try clear c7
                  try clear c7b0
                  try clear c7b1
                  try clear c8
                  try clear c9
                  try clear c9b0
                  try clear c9b1
                  try clear c10
                  try clear c10b0
                  try clear c10b1
                  try clear c11
                  try clear c11b0
                  try clear c11b1
                  try clear c12
                  try clear c12b0
                  try clear c12b1
                  try clear c12b2
                  try clear c14
                  try clear c14b0
                  try clear c14b1
                  try clear p2
                  try clear p4
                  try clear q4
                  obtain ⟨kq, x33_12, rfl, HA, HJ12, ⟨mc12, rfl⟩⟩ := hcut
                  cases kq with
                  | zero => exact absurd HA.out (by simp [spec_Doubled.j2])
                  | succ kj12 =>
                    have H := HA.out
                    clear HA
                    simp only [spec_Doubled.j2] at H
                    by_cases c15 : x33_12 = true
                    · subst c15
                      have H1 : (if 0 ≤ x5_1 then (if x5_1 ≤ (wrap64 (x5_1 + 1)) then (if (wrap64 (x5_1 + 1)) ≤ (a0.size : Int) then (if x3_1.size + (a0.extract (x5_1 : Int).toNat ((wrap64 (x5_1 + 1)) : Int).toNat).size ≤ 9223372036854775807 then (spec_Doubled.l0 kj12 a0 (x3_1 ++ (a0.extract (x5_1 : Int).toNat ((wrap64 (x5_1 + 1)) : Int).toNat)) 0 (wrap64 (x5_1 + 1))) else (none)) else (none)) else (none)) else (none)) = some r := by rw [if_pos rfl] at H; exact H
                      clear H
                      have H := H1
                      clear H1
                      by_cases c16 : 0 ≤ x5_1
                      · rw [if_pos c16] at H
                        have c16b0 := eq_true c16
                        have c16b1 : decide (0 ≤ x5_1) = true := decide_eq_true c16
                        clear c16
                        by_cases c17 : x5_1 ≤ (wrap64 (x5_1 + 1))
                        · rw [if_pos c17] at H
                          have c17b0 := eq_true c17
                          have c17b1 : decide (x5_1 ≤ (wrap64 (x5_1 + 1))) = true := decide_eq_true c17
                          by_cases c18 : (wrap64 (x5_1 + 1)) ≤ (a0.size : Int)
                          · rw [if_pos c18] at H
                            have c18b0 := eq_true c18
                            have c18b1 : decide ((wrap64 (x5_1 + 1)) ≤ (a0.size : Int)) = true := decide_eq_true c18
                            by_cases c19 : x3_1.size + (a0.extract (x5_1 : Int).toNat ((wrap64 (x5_1 + 1)) : Int).toNat).size ≤ 9223372036854775807
                            · rw [if_pos c19] at H
                              have c19b0 := eq_true c19
                              have c19b1 : decide (x3_1.size + (a0.extract (x5_1 : Int).toNat ((wrap64 (x5_1 + 1)) : Int).toNat).size ≤ 9223372036854775807) = true := decide_eq_true c19
                              try have c19b2 : (9223372036854775807 < x3_1.size + (a0.extract (x5_1 : Int).toNat ((wrap64 (x5_1 + 1)) : Int).toNat).size) = False := eq_false (Nat.not_lt.2 c19)
                              have H' := Aside0.mk H
                              clear H
                              go_wp2
                              go_roundg kj12
                              case measure => have := HK1.out; have := HJ4.out; have := HJ12.out; omega
                              case rel => exact ⟨(x3_1 ++ (a0.extract (x5_1 : Int).toNat ((wrap64 (x5_1 + 1)) : Int).toNat)), (0), (wrap64 (x5_1 + 1)), (by first | rfl | (simp; done) | (simp [*]; done)), (by first | rfl | (simp; done) | (simp [*]; done)), (by first | rfl | (simp; done) | (simp [*]; done)), H', ⟨by have := HK1.out; have := HJ4.out; have := HJ12.out; omega⟩, by repeat (first | exact Drawn0.refl _ | apply Drawn0.step)⟩
                            · rw [if_neg c19] at H
                              exact absurd H (by simp)
                          · rw [if_neg c18] at H
                            exact absurd H (by simp)
                        · rw [if_neg c17] at H
                          exact absurd H (by simp)
                      · rw [if_neg c16] at H
                        exact absurd H (by simp)
                    · replace c15 := Bool.eq_false_iff.mpr c15
                      subst c15
                      have H1 : (if x4_1 = 0 then (if 0 ≤ x5_1 then (if x5_1 ≤ (wrap64 (x5_1 + 1)) then (if (wrap64 (x5_1 + 1)) ≤ (a0.size : Int) then (if x3_1.size + (a0.extract (x5_1 : Int).toNat ((wrap64 (x5_1 + 1)) : Int).toNat).size ≤ 9223372036854775807 then (spec_Doubled.l0 kj12 a0 (x3_1 ++ (a0.extract (x5_1 : Int).toNat ((wrap64 (x5_1 + 1)) : Int).toNat)) x4_1 (wrap64 (x5_1 + 1))) else (none)) else (none)) else (none)) else (none)) else (if (bt a0 x5_1) = 92 then (if x3_1.size + 1 ≤ 9223372036854775807 then (if 0 ≤ x5_1 then (if x5_1 ≤ (wrap64 (x5_1 + 1)) then (if (wrap64 (x5_1 + 1)) ≤ (a0.size : Int) then (if (x3_1 ++ (⟨#[92]⟩ : ByteArray)).size + (a0.extract (x5_1 : Int).toNat ((wrap64 (x5_1 + 1)) : Int).toNat).size ≤ 9223372036854775807 then (spec_Doubled.l0 kj12 a0 ((x3_1 ++ (⟨#[92]⟩ : ByteArray)) ++ (a0.extract (x5_1 : Int).toNat ((wrap64 (x5_1 + 1)) : Int).toNat)) x4_1 (wrap64 (x5_1 + 1))) else (none)) else (none)) else (none)) else (none)) else (none)) else (if 0 ≤ x5_1 then (if x5_1 ≤ (wrap64 (x5_1 + 1)) then (if (wrap64 (x5_1 + 1)) ≤ (a0.size : Int) then (if x3_1.size + (a0.extract (x5_1 : Int).toNat ((wrap64 (x5_1 + 1)) : Int).toNat).size ≤ 9223372036854775807 then (spec_Doubled.l0 kj12 a0 (x3_1 ++ (a0.extract (x5_1 : Int).toNat ((wrap64 (x5_1 + 1)) : Int).toNat)) x4_1 (wrap64 (x5_1 + 1))) else (none)) else (none)) else (none)) else (none)))) = some r := by rw [if_neg (show ¬ (false = true) by decide)] at H; exact H
                      clear H
                      have H := H1
                      clear H1
                      by_cases c20 : x4_1 = 0
                      · rw [if_pos c20] at H
                        have c20b0 : (x4_1 == 0) = true := beq_iff_eq.mpr c20
                        have c20b1 : (x4_1 != 0) = false := bne_eq_false_iff_eq.mpr c20
                        clear c20
                        by_cases c21 : 0 ≤ x5_1
                        · rw [if_pos c21] at H
                          have c21b0 := eq_true c21
                          have c21b1 : decide (0 ≤ x5_1) = true := decide_eq_true c21
                          clear c21
                          by_cases c22 : x5_1 ≤ (wrap64 (x5_1 + 1))
                          · rw [if_pos c22] at H
                            have c22b0 := eq_true c22
                            have c22b1 : decide (x5_1 ≤ (wrap64 (x5_1 + 1))) = true := decide_eq_true c22
                            by_cases c23 : (wrap64 (x5_1 + 1)) ≤ (a0.size : Int)
                            · rw [if_pos c23] at H
                              have c23b0 := eq_true c23
                              have c23b1 : decide ((wrap64 (x5_1 + 1)) ≤ (a0.size : Int)) = true := decide_eq_true c23
                              by_cases c24 : x3_1.size + (a0.extract (x5_1 : Int).toNat ((wrap64 (x5_1 + 1)) : Int).toNat).size ≤ 9223372036854775807
                              · rw [if_pos c24] at H
                                have c24b0 := eq_true c24
                                have c24b1 : decide (x3_1.size + (a0.extract (x5_1 : Int).toNat ((wrap64 (x5_1 + 1)) : Int).toNat).size ≤ 9223372036854775807) = true := decide_eq_true c24
                                try have c24b2 : (9223372036854775807 < x3_1.size + (a0.extract (x5_1 : Int).toNat ((wrap64 (x5_1 + 1)) : Int).toNat).size) = False := eq_false (Nat.not_lt.2 c24)
                                have H' := Aside0.mk H
                                clear H
                                go_wp2
                                go_roundg kj12
                                case measure => have := HK1.out; have := HJ4.out; have := HJ12.out; omega
                                case rel => exact ⟨(x3_1 ++ (a0.extract (x5_1 : Int).toNat ((wrap64 (x5_1 + 1)) : Int).toNat)), (x4_1), (wrap64 (x5_1 + 1)), (by first | rfl | (simp; done) | (simp [*]; done)), (by first | rfl | (simp; done) | (simp [*]; done)), (by first | rfl | (simp; done) | (simp [*]; done)), H', ⟨by have := HK1.out; have := HJ4.out; have := HJ12.out; omega⟩, by repeat (first | exact Drawn0.refl _ | apply Drawn0.step)⟩
                              · rw [if_neg c24] at H
                                exact absurd H (by simp)
                            · rw [if_neg c23] at H
                              exact absurd H (by simp)
                          · rw [if_neg c22] at H
                            exact absurd H (by simp)
                        · rw [if_neg c21] at H
                          exact absurd H (by simp)
                      · rw [if_neg c20] at H
                        have c20b0 : (x4_1 == 0) = false := beq_eq_false_iff_ne.mpr c20
                        have c20b1 : (x4_1 != 0) = true := bne_iff_ne.mpr c20
                        by_cases c25 : (bt a0 x5_1) = 92
                        · rw [if_pos c25] at H
                          have c25b0 : ((bt a0 x5_1) == 92) = true := beq_iff_eq.mpr c25
                          have c25b1 : ((bt a0 x5_1) != 92) = false := bne_eq_false_iff_eq.mpr c25
                          clear c25
                          by_cases c26 : x3_1.size + 1 ≤ 9223372036854775807
                          · rw [if_pos c26] at H
                            have c26b0 := eq_true c26
                            have c26b1 : decide (x3_1.size + 1 ≤ 9223372036854775807) = true := decide_eq_true c26
                            try have c26b2 : (9223372036854775807 < x3_1.size + 1) = False := eq_false (Nat.not_lt.2 c26)
                            by_cases c27 : 0 ≤ x5_1
                            · rw [if_pos c27] at H
                              have c27b0 := eq_true c27
                              have c27b1 : decide (0 ≤ x5_1) = true := decide_eq_true c27
                              clear c27
                              by_cases c28 : x5_1 ≤ (wrap64 (x5_1 + 1))
                              · rw [if_pos c28] at H
                                have c28b0 := eq_true c28
                                have c28b1 : decide (x5_1 ≤ (wrap64 (x5_1 + 1))) = true := decide_eq_true c28
                                by_cases c29 : (wrap64 (x5_1 + 1)) ≤ (a0.size : Int)
                                · rw [if_pos c29] at H
                                  have c29b0 := eq_true c29
                                  have c29b1 : decide ((wrap64 (x5_1 + 1)) ≤ (a0.size : Int)) = true := decide_eq_true c29
                                  by_cases c30 : (x3_1 ++ (⟨#[92]⟩ : ByteArray)).size + (a0.extract (x5_1 : Int).toNat ((wrap64 (x5_1 + 1)) : Int).toNat).size ≤ 9223372036854775807
                                  · rw [if_pos c30] at H
                                    have c30b0 := eq_true c30
                                    have c30b1 : decide ((x3_1 ++ (⟨#[92]⟩ : ByteArray)).size + (a0.extract (x5_1 : Int).toNat ((wrap64 (x5_1 + 1)) : Int).toNat).size ≤ 9223372036854775807) = true := decide_eq_true c30
                                    try have c30b2 : (9223372036854775807 < (x3_1 ++ (⟨#[92]⟩ : ByteArray)).size + (a0.extract (x5_1 : Int).toNat ((wrap64 (x5_1 + 1)) : Int).toNat).size) = False := eq_false (Nat.not_lt.2 c30)
                                    have H' := Aside0.mk H
                                    clear H
                                    go_wp2
                                    go_roundg kj12
                                    case measure => have := HK1.out; have := HJ4.out; have := HJ12.out; omega
                                    case rel => exact ⟨((x3_1 ++ (⟨#[92]⟩ : ByteArray)) ++ (a0.extract (x5_1 : Int).toNat ((wrap64 (x5_1 + 1)) : Int).toNat)), (x4_1), (wrap64 (x5_1 + 1)), (by first | rfl | (simp; done) | (simp [*]; done)), (by first | rfl | (simp; done) | (simp [*]; done)), (by first | rfl | (simp; done) | (simp [*]; done)), H', ⟨by have := HK1.out; have := HJ4.out; have := HJ12.out; omega⟩, by repeat (first | exact Drawn0.refl _ | apply Drawn0.step)⟩
                                  · rw [if_neg c30] at H
                                    exact absurd H (by simp)
                                · rw [if_neg c29] at H
                                  exact absurd H (by simp)
                              · rw [if_neg c28] at H
                                exact absurd H (by simp)
                            · rw [if_neg c27] at H
                              exact absurd H (by simp)
                          · rw [if_neg c26] at H
                            exact absurd H (by simp)
                        · rw [if_neg c25] at H
                          have c25b0 : ((bt a0 x5_1) == 92) = false := beq_eq_false_iff_ne.mpr c25
                          have c25b1 : ((bt a0 x5_1) != 92) = true := bne_iff_ne.mpr c25
                          by_cases c31 : 0 ≤ x5_1
                          · rw [if_pos c31] at H
                            have c31b0 := eq_true c31
                            have c31b1 : decide (0 ≤ x5_1) = true := decide_eq_true c31
                            clear c31
                            by_cases c32 : x5_1 ≤ (wrap64 (x5_1 + 1))
                            · rw [if_pos c32] at H
                              have c32b0 := eq_true c32
                              have c32b1 : decide (x5_1 ≤ (wrap64 (x5_1 + 1))) = true := decide_eq_true c32
                              by_cases c33 : (wrap64 (x5_1 + 1)) ≤ (a0.size : Int)
                              · rw [if_pos c33] at H
                                have c33b0 := eq_true c33
                                have c33b1 : decide ((wrap64 (x5_1 + 1)) ≤ (a0.size : Int)) = true := decide_eq_true c33
                                by_cases c34 : x3_1.size + (a0.extract (x5_1 : Int).toNat ((wrap64 (x5_1 + 1)) : Int).toNat).size ≤ 9223372036854775807
                                · rw [if_pos c34] at H
                                  have c34b0 := eq_true c34
                                  have c34b1 : decide (x3_1.size + (a0.extract (x5_1 : Int).toNat ((wrap64 (x5_1 + 1)) : Int).toNat).size ≤ 9223372036854775807) = true := decide_eq_true c34
                                  try have c34b2 : (9223372036854775807 < x3_1.size + (a0.extract (x5_1 : Int).toNat ((wrap64 (x5_1 + 1)) : Int).toNat).size) = False := eq_false (Nat.not_lt.2 c34)
                                  have H' := Aside0.mk H
                                  clear H
                                  go_wp2
                                  go_roundg kj12
                                  case measure => have := HK1.out; have := HJ4.out; have := HJ12.out; omega
                                  case rel => exact ⟨(x3_1 ++ (a0.extract (x5_1 : Int).toNat ((wrap64 (x5_1 + 1)) : Int).toNat)), (x4_1), (wrap64 (x5_1 + 1)), (by first | rfl | (simp; done) | (simp [*]; done)), (by first | rfl | (simp; done) | (simp [*]; done)), (by first | rfl | (simp; done) | (simp [*]; done)), H', ⟨by have := HK1.out; have := HJ4.out; have := HJ12.out; omega⟩, by repeat (first | exact Drawn0.refl _ | apply Drawn0.step)⟩
                                · rw [if_neg c34] at H
                                  exact absurd H (by simp)
                              · rw [if_neg c33] at H
                                exact absurd H (by simp)
                            · rw [if_neg c32] at H
                              exact absurd H (by simp)
                          · rw [if_neg c31] at H
                            exact absurd H (by simp)
        · rw [if_neg c3] at H
          exact absurd H (by simp)
      · rw [if_neg c2] at H
        have c2b0 : decide (x5_1 < (a0.size : Int)) = false := decide_eq_false c2
        clear c2
        obtain rfl := Option.some.inj H
        go_wp2
        go_ret
        exact ⟨by first | rfl | (simp; done) | (simp [*]; done), by repeat (first | exact Drawn0.refl _ | apply Drawn0.step)⟩

/-! ### laws_FnLiterals: function 8 -/
def laws_FnLiterals.l0 : Nat → ByteArray → Int → Option (Bool)
  | 0, _, _ => none
  | k + 1, x0, x3 => if x3 < (x0.size : Int) then (if 0 ≤ (wrap64 (x3 - 1)) then (if (wrap64 (x3 - 1)) < (x0.size : Int) then (if (bt x0 (wrap64 (x3 - 1))) = 92 then (if 0 ≤ x3 then (if (bt x0 x3) = 39 then ((laws_awakeUtil.f k).bind fun t124 => (some t124)) else (if (bt x0 x3) = 34 then ((laws_awakeUtil.f k).bind fun t125 => (some t125)) else (laws_FnLiterals.l0 k x0 (wrap64 (x3 + 1))))) else (none)) else (laws_FnLiterals.l0 k x0 (wrap64 (x3 + 1)))) else (none)) else (none)) else ((laws_ascii.f k x0).bind fun t126 => (if t126 = true then ((impl_EscapeStringLiterals.f k x0).bind fun t127 => ((spec_Doubled.f k x0).bind fun t128 => (if t127.toList = t128.toList then ((laws_awakeUtil.f k).bind fun t129 => (some t129)) else (some false)))) else (some true)))
def laws_FnLiterals.f (k : Nat) (a0 : ByteArray) : Option (Bool) := if (a0.size : Int) > 2147483647 then (some true) else (laws_FnLiterals.l0 k a0 1)
theorem laws_FnLiterals.mono_l : ∀ k, (∀ y0 y1, LeO (laws_FnLiterals.l0 k y0 y1) (laws_FnLiterals.l0 (k + 1) y0 y1))
  | 0 => fun _ _ r h => by simp [laws_FnLiterals.l0] at h
  | k + 1 => by
    have ih0 := laws_FnLiterals.mono_l k
    · intro y0 y1
      unfold laws_FnLiterals.l0
      repeat' first
      | (with_reducible exact ih0 _ _)
      | (with_reducible exact impl_EscapeStringLiterals.mono _ _)
      | (with_reducible exact laws_ascii.mono _ _)
      | (with_reducible exact laws_awakeUtil.mono _)
      | (with_reducible exact spec_Doubled.mono _ _)
      | (with_reducible exact LeO.refl _)
      | (with_reducible exact LeO.none _)
      | (with_reducible refine LeO.ite ?_ ?_)
      | (with_reducible refine LeO.bind ?_ (fun _ => ?_))
      | exact ih0 _ _
      | exact impl_EscapeStringLiterals.mono _ _
      | exact laws_ascii.mono _ _
      | exact laws_awakeUtil.mono _
      | exact spec_Doubled.mono _ _
      | exact LeO.none _
      | refine LeO.ite ?_ ?_
      | refine LeO.bind ?_ (fun _ => ?_)
theorem laws_FnLiterals.mono : ∀ a0 k, LeO (laws_FnLiterals.f k a0) (laws_FnLiterals.f (k + 1) a0) := by
  intro a0 k
  have ih0 := laws_FnLiterals.mono_l k
  unfold laws_FnLiterals.f
  repeat' first
      | (with_reducible exact ih0 _ _)
      | (with_reducible exact impl_EscapeStringLiterals.mono _ _)
      | (with_reducible exact laws_ascii.mono _ _)
      | (with_reducible exact laws_awakeUtil.mono _)
      | (with_reducible exact spec_Doubled.mono _ _)
      | (with_reducible exact LeO.refl _)
      | (with_reducible exact LeO.none _)
      | (with_reducible refine LeO.ite ?_ ?_)
      | (with_reducible refine LeO.bind ?_ (fun _ => ?_))
      | exact ih0 _ _
      | exact impl_EscapeStringLiterals.mono _ _
      | exact laws_ascii.mono _ _
      | exact laws_awakeUtil.mono _
      | exact spec_Doubled.mono _ _
      | exact LeO.none _
      | refine LeO.ite ?_ ?_
      | refine LeO.bind ?_ (fun _ => ?_)
set_option maxHeartbeats 8000000 in
set_option maxRecDepth 100000 in
theorem laws_FnLiterals.calls (k : Nat) (a0 : ByteArray) (r : Bool) (w : World) (h : laws_FnLiterals.f k a0 = some r) :
    Calls Try.prog 8 #[.string a0] w fun e w' => e = .returned (.bool r) ∧ Below w.heap.size w w' := by
  have HB := Aside0.mk (Below.refl w.heap.size w)
  have H : (if (a0.size : Int) > 2147483647 then (some true) else (laws_FnLiterals.l0 k a0 1)) = some r := h
  clear h
  by_cases c2 : (a0.size : Int) > 2147483647
  · rw [if_pos c2] at H
    have c2b0 : decide (2147483647 < (a0.size : Int)) = true := decide_eq_true c2
    have c2b1 : decide (2147483647 < a0.size) = true := decide_eq_true (by omega)
    clear c2
    obtain rfl := Option.some.inj H
    go_enter Try.func8, Try.ntmps8
    go_wp2
    go_ret
    exact ⟨by first | rfl | (simp [errW_none, errW_some] <;> rfl) | (simp [*, errW_none, errW_some] <;> rfl), by repeat (first | (with_reducible first | exact HB.out | apply below_alloc | apply pw_below_drewN | apply below_drew1) | exact HB.out)⟩
  · rw [if_neg c2] at H
    have c2b0 : decide (2147483647 < (a0.size : Int)) = false := decide_eq_false c2
    have c2b1 : decide (2147483647 < a0.size) = false := decide_eq_false (by omega)
    clear c2
    have H' := Aside0.mk H
    clear H
    go_enter Try.func8, Try.ntmps8
    go_wp2
    go_loopg [3] k (fun kq v3 w' => ∃ (x3_1 : Int), v3 = .int .i64 x3_1 ∧ Aside0 (laws_FnLiterals.l0 kq a0 x3_1 = some r) ∧ Aside0 (kq ≤ k) ∧ Aside0 (Below w.heap.size w w'))
    case atStart => exact ⟨(1), (by first | rfl | (simp; done) | (simp [*]; done)), H', ⟨Nat.le_refl _⟩, ⟨by repeat (first | (with_reducible first | exact HB.out | apply below_alloc | apply pw_below_drewN | apply below_drew1) | exact HB.out)⟩⟩
    case round =>
      clear H'
      try clear c2
      try clear c2b0
      try clear c2b1
      try clear p2
      obtain ⟨x3_1, rfl, HA, HK1, HB⟩ := hrel
      cases gk with
      | zero => exact absurd HA.out (by simp [laws_FnLiterals.l0])
      | succ k1 =>
        have H := HA.out
        clear HA
        simp only [laws_FnLiterals.l0] at H
        by_cases c3 : x3_1 < (a0.size : Int)
        · rw [if_pos c3] at H
          have c3b0 : decide (x3_1 < (a0.size : Int)) = true := decide_eq_true c3
          clear c3
          obtain ⟨ji4, hji4⟩ : ∃ j_ : Int, (wrap64 (x3_1 - 1)) = j_ := ⟨_, rfl⟩
          replace H : (if 0 ≤ (ji4) then (if (ji4) < (a0.size : Int) then (if (bt a0 (ji4)) = 92 then (if 0 ≤ x3_1 then (if (bt a0 x3_1) = 39 then ((laws_awakeUtil.f k1).bind fun t124 => (some t124)) else (if (bt a0 x3_1) = 34 then ((laws_awakeUtil.f k1).bind fun t125 => (some t125)) else (laws_FnLiterals.l0 k1 a0 (wrap64 (x3_1 + 1))))) else (none)) else (laws_FnLiterals.l0 k1 a0 (wrap64 (x3_1 + 1)))) else (none)) else (none)) = some r := by first | (rw [hji4] at H; exact H) | (simp only [hji4] at H ⊢; exact H)
          have hji4w : (IntKind.i64.wrap (x3_1 - 1)) = ji4 := (i64_w _).trans hji4
          by_cases c5 : 0 ≤ (ji4)
          · rw [if_pos c5] at H
            have c5b0 : decide (0 ≤ (ji4)) = true := decide_eq_true c5
            clear c5
            by_cases c6 : (ji4) < (a0.size : Int)
            · rw [if_pos c6] at H
              have c6b0 : decide ((ji4) < (a0.size : Int)) = true := decide_eq_true c6
              clear c6
              by_cases c8 : (bt a0 (ji4)) = 92
              · rw [if_pos c8] at H
                have c8b0 : ((bt a0 (ji4)) == 92) = true := beq_iff_eq.mpr c8
                have c8b1 : ((bt a0 (ji4)) != 92) = false := bne_eq_false_iff_eq.mpr c8
                clear c8
                by_cases c9 : 0 ≤ x3_1
                · rw [if_pos c9] at H
                  have c9b0 : decide (0 ≤ x3_1) = true := decide_eq_true c9
                  clear c9
                  by_cases c11 : (bt a0 x3_1) = 39
                  · rw [if_pos c11] at H
                    have c11b0 : ((bt a0 x3_1) == 39) = true := beq_iff_eq.mpr c11
                    have c11b1 : ((bt a0 x3_1) != 39) = false := bne_eq_false_iff_eq.mpr c11
                    clear c11
                    replace H := Option.bind_eq_some_iff.mp H
                    obtain ⟨t124, A120, H⟩ := H
                    replace H : (some t124) = some r := H
                    have A12 := Aside0.mk A120
                    clear A120
                    obtain rfl := Option.some.inj H
                    have p7 : 0 ≤ ((ji4) : Int) := of_decide_eq_true (by first | (with_reducible assumption) | assumption)
                    have q7 : (ji4) < (a0.size : Int) := of_decide_eq_true (by first | (with_reducible assumption) | assumption)
                    have hx7 := bt_at a0 (ji4)
                    replace p7 := eq_true p7
                    replace q7 := eq_true q7
                    have p10 : 0 ≤ (x3_1 : Int) := of_decide_eq_true (by first | (with_reducible assumption) | assumption)
                    have q10 : x3_1 < (a0.size : Int) := of_decide_eq_true (by first | (with_reducible assumption) | assumption)
                    have hx10 := bt_at a0 x3_1
                    replace p10 := eq_true p10
                    replace q10 := eq_true q10
                    go_wp2_with (first | ((with_reducible refine gate_callee (f := 14) rfl ?_); refine goesL_ (some 30) rfl rfl Try.func14 (by kernel_rfl) rfl #[] rfl (by (try simp only [List.map_toArray, List.map_cons, List.map_nil]); first | done | rfl | (simp only [List.length_drop, List.length_take]; rfl)) ?_; (with_reducible refine (laws_awakeUtil.calls k1  t124 _ A12.out).mono ?_); rintro e w13 ⟨rfl, hb⟩; refine ⟨_, rfl, ?_⟩; have n0_ := Aside0.mk (below_step (by repeat (first | (with_reducible first | exact HB.out | apply below_alloc | apply pw_below_drewN | apply below_drew1) | exact HB.out)) hb); clear HB; have HB := n0_; clear n0_; (try clear hb); (try clear hb2); (try clear hk); (try clear hi)))
                    go_ret
                    exact ⟨by first | rfl | (simp [errW_none, errW_some] <;> rfl) | (simp only [← hji4]; first | rfl | (simp [errW_none, errW_some] <;> rfl)) | (simp [*, errW_none, errW_some] <;> rfl), by repeat (first | (with_reducible first | exact HB.out | apply below_alloc | apply pw_below_drewN | apply below_drew1) | exact HB.out)⟩
                  · rw [if_neg c11] at H
                    have c11b0 : ((bt a0 x3_1) == 39) = false := beq_eq_false_iff_ne.mpr c11
                    have c11b1 : ((bt a0 x3_1) != 39) = true := bne_iff_ne.mpr c11
                    by_cases c15 : (bt a0 x3_1) = 34
                    · rw [if_pos c15] at H
                      have c15b0 : ((bt a0 x3_1) == 34) = true := beq_iff_eq.mpr c15
                      have c15b1 : ((bt a0 x3_1) != 34) = false := bne_eq_false_iff_eq.mpr c15
                      clear c15
                      replace H := Option.bind_eq_some_iff.mp H
                      obtain ⟨t125, A160, H⟩ := H
                      replace H : (some t125) = some r := H
                      have A16 := Aside0.mk A160
                      clear A160
                      obtain rfl := Option.some.inj H
                      have p7 : 0 ≤ ((ji4) : Int) := of_decide_eq_true (by first | (with_reducible assumption) | assumption)
                      have q7 : (ji4) < (a0.size : Int) := of_decide_eq_true (by first | (with_reducible assumption) | assumption)
                      have hx7 := bt_at a0 (ji4)
                      replace p7 := eq_true p7
                      replace q7 := eq_true q7
                      have p10 : 0 ≤ (x3_1 : Int) := of_decide_eq_true (by first | (with_reducible assumption) | assumption)
                      have q10 : x3_1 < (a0.size : Int) := of_decide_eq_true (by first | (with_reducible assumption) | assumption)
                      have hx10 := bt_at a0 x3_1
                      replace p10 := eq_true p10
                      replace q10 := eq_true q10
                      have p14 : 0 ≤ (x3_1 : Int) := of_decide_eq_true (by first | (with_reducible assumption) | assumption)
                      have q14 : x3_1 < (a0.size : Int) := of_decide_eq_true (by first | (with_reducible assumption) | assumption)
                      have hx14 := bt_at a0 x3_1
                      replace p14 := eq_true p14
                      replace q14 := eq_true q14
                      go_wp2_with (first | ((with_reducible refine gate_callee (f := 14) rfl ?_); refine goesL_ (some 30) rfl rfl Try.func14 (by kernel_rfl) rfl #[] rfl (by (try simp only [List.map_toArray, List.map_cons, List.map_nil]); first | done | rfl | (simp only [List.length_drop, List.length_take]; rfl)) ?_; (with_reducible refine (laws_awakeUtil.calls k1  t125 _ A16.out).mono ?_); rintro e w17 ⟨rfl, hb⟩; refine ⟨_, rfl, ?_⟩; have n0_ := Aside0.mk (below_step (by repeat (first | (with_reducible first | exact HB.out | apply below_alloc | apply pw_below_drewN | apply below_drew1) | exact HB.out)) hb); clear HB; have HB := n0_; clear n0_; (try clear hb); (try clear hb2); (try clear hk); (try clear hi)))
                      go_ret
                      exact ⟨by first | rfl | (simp [errW_none, errW_some] <;> rfl) | (simp only [← hji4]; first | rfl | (simp [errW_none, errW_some] <;> rfl)) | (simp [*, errW_none, errW_some] <;> rfl), by repeat (first | (with_reducible first | exact HB.out | apply below_alloc | apply pw_below_drewN | apply below_drew1) | exact HB.out)⟩
                    · rw [if_neg c15] at H
                      have c15b0 : ((bt a0 x3_1) == 34) = false := beq_eq_false_iff_ne.mpr c15
                      have c15b1 : ((bt a0 x3_1) != 34) = true := bne_iff_ne.mpr c15
                      have H' := Aside0.mk H
                      clear H
                      have p7 : 0 ≤ ((ji4) : Int) := of_decide_eq_true (by first | (with_reducible assumption) | assumption)
                      have q7 : (ji4) < (a0.size : Int) := of_decide_eq_true (by first | (with_reducible assumption) | assumption)
                      have hx7 := bt_at a0 (ji4)
                      replace p7 := eq_true p7
                      replace q7 := eq_true q7
                      have p10 : 0 ≤ (x3_1 : Int) := of_decide_eq_true (by first | (with_reducible assumption) | assumption)
                      have q10 : x3_1 < (a0.size : Int) := of_decide_eq_true (by first | (with_reducible assumption) | assumption)
                      have hx10 := bt_at a0 x3_1
                      replace p10 := eq_true p10
                      replace q10 := eq_true q10
                      have p14 : 0 ≤ (x3_1 : Int) := of_decide_eq_true (by first | (with_reducible assumption) | assumption)
                      have q14 : x3_1 < (a0.size : Int) := of_decide_eq_true (by first | (with_reducible assumption) | assumption)
                      have hx14 := bt_at a0 x3_1
                      replace p14 := eq_true p14
                      replace q14 := eq_true q14
                      go_wp2
                      go_roundg k1
                      case measure => have := HK1.out; omega
                      case rel => exact ⟨(wrap64 (x3_1 + 1)), (by first | rfl | (simp; done) | (simp [*]; done)), H', ⟨by have := HK1.out; omega⟩, ⟨by repeat (first | (with_reducible first | exact HB.out | apply below_alloc | apply pw_below_drewN | apply below_drew1) | exact HB.out)⟩⟩
                · rw [if_neg c9] at H
                  exact absurd H (by simp)
              · rw [if_neg c8] at H
                have c8b0 : ((bt a0 (ji4)) == 92) = false := beq_eq_false_iff_ne.mpr c8
                have c8b1 : ((bt a0 (ji4)) != 92) = true := bne_iff_ne.mpr c8
                have H' := Aside0.mk H
                clear H
                have p7 : 0 ≤ ((ji4) : Int) := of_decide_eq_true (by first | (with_reducible assumption) | assumption)
                have q7 : (ji4) < (a0.size : Int) := of_decide_eq_true (by first | (with_reducible assumption) | assumption)
                have hx7 := bt_at a0 (ji4)
                replace p7 := eq_true p7
                replace q7 := eq_true q7
                go_wp2
                go_roundg k1
                case measure => have := HK1.out; omega
                case rel => exact ⟨(wrap64 (x3_1 + 1)), (by first | rfl | (simp; done) | (simp [*]; done)), H', ⟨by have := HK1.out; omega⟩, ⟨by repeat (first | (with_reducible first | exact HB.out | apply below_alloc | apply pw_below_drewN | apply below_drew1) | exact HB.out)⟩⟩
            · rw [if_neg c6] at H
              exact absurd H (by simp)
          · rw [if_neg c5] at H
            exact absurd H (by simp)
        · rw [if_neg c3] at H
          have c3b0 : decide (x3_1 < (a0.size : Int)) = false := decide_eq_false c3
          clear c3
          replace H := Option.bind_eq_some_iff.mp H
          obtain ⟨t126, A180, H⟩ := H
          replace H : (if t126 = true then ((impl_EscapeStringLiterals.f k1 a0).bind fun t127 => ((spec_Doubled.f k1 a0).bind fun t128 => (if t127.toList = t128.toList then ((laws_awakeUtil.f k1).bind fun t129 => (some t129)) else (some false)))) else (some true)) = some r := H
          have A18 := Aside0.mk A180
          clear A180
          by_cases c19 : t126 = true
          · subst c19
            have H1 : ((impl_EscapeStringLiterals.f k1 a0).bind fun t127 => ((spec_Doubled.f k1 a0).bind fun t128 => (if t127.toList = t128.toList then ((laws_awakeUtil.f k1).bind fun t129 => (some t129)) else (some false)))) = some r := by rw [if_pos rfl] at H; exact H
            clear H
            have H := H1
            clear H1
            replace H := Option.bind_eq_some_iff.mp H
            obtain ⟨t127, A200, H⟩ := H
            replace H : ((spec_Doubled.f k1 a0).bind fun t128 => (if t127.toList = t128.toList then ((laws_awakeUtil.f k1).bind fun t129 => (some t129)) else (some false))) = some r := H
            have A20 := Aside0.mk A200
            clear A200
            replace H := Option.bind_eq_some_iff.mp H
            obtain ⟨t128, A210, H⟩ := H
            replace H : (if t127.toList = t128.toList then ((laws_awakeUtil.f k1).bind fun t129 => (some t129)) else (some false)) = some r := H
            have A21 := Aside0.mk A210
            clear A210
            by_cases c22 : t127.toList = t128.toList
            · rw [if_pos c22] at H
              have c22b0 : (t127.toList == t128.toList) = true := beq_iff_eq.mpr c22
              have c22b1 : (t127.toList != t128.toList) = false := bne_eq_false_iff_eq.mpr c22
              clear c22
              replace H := Option.bind_eq_some_iff.mp H
              obtain ⟨t129, A230, H⟩ := H
              replace H : (some t129) = some r := H
              have A23 := Aside0.mk A230
              clear A230
              obtain rfl := Option.some.inj H
              go_wp2_with (first | ((with_reducible refine gate_callee (f := 23) rfl ?_); refine goesL_ (some 32) rfl rfl Try.func23 (by kernel_rfl) rfl #[.string a0] rfl (by (try simp only [List.map_toArray, List.map_cons, List.map_nil]); first | done | rfl | (simp only [List.length_drop, List.length_take]; rfl)) ?_; (with_reducible refine (laws_ascii.calls k1 a0 true _ A18.out).mono ?_); rintro e w' ⟨rfl, ⟨nd, rfl⟩⟩; refine ⟨_, rfl, ?_⟩) | (go_at_call 33; (with_reducible refine (impl_EscapeStringLiterals.calls k1 a0 t127 _ A20.out).mono ?_); rintro e w24 ⟨rfl, hb⟩; have n0_ := Aside0.mk (below_step (by repeat (first | (with_reducible first | exact HB.out | apply below_alloc | apply pw_below_drewN | apply below_drew1) | exact HB.out)) hb); clear HB; have HB := n0_; clear n0_; (try clear hb); (try clear hb2); (try clear hk); (try clear hi)) | (go_at_call 34; (with_reducible refine (spec_Doubled.calls k1 a0 t128 _ A21.out).mono ?_); rintro e w' ⟨rfl, ⟨nd, rfl⟩⟩) | (go_at_call 14; (with_reducible refine (laws_awakeUtil.calls k1  t129 _ A23.out).mono ?_); rintro e w25 ⟨rfl, hb⟩; have n0_ := Aside0.mk (below_step (by repeat (first | (with_reducible first | exact HB.out | apply below_alloc | apply pw_below_drewN | apply below_drew1) | exact HB.out)) hb); clear HB; have HB := n0_; clear n0_; (try clear hb); (try clear hb2); (try clear hk); (try clear hi)))
              go_ret
              exact ⟨by first | rfl | (simp [errW_none, errW_some] <;> rfl) | (simp [*, errW_none, errW_some] <;> rfl), by repeat (first | (with_reducible first | exact HB.out | apply below_alloc | apply pw_below_drewN | apply below_drew1) | exact HB.out)⟩
            · rw [if_neg c22] at H
              have c22b0 : (t127.toList == t128.toList) = false := beq_eq_false_iff_ne.mpr c22
              have c22b1 : (t127.toList != t128.toList) = true := bne_iff_ne.mpr c22
              obtain rfl := Option.some.inj H
              go_wp2_with (first | ((with_reducible refine gate_callee (f := 23) rfl ?_); refine goesL_ (some 32) rfl rfl Try.func23 (by kernel_rfl) rfl #[.string a0] rfl (by (try simp only [List.map_toArray, List.map_cons, List.map_nil]); first | done | rfl | (simp only [List.length_drop, List.length_take]; rfl)) ?_; (with_reducible refine (laws_ascii.calls k1 a0 true _ A18.out).mono ?_); rintro e w' ⟨rfl, ⟨nd, rfl⟩⟩; refine ⟨_, rfl, ?_⟩) | (go_at_call 33; (with_reducible refine (impl_EscapeStringLiterals.calls k1 a0 t127 _ A20.out).mono ?_); rintro e w26 ⟨rfl, hb⟩; have n0_ := Aside0.mk (below_step (by repeat (first | (with_reducible first | exact HB.out | apply below_alloc | apply pw_below_drewN | apply below_drew1) | exact HB.out)) hb); clear HB; have HB := n0_; clear n0_; (try clear hb); (try clear hb2); (try clear hk); (try clear hi)) | (go_at_call 34; (with_reducible refine (spec_Doubled.calls k1 a0 t128 _ A21.out).mono ?_); rintro e w' ⟨rfl, ⟨nd, rfl⟩⟩))
              go_ret
              exact ⟨by first | rfl | (simp [errW_none, errW_some] <;> rfl) | (simp [*, errW_none, errW_some] <;> rfl), by repeat (first | (with_reducible first | exact HB.out | apply below_alloc | apply pw_below_drewN | apply below_drew1) | exact HB.out)⟩
          · replace c19 := Bool.eq_false_iff.mpr c19
            subst c19
            have H1 : (some true) = some r := by rw [if_neg (show ¬ (false = true) by decide)] at H; exact H
            clear H
            have H := H1
            clear H1
            obtain rfl := Option.some.inj H
            go_wp2_with (first | ((with_reducible refine gate_callee (f := 23) rfl ?_); refine goesL_ (some 32) rfl rfl Try.func23 (by kernel_rfl) rfl #[.string a0] rfl (by (try simp only [List.map_toArray, List.map_cons, List.map_nil]); first | done | rfl | (simp only [List.length_drop, List.length_take]; rfl)) ?_; (with_reducible refine (laws_ascii.calls k1 a0 false _ A18.out).mono ?_); rintro e w' ⟨rfl, ⟨nd, rfl⟩⟩; refine ⟨_, rfl, ?_⟩))
            go_ret
            exact ⟨by first | rfl | (simp [errW_none, errW_some] <;> rfl) | (simp [*, errW_none, errW_some] <;> rfl), by repeat (first | (with_reducible first | exact HB.out | apply below_alloc | apply pw_below_drewN | apply below_drew1) | exact HB.out)⟩

/-- THE ONE PURE STATEMENT of laws_FnLiterals: yours. -/
def laws_FnLiterals.Pure : Prop := ∀ (a0 : ByteArray), a0.size ≤ 140737488351232 → ∃ k, laws_FnLiterals.f k a0 = some true
theorem laws_FnLiterals.walk (P : laws_FnLiterals.Pure) (a0 : ByteArray) (w : World) (w0 : a0.size ≤ 140737488351232) :
    Calls Try.prog 8 #[.string a0] w fun e w' => e = .returned (.bool true) ∧ Below w.heap.size w w' := by
  obtain ⟨k, h⟩ := P a0 w0
  refine (laws_FnLiterals.calls k a0 true w h).mono ?_
  rintro e w' ⟨rfl, hd⟩
  exact ⟨rfl, hd⟩

end Go.Proofs.Ytnbcohabllkneaa.PFnLiterals
