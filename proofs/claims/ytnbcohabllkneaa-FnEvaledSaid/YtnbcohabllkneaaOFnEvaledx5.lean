/- The machine side of laws.FnEvaled: each function of this text answers what its Lean function answers (written for this claim by a program of this session over the kit's print; no condition beyond what each theorem says). -/
import Derived.Test.YtnbcohabllkneaaOFnEvaledx0
import Derived.Test.YtnbcohabllkneaaOFnEvaledx3
import Derived.Test.YtnbcohabllkneaaOFnEvaledx4
namespace Go.Proofs.Ytnbcohabllkneaa.PFnEvaled
open Go.RowKit Go.Proofs.YtnbcohabllkneaaW.PrintWords Go.Proofs.YtnbcohabllkneaaW.PrintLast Go.Proofs.YtnbcohabllkneaaW.PrintMore
attribute [local go_sem] max2_int min2_int max_two min_two max_three min_three max_four min_four   -- for this text's walks alone
set_option linter.unusedVariables false
set_option linter.unusedSimpArgs false

/-! ### spec_Evaled: function 25 -/
def spec_Evaled.l0 : Nat → ByteArray → ByteArray → ByteArray → Int → Option (ByteArray)
  | 0, _, _, _, _ => none
  | k + 1, x0, x1, x5, x6 => (spec_evalAt.f k x0 x6).bind fun bt135 => (if bt135.2.2.2 = true then (if 0 ≤ x6 then (if x6 ≤ bt135.1 then (if bt135.1 ≤ (x0.size : Int) then (if (x0.extract (x6 : Int).toNat (bt135.1 : Int).toNat).size + 1 ≤ 9223372036854775807 then (if ((x0.extract (x6 : Int).toNat (bt135.1 : Int).toNat) ++ (⟨#[40]⟩ : ByteArray)).size + x1.size ≤ 9223372036854775807 then (if (((x0.extract (x6 : Int).toNat (bt135.1 : Int).toNat) ++ (⟨#[40]⟩ : ByteArray)) ++ x1).size + 1 ≤ 9223372036854775807 then (if x5.size + ((((x0.extract (x6 : Int).toNat (bt135.1 : Int).toNat) ++ (⟨#[40]⟩ : ByteArray)) ++ x1) ++ (⟨#[41]⟩ : ByteArray)).size ≤ 9223372036854775807 then (spec_Evaled.l0 k x0 x1 (x5 ++ ((((x0.extract (x6 : Int).toNat (bt135.1 : Int).toNat) ++ (⟨#[40]⟩ : ByteArray)) ++ x1) ++ (⟨#[41]⟩ : ByteArray))) (wrap64 (bt135.2.2.1 + 1))) else (none)) else (none)) else (none)) else (none)) else (none)) else (none)) else (none)) else (if 0 ≤ x6 then (if x6 ≤ (x0.size : Int) then (if x5.size + (x0.extract (x6 : Int).toNat x0.size).size ≤ 9223372036854775807 then (some (x5 ++ (x0.extract (x6 : Int).toNat x0.size))) else (none)) else (none)) else (none)))
def spec_Evaled.f (k : Nat) (a0 : ByteArray) (a1 : ByteArray) : Option (ByteArray) := spec_Evaled.l0 k a0 a1 (⟨#[]⟩ : ByteArray) 0
theorem spec_Evaled.mono_l : ∀ k, (∀ y0 y1 y2 y3, LeO (spec_Evaled.l0 k y0 y1 y2 y3) (spec_Evaled.l0 (k + 1) y0 y1 y2 y3))
  | 0 => fun _ _ _ _ r h => by simp [spec_Evaled.l0] at h
  | k + 1 => by
    have ih0 := spec_Evaled.mono_l k
    · intro y0 y1 y2 y3
      unfold spec_Evaled.l0
      repeat' first
      | (with_reducible exact ih0 _ _ _ _)
      | (with_reducible exact spec_evalAt.mono _ _ _)
      | (with_reducible exact LeO.refl _)
      | (with_reducible exact LeO.none _)
      | (with_reducible refine LeO.ite ?_ ?_)
      | (with_reducible refine LeO.bind ?_ (fun _ => ?_))
      | exact ih0 _ _ _ _
      | exact spec_evalAt.mono _ _ _
      | exact LeO.none _
      | refine LeO.ite ?_ ?_
      | refine LeO.bind ?_ (fun _ => ?_)
theorem spec_Evaled.mono : ∀ a0 a1 k, LeO (spec_Evaled.f k a0 a1) (spec_Evaled.f (k + 1) a0 a1) := by
  intro a0 a1 k
  have ih0 := spec_Evaled.mono_l k
  unfold spec_Evaled.f
  repeat' first
      | (with_reducible exact ih0 _ _ _ _)
      | (with_reducible exact spec_evalAt.mono _ _ _)
      | (with_reducible exact LeO.refl _)
      | (with_reducible exact LeO.none _)
      | (with_reducible refine LeO.ite ?_ ?_)
      | (with_reducible refine LeO.bind ?_ (fun _ => ?_))
      | exact ih0 _ _ _ _
      | exact spec_evalAt.mono _ _ _
      | exact LeO.none _
      | refine LeO.ite ?_ ?_
      | refine LeO.bind ?_ (fun _ => ?_)
set_option maxHeartbeats 8000000 in
set_option maxRecDepth 100000 in
theorem spec_Evaled.calls (k : Nat) (a0 : ByteArray) (a1 : ByteArray) (r : ByteArray) (w : World) (h : spec_Evaled.f k a0 a1 = some r) :
    Calls Try.prog 25 #[.string a0, .string a1] w fun e w' => e = .returned (.string r) ∧ Drawn0 w w' := by
  have H : (spec_Evaled.l0 k a0 a1 (⟨#[]⟩ : ByteArray) 0) = some r := h
  clear h
  have H' := Aside0.mk H
  clear H
  go_enter Try.func25, Try.ntmps25
  go_wp2
  go_loopg [5, 6] k (fun kq v5 v6 w' => ∃ (x5_1 : ByteArray) (x6_1 : Int), v5 = .string x5_1 ∧ v6 = .int .i64 x6_1 ∧ Aside0 (spec_Evaled.l0 kq a0 a1 x5_1 x6_1 = some r) ∧ Aside0 (kq ≤ k) ∧ Drawn0 w w')
  case atStart => exact ⟨((⟨#[]⟩ : ByteArray)), (0), (by first | rfl | (simp; done) | (simp [*]; done)), (by first | rfl | (simp; done) | (simp [*]; done)), H', ⟨Nat.le_refl _⟩, by repeat (first | exact Drawn0.refl _ | apply Drawn0.step)⟩
  case round =>
    clear H'
    try clear c2
    try clear p2
    obtain ⟨x5_1, x6_1, rfl, rfl, HA, HK1, ⟨m1, rfl⟩⟩ := hrel
    cases gk with
    | zero => exact absurd HA.out (by simp [spec_Evaled.l0])
    | succ k1 =>
      have H := HA.out
      clear HA
      simp only [spec_Evaled.l0] at H
      replace H := Option.bind_eq_some_iff.mp H
      obtain ⟨⟨t135, t136, t137, t138⟩, A30, H⟩ := H
      replace H : (if t138 = true then (if 0 ≤ x6_1 then (if x6_1 ≤ t135 then (if t135 ≤ (a0.size : Int) then (if (a0.extract (x6_1 : Int).toNat (t135 : Int).toNat).size + 1 ≤ 9223372036854775807 then (if ((a0.extract (x6_1 : Int).toNat (t135 : Int).toNat) ++ (⟨#[40]⟩ : ByteArray)).size + a1.size ≤ 9223372036854775807 then (if (((a0.extract (x6_1 : Int).toNat (t135 : Int).toNat) ++ (⟨#[40]⟩ : ByteArray)) ++ a1).size + 1 ≤ 9223372036854775807 then (if x5_1.size + ((((a0.extract (x6_1 : Int).toNat (t135 : Int).toNat) ++ (⟨#[40]⟩ : ByteArray)) ++ a1) ++ (⟨#[41]⟩ : ByteArray)).size ≤ 9223372036854775807 then (spec_Evaled.l0 k1 a0 a1 (x5_1 ++ ((((a0.extract (x6_1 : Int).toNat (t135 : Int).toNat) ++ (⟨#[40]⟩ : ByteArray)) ++ a1) ++ (⟨#[41]⟩ : ByteArray))) (wrap64 (t137 + 1))) else (none)) else (none)) else (none)) else (none)) else (none)) else (none)) else (none)) else (if 0 ≤ x6_1 then (if x6_1 ≤ (a0.size : Int) then (if x5_1.size + (a0.extract (x6_1 : Int).toNat a0.size).size ≤ 9223372036854775807 then (some (x5_1 ++ (a0.extract (x6_1 : Int).toNat a0.size))) else (none)) else (none)) else (none))) = some r := H
      have A3 := Aside0.mk A30
      clear A30
      by_cases c4 : t138 = true
      · subst c4
        have H1 : (if 0 ≤ x6_1 then (if x6_1 ≤ t135 then (if t135 ≤ (a0.size : Int) then (if (a0.extract (x6_1 : Int).toNat (t135 : Int).toNat).size + 1 ≤ 9223372036854775807 then (if ((a0.extract (x6_1 : Int).toNat (t135 : Int).toNat) ++ (⟨#[40]⟩ : ByteArray)).size + a1.size ≤ 9223372036854775807 then (if (((a0.extract (x6_1 : Int).toNat (t135 : Int).toNat) ++ (⟨#[40]⟩ : ByteArray)) ++ a1).size + 1 ≤ 9223372036854775807 then (if x5_1.size + ((((a0.extract (x6_1 : Int).toNat (t135 : Int).toNat) ++ (⟨#[40]⟩ : ByteArray)) ++ a1) ++ (⟨#[41]⟩ : ByteArray)).size ≤ 9223372036854775807 then (spec_Evaled.l0 k1 a0 a1 (x5_1 ++ ((((a0.extract (x6_1 : Int).toNat (t135 : Int).toNat) ++ (⟨#[40]⟩ : ByteArray)) ++ a1) ++ (⟨#[41]⟩ : ByteArray))) (wrap64 (t137 + 1))) else (none)) else (none)) else (none)) else (none)) else (none)) else (none)) else (none)) = some r := by rw [if_pos rfl] at H; exact H
        clear H
        have H := H1
        clear H1
        by_cases c5 : 0 ≤ x6_1
        · rw [if_pos c5] at H
          have c5b0 := eq_true c5
          have c5b1 : decide (0 ≤ x6_1) = true := decide_eq_true c5
          clear c5
          by_cases c6 : x6_1 ≤ t135
          · rw [if_pos c6] at H
            have c6b0 := eq_true c6
            have c6b1 : decide (x6_1 ≤ t135) = true := decide_eq_true c6
            clear c6
            by_cases c7 : t135 ≤ (a0.size : Int)
            · rw [if_pos c7] at H
              have c7b0 := eq_true c7
              have c7b1 : decide (t135 ≤ (a0.size : Int)) = true := decide_eq_true c7
              clear c7
              by_cases c8 : (a0.extract (x6_1 : Int).toNat (t135 : Int).toNat).size + 1 ≤ 9223372036854775807
              · rw [if_pos c8] at H
                have c8m : (9223372036854775807 < ((t135 : Int).toNat - (x6_1 : Int).toNat) + 1) = False := eq_false (by have q := c8; simp only [ByteArray.size_append, ByteArray.size_extract] at q; have := of_decide_eq_true c7b1; omega)
                have c8b0 := eq_true c8
                have c8b1 : decide ((a0.extract (x6_1 : Int).toNat (t135 : Int).toNat).size + 1 ≤ 9223372036854775807) = true := decide_eq_true c8
                try have c8b2 : (9223372036854775807 < (a0.extract (x6_1 : Int).toNat (t135 : Int).toNat).size + 1) = False := eq_false (Nat.not_lt.2 c8)
                have c8b9 : (9223372036854775807 < (t135).toNat - (x6_1).toNat + 1) = False := eq_false (by have q := c8; rw [ByteArray.size_extract] at q; have := of_decide_eq_true c7b1; omega)
                by_cases c9 : ((a0.extract (x6_1 : Int).toNat (t135 : Int).toNat) ++ (⟨#[40]⟩ : ByteArray)).size + a1.size ≤ 9223372036854775807
                · rw [if_pos c9] at H
                  have c9n := c9
                  simp only [ByteArray.size_append, Int.natCast_add, show (⟨#[40]⟩ : ByteArray).size = 1 from rfl] at c9n
                  have c9m : (9223372036854775807 < ((t135 : Int).toNat - (x6_1 : Int).toNat) + 1 + a1.size) = False := eq_false (by have q := c9; simp only [ByteArray.size_append, ByteArray.size_extract, show (⟨#[40]⟩ : ByteArray).size = 1 from rfl] at q; have := of_decide_eq_true c7b1; omega)
                  have c9b0 := eq_true c9
                  have c9b1 : decide (((a0.extract (x6_1 : Int).toNat (t135 : Int).toNat) ++ (⟨#[40]⟩ : ByteArray)).size + a1.size ≤ 9223372036854775807) = true := decide_eq_true c9
                  try have c9b2 : (9223372036854775807 < ((a0.extract (x6_1 : Int).toNat (t135 : Int).toNat) ++ (⟨#[40]⟩ : ByteArray)).size + a1.size) = False := eq_false (Nat.not_lt.2 c9)
                  by_cases c10 : (((a0.extract (x6_1 : Int).toNat (t135 : Int).toNat) ++ (⟨#[40]⟩ : ByteArray)) ++ a1).size + 1 ≤ 9223372036854775807
                  · rw [if_pos c10] at H
                    have c10n := c10
                    simp only [ByteArray.size_append, Int.natCast_add, show (⟨#[40]⟩ : ByteArray).size = 1 from rfl] at c10n
                    have c10m : (9223372036854775807 < ((t135 : Int).toNat - (x6_1 : Int).toNat) + 1 + a1.size + 1) = False := eq_false (by have q := c10; simp only [ByteArray.size_append, ByteArray.size_extract, show (⟨#[40]⟩ : ByteArray).size = 1 from rfl] at q; have := of_decide_eq_true c7b1; omega)
                    have c10b0 := eq_true c10
                    have c10b1 : decide ((((a0.extract (x6_1 : Int).toNat (t135 : Int).toNat) ++ (⟨#[40]⟩ : ByteArray)) ++ a1).size + 1 ≤ 9223372036854775807) = true := decide_eq_true c10
                    try have c10b2 : (9223372036854775807 < (((a0.extract (x6_1 : Int).toNat (t135 : Int).toNat) ++ (⟨#[40]⟩ : ByteArray)) ++ a1).size + 1) = False := eq_false (Nat.not_lt.2 c10)
                    by_cases c11 : x5_1.size + ((((a0.extract (x6_1 : Int).toNat (t135 : Int).toNat) ++ (⟨#[40]⟩ : ByteArray)) ++ a1) ++ (⟨#[41]⟩ : ByteArray)).size ≤ 9223372036854775807
                    · rw [if_pos c11] at H
                      have c11n := c11
                      simp only [ByteArray.size_append, Int.natCast_add, show (⟨#[40]⟩ : ByteArray).size = 1 from rfl, show (⟨#[41]⟩ : ByteArray).size = 1 from rfl] at c11n
                      have c11m : (9223372036854775807 < x5_1.size + (((t135 : Int).toNat - (x6_1 : Int).toNat) + 1 + a1.size + 1)) = False := eq_false (by have q := c11; simp only [ByteArray.size_append, ByteArray.size_extract, show (⟨#[40]⟩ : ByteArray).size = 1 from rfl, show (⟨#[41]⟩ : ByteArray).size = 1 from rfl] at q; have := of_decide_eq_true c7b1; omega)
                      have c11b0 := eq_true c11
                      have c11b1 : decide (x5_1.size + ((((a0.extract (x6_1 : Int).toNat (t135 : Int).toNat) ++ (⟨#[40]⟩ : ByteArray)) ++ a1) ++ (⟨#[41]⟩ : ByteArray)).size ≤ 9223372036854775807) = true := decide_eq_true c11
                      try have c11b2 : (9223372036854775807 < x5_1.size + ((((a0.extract (x6_1 : Int).toNat (t135 : Int).toNat) ++ (⟨#[40]⟩ : ByteArray)) ++ a1) ++ (⟨#[41]⟩ : ByteArray)).size) = False := eq_false (Nat.not_lt.2 c11)
                      have H' := Aside0.mk H
                      clear H
                      go_wp2_with (first | ((with_reducible refine gate_callee (f := 46) rfl ?_); refine goesL_ (some 14) rfl rfl Try.func46 (by kernel_rfl) rfl #[.string a0, .int .i64 x6_1] rfl (by (try simp only [List.map_toArray, List.map_cons, List.map_nil]); first | done | rfl | (simp only [List.length_drop, List.length_take]; rfl)) ?_; (with_reducible refine (spec_evalAt.calls k1 a0 x6_1 t135 t136 t137 true _ A3.out).mono ?_); rintro e w' ⟨rfl, ⟨nd, rfl⟩⟩; refine ⟨_, rfl, ?_⟩))
                      go_roundg k1
                      case measure => have := HK1.out; omega
                      case rel => exact ⟨(x5_1 ++ ((((a0.extract (x6_1 : Int).toNat (t135 : Int).toNat) ++ (⟨#[40]⟩ : ByteArray)) ++ a1) ++ (⟨#[41]⟩ : ByteArray))), (wrap64 (t137 + 1)), (by first | rfl | (simp; done) | (simp [*]; done)), (by first | rfl | (simp; done) | (simp [*]; done)), H', ⟨by have := HK1.out; omega⟩, by repeat (first | exact Drawn0.refl _ | apply Drawn0.step)⟩
                    · rw [if_neg c11] at H
                      have c11n := c11
                      simp only [ByteArray.size_append, Int.natCast_add, show (⟨#[40]⟩ : ByteArray).size = 1 from rfl, show (⟨#[41]⟩ : ByteArray).size = 1 from rfl] at c11n
                      exact absurd H (by simp)
                  · rw [if_neg c10] at H
                    have c10n := c10
                    simp only [ByteArray.size_append, Int.natCast_add, show (⟨#[40]⟩ : ByteArray).size = 1 from rfl] at c10n
                    exact absurd H (by simp)
                · rw [if_neg c9] at H
                  have c9n := c9
                  simp only [ByteArray.size_append, Int.natCast_add, show (⟨#[40]⟩ : ByteArray).size = 1 from rfl] at c9n
                  exact absurd H (by simp)
              · rw [if_neg c8] at H
                exact absurd H (by simp)
            · rw [if_neg c7] at H
              exact absurd H (by simp)
          · rw [if_neg c6] at H
            exact absurd H (by simp)
        · rw [if_neg c5] at H
          exact absurd H (by simp)
      · replace c4 := Bool.eq_false_iff.mpr c4
        subst c4
        have H1 : (if 0 ≤ x6_1 then (if x6_1 ≤ (a0.size : Int) then (if x5_1.size + (a0.extract (x6_1 : Int).toNat a0.size).size ≤ 9223372036854775807 then (some (x5_1 ++ (a0.extract (x6_1 : Int).toNat a0.size))) else (none)) else (none)) else (none)) = some r := by rw [if_neg (show ¬ (false = true) by decide)] at H; exact H
        clear H
        have H := H1
        clear H1
        by_cases c12 : 0 ≤ x6_1
        · rw [if_pos c12] at H
          have c12b0 := eq_true c12
          have c12b1 : decide (0 ≤ x6_1) = true := decide_eq_true c12
          clear c12
          by_cases c13 : x6_1 ≤ (a0.size : Int)
          · rw [if_pos c13] at H
            have c13b0 := eq_true c13
            have c13b1 : decide (x6_1 ≤ (a0.size : Int)) = true := decide_eq_true c13
            clear c13
            by_cases c14 : x5_1.size + (a0.extract (x6_1 : Int).toNat a0.size).size ≤ 9223372036854775807
            · rw [if_pos c14] at H
              have c14b0 := eq_true c14
              have c14b1 : decide (x5_1.size + (a0.extract (x6_1 : Int).toNat a0.size).size ≤ 9223372036854775807) = true := decide_eq_true c14
              try have c14b2 : (9223372036854775807 < x5_1.size + (a0.extract (x6_1 : Int).toNat a0.size).size) = False := eq_false (Nat.not_lt.2 c14)
              obtain rfl := Option.some.inj H
              go_wp2_with (first | ((with_reducible refine gate_callee (f := 46) rfl ?_); refine goesL_ (some 14) rfl rfl Try.func46 (by kernel_rfl) rfl #[.string a0, .int .i64 x6_1] rfl (by (try simp only [List.map_toArray, List.map_cons, List.map_nil]); first | done | rfl | (simp only [List.length_drop, List.length_take]; rfl)) ?_; (with_reducible refine (spec_evalAt.calls k1 a0 x6_1 t135 t136 t137 false _ A3.out).mono ?_); rintro e w' ⟨rfl, ⟨nd, rfl⟩⟩; refine ⟨_, rfl, ?_⟩))
              go_ret
              exact ⟨by first | rfl | (simp; done) | (simp [*]; done), by repeat (first | exact Drawn0.refl _ | apply Drawn0.step)⟩
            · rw [if_neg c14] at H
              exact absurd H (by simp)
          · rw [if_neg c13] at H
            exact absurd H (by simp)
        · rw [if_neg c12] at H
          exact absurd H (by simp)

/-! ### laws_FnEvaled: function 5 -/
mutual
def laws_FnEvaled.j0 : Nat → ByteArray → ByteArray → Bool → Option (Bool)
  | 0, _, _, _ => none
  | k + 1, x0, x1, x13 => if x13 = true then (some true) else ((laws_ascii.f k x0).bind fun t139 => (if t139 = true then ((laws_ascii.f k x1).bind fun t140 => (laws_FnEvaled.j1 k x0 x1 (!t140))) else (laws_FnEvaled.j1 k x0 x1 true)))
def laws_FnEvaled.j1 : Nat → ByteArray → ByteArray → Bool → Option (Bool)
  | 0, _, _, _ => none
  | k + 1, x0, x1, x21 => if x21 = true then ((laws_awakeUtil.f k).bind fun t141 => (some t141)) else (laws_FnEvaled.l0 k x0 x1 0)
def laws_FnEvaled.l0 : Nat → ByteArray → ByteArray → Int → Option (Bool)
  | 0, _, _, _ => none
  | k + 1, x0, x1, x5 => if x5 < (x1.size : Int) then (if 0 ≤ x5 then (if (bt x1 x5) = 36 then ((laws_awakeUtil.f k).bind fun t142 => (some t142)) else (laws_FnEvaled.l0 k x0 x1 (wrap64 (x5 + 1)))) else (none)) else ((impl_ReplaceEval.f k x0 x1).bind fun t143 => ((spec_Evaled.f k x0 x1).bind fun t144 => (if t143.toList = t144.toList then ((laws_awakeUtil.f k).bind fun t145 => (some t145)) else (some false))))
end
def laws_FnEvaled.f (k : Nat) (a0 : ByteArray) (a1 : ByteArray) : Option (Bool) := if (a0.size : Int) > 2147483647 then (laws_FnEvaled.j0 k a0 a1 true) else (laws_FnEvaled.j0 k a0 a1 (decide ((a1.size : Int) > 2147483647)))
theorem laws_FnEvaled.mono_l : ∀ k, (∀ y0 y1 y2, LeO (laws_FnEvaled.j0 k y0 y1 y2) (laws_FnEvaled.j0 (k + 1) y0 y1 y2)) ∧ (∀ y0 y1 y2, LeO (laws_FnEvaled.j1 k y0 y1 y2) (laws_FnEvaled.j1 (k + 1) y0 y1 y2)) ∧ (∀ y0 y1 y2, LeO (laws_FnEvaled.l0 k y0 y1 y2) (laws_FnEvaled.l0 (k + 1) y0 y1 y2))
  | 0 => ⟨fun _ _ _ r h => by simp [laws_FnEvaled.j0] at h, fun _ _ _ r h => by simp [laws_FnEvaled.j1] at h, fun _ _ _ r h => by simp [laws_FnEvaled.l0] at h⟩
  | k + 1 => by
    obtain ⟨ih0, ih1, ih2⟩ := laws_FnEvaled.mono_l k
    refine ⟨?_, ?_, ?_⟩
    · intro y0 y1 y2
      unfold laws_FnEvaled.j0
      repeat' first
      | (with_reducible exact ih0 _ _ _)
      | (with_reducible exact ih1 _ _ _)
      | (with_reducible exact ih2 _ _ _)
      | (with_reducible exact impl_ReplaceEval.mono _ _ _)
      | (with_reducible exact laws_ascii.mono _ _)
      | (with_reducible exact laws_awakeUtil.mono _)
      | (with_reducible exact spec_Evaled.mono _ _ _)
      | (with_reducible exact LeO.refl _)
      | (with_reducible exact LeO.none _)
      | (with_reducible refine LeO.ite ?_ ?_)
      | (with_reducible refine LeO.bind ?_ (fun _ => ?_))
      | exact ih0 _ _ _
      | exact ih1 _ _ _
      | exact ih2 _ _ _
      | exact impl_ReplaceEval.mono _ _ _
      | exact laws_ascii.mono _ _
      | exact laws_awakeUtil.mono _
      | exact spec_Evaled.mono _ _ _
      | exact LeO.none _
      | refine LeO.ite ?_ ?_
      | refine LeO.bind ?_ (fun _ => ?_)
    · intro y0 y1 y2
      unfold laws_FnEvaled.j1
      repeat' first
      | (with_reducible exact ih0 _ _ _)
      | (with_reducible exact ih1 _ _ _)
      | (with_reducible exact ih2 _ _ _)
      | (with_reducible exact impl_ReplaceEval.mono _ _ _)
      | (with_reducible exact laws_ascii.mono _ _)
      | (with_reducible exact laws_awakeUtil.mono _)
      | (with_reducible exact spec_Evaled.mono _ _ _)
      | (with_reducible exact LeO.refl _)
      | (with_reducible exact LeO.none _)
      | (with_reducible refine LeO.ite ?_ ?_)
      | (with_reducible refine LeO.bind ?_ (fun _ => ?_))
      | exact ih0 _ _ _
      | exact ih1 _ _ _
      | exact ih2 _ _ _
      | exact impl_ReplaceEval.mono _ _ _
      | exact laws_ascii.mono _ _
      | exact laws_awakeUtil.mono _
      | exact spec_Evaled.mono _ _ _
      | exact LeO.none _
      | refine LeO.ite ?_ ?_
      | refine LeO.bind ?_ (fun _ => ?_)
    · intro y0 y1 y2
      unfold laws_FnEvaled.l0
      repeat' first
      | (with_reducible exact ih0 _ _ _)
      | (with_reducible exact ih1 _ _ _)
      | (with_reducible exact ih2 _ _ _)
      | (with_reducible exact impl_ReplaceEval.mono _ _ _)
      | (with_reducible exact laws_ascii.mono _ _)
      | (with_reducible exact laws_awakeUtil.mono _)
      | (with_reducible exact spec_Evaled.mono _ _ _)
      | (with_reducible exact LeO.refl _)
      | (with_reducible exact LeO.none _)
      | (with_reducible refine LeO.ite ?_ ?_)
      | (with_reducible refine LeO.bind ?_ (fun _ => ?_))
      | exact ih0 _ _ _
      | exact ih1 _ _ _
      | exact ih2 _ _ _
      | exact impl_ReplaceEval.mono _ _ _
      | exact laws_ascii.mono _ _
      | exact laws_awakeUtil.mono _
      | exact spec_Evaled.mono _ _ _
      | exact LeO.none _
      | refine LeO.ite ?_ ?_
      | refine LeO.bind ?_ (fun _ => ?_)
theorem laws_FnEvaled.mono : ∀ a0 a1 k, LeO (laws_FnEvaled.f k a0 a1) (laws_FnEvaled.f (k + 1) a0 a1) := by
  intro a0 a1 k
  obtain ⟨ih0, ih1, ih2⟩ := laws_FnEvaled.mono_l k
  unfold laws_FnEvaled.f
  repeat' first
      | (with_reducible exact ih0 _ _ _)
      | (with_reducible exact ih1 _ _ _)
      | (with_reducible exact ih2 _ _ _)
      | (with_reducible exact impl_ReplaceEval.mono _ _ _)
      | (with_reducible exact laws_ascii.mono _ _)
      | (with_reducible exact laws_awakeUtil.mono _)
      | (with_reducible exact spec_Evaled.mono _ _ _)
      | (with_reducible exact LeO.refl _)
      | (with_reducible exact LeO.none _)
      | (with_reducible refine LeO.ite ?_ ?_)
      | (with_reducible refine LeO.bind ?_ (fun _ => ?_))
      | exact ih0 _ _ _
      | exact ih1 _ _ _
      | exact ih2 _ _ _
      | exact impl_ReplaceEval.mono _ _ _
      | exact laws_ascii.mono _ _
      | exact laws_awakeUtil.mono _
      | exact spec_Evaled.mono _ _ _
      | exact LeO.none _
      | refine LeO.ite ?_ ?_
      | refine LeO.bind ?_ (fun _ => ?_)
set_option maxHeartbeats 8000000 in
set_option maxRecDepth 100000 in
theorem laws_FnEvaled.calls (k : Nat) (a0 : ByteArray) (a1 : ByteArray) (r : Bool) (w : World) (h : laws_FnEvaled.f k a0 a1 = some r) :
    Calls Try.prog 5 #[.string a0, .string a1] w fun e w' => e = .returned (.bool r) ∧ Below w.heap.size w w' := by
  have HB := Aside0.mk (Below.refl w.heap.size w)
  have H : (if (a0.size : Int) > 2147483647 then (laws_FnEvaled.j0 k a0 a1 true) else (laws_FnEvaled.j0 k a0 a1 (decide ((a1.size : Int) > 2147483647)))) = some r := h
  clear h
  have HC3 := Aside0.mk H
  clear H
  go_enter Try.func5, Try.ntmps5
  go_upto_region 1 with (fail)
  go_cut [13] (fun v13 wc => ∃ (kq : Nat) (x13_2 : Bool), v13 = .bool x13_2 ∧ Aside0 (laws_FnEvaled.j0 kq a0 a1 x13_2 = some r) ∧ Aside0 (kq ≤ k) ∧ Aside0 (Below w.heap.size w wc))
  case first =>
    have H := HC3.out
    clear HC3
    by_cases c4 : (a0.size : Int) > 2147483647
    · rw [if_pos c4] at H
      have c4b0 : decide (2147483647 < (a0.size : Int)) = true := decide_eq_true c4
      have c4b1 : decide (2147483647 < a0.size) = true := decide_eq_true (by omega)
      clear c4
      (first | rw [c4b0] | (simp only [i64_w, i32_w]; rw [c4b0]) | skip)
      have H' := Aside0.mk H
      clear H
      go_wp2
      go_meet
      case rel => exact ⟨_, (true), (by first | rfl | (simp; done) | (simp [*]; done)), H', ⟨by first | omega | exact Nat.le_refl _⟩, ⟨by repeat (first | (with_reducible first | exact HB.out | apply below_alloc | apply pw_below_drewN | apply below_drew1) | exact HB.out)⟩⟩
    · rw [if_neg c4] at H
      have c4b0 : decide (2147483647 < (a0.size : Int)) = false := decide_eq_false c4
      have c4b1 : decide (2147483647 < a0.size) = false := decide_eq_false (by omega)
      clear c4
      (first | rw [c4b0] | (simp only [i64_w, i32_w]; rw [c4b0]) | skip)
      have H' := Aside0.mk H
      clear H
      go_wp2
      go_meet
      case rel => exact ⟨_, (decide ((a1.size : Int) > 2147483647)), (by first | rfl | (simp; done) | (simp [*]; done)), H', ⟨by first | omega | exact Nat.le_refl _⟩, ⟨by repeat (first | (with_reducible first | exact HB.out | apply below_alloc | apply pw_below_drewN | apply below_drew1) | exact HB.out)⟩⟩
  case rest =>
    clear HC3
    try clear p2
    try clear c4
    try clear c4b0
    try clear c4b1
    obtain ⟨kq, x13_2, rfl, HA, HJ2, HB⟩ := hcut
    cases kq with
    | zero => exact absurd HA.out (by simp [laws_FnEvaled.j0])
    | succ kj2 =>
      have H := HA.out
      clear HA
      simp only [laws_FnEvaled.j0] at H
      by_cases c5 : x13_2 = true
      · subst c5
        have H1 : (some true) = some r := by rw [if_pos rfl] at H; exact H
        clear H
        have H := H1
        clear H1
        obtain rfl := Option.some.inj H
        go_wp2
        go_ret
        exact ⟨by first | rfl | (simp [errW_none, errW_some] <;> rfl) | (simp [*, errW_none, errW_some] <;> rfl), by repeat (first | (with_reducible first | exact HB.out | apply below_alloc | apply pw_below_drewN | apply below_drew1) | exact HB.out)⟩
      · replace c5 := Bool.eq_false_iff.mpr c5
        subst c5
        have H1 : ((laws_ascii.f kj2 a0).bind fun t139 => (if t139 = true then ((laws_ascii.f kj2 a1).bind fun t140 => (laws_FnEvaled.j1 kj2 a0 a1 (!t140))) else (laws_FnEvaled.j1 kj2 a0 a1 true))) = some r := by rw [if_neg (show ¬ (false = true) by decide)] at H; exact H
        clear H
        have H := H1
        clear H1
        have HC6 := Aside0.mk H
        clear H
        go_upto_region 3 with (fail)
        go_cut [21] (fun v21 wc => ∃ (kq : Nat) (x21_5 : Bool), v21 = .bool x21_5 ∧ Aside0 (laws_FnEvaled.j1 kq a0 a1 x21_5 = some r) ∧ Aside0 (kq ≤ kj2) ∧ Aside0 (Below w.heap.size w wc))
        case first =>
          have H := HC6.out
          clear HC6
          replace H := Option.bind_eq_some_iff.mp H
          obtain ⟨t139, A70, H⟩ := H
          replace H : (if t139 = true then ((laws_ascii.f kj2 a1).bind fun t140 => (laws_FnEvaled.j1 kj2 a0 a1 (!t140))) else (laws_FnEvaled.j1 kj2 a0 a1 true)) = some r := H
          have A7 := Aside0.mk A70
          clear A70
          by_cases c8 : t139 = true
          · subst c8
            have H1 : ((laws_ascii.f kj2 a1).bind fun t140 => (laws_FnEvaled.j1 kj2 a0 a1 (!t140))) = some r := by rw [if_pos rfl] at H; exact H
            clear H
            have H := H1
            clear H1
            replace H := Option.bind_eq_some_iff.mp H
            obtain ⟨t140, A90, H⟩ := H
            replace H : (laws_FnEvaled.j1 kj2 a0 a1 (!t140)) = some r := H
            have A9 := Aside0.mk A90
            clear A90
            have H' := Aside0.mk H
            clear H
            go_wp2_with (first | ((with_reducible refine gate_callee (f := 23) rfl ?_); refine goesL_ (some 15) rfl rfl Try.func23 (by kernel_rfl) rfl #[.string a0] rfl (by (try simp only [List.map_toArray, List.map_cons, List.map_nil]); first | done | rfl | (simp only [List.length_drop, List.length_take]; rfl)) ?_; (with_reducible refine (laws_ascii.calls kj2 a0 true _ A7.out).mono ?_); rintro e w' ⟨rfl, ⟨nd, rfl⟩⟩; refine ⟨_, rfl, ?_⟩) | (go_at_call 23; (with_reducible refine (laws_ascii.calls kj2 a1 t140 _ A9.out).mono ?_); rintro e w' ⟨rfl, ⟨nd, rfl⟩⟩))
            go_meet
            case rel => exact ⟨_, (!t140), (by first | rfl | (simp; done) | (simp [*]; done)), H', ⟨by have := HJ2.out; first | omega | exact Nat.le_refl _⟩, ⟨by repeat (first | (with_reducible first | exact HB.out | apply below_alloc | apply pw_below_drewN | apply below_drew1) | exact HB.out)⟩⟩
          · replace c8 := Bool.eq_false_iff.mpr c8
            subst c8
            have H1 : (laws_FnEvaled.j1 kj2 a0 a1 true) = some r := by rw [if_neg (show ¬ (false = true) by decide)] at H; exact H
            clear H
            have H := H1
            clear H1
            have H' := Aside0.mk H
            clear H
            go_wp2_with (first | ((with_reducible refine gate_callee (f := 23) rfl ?_); refine goesL_ (some 15) rfl rfl Try.func23 (by kernel_rfl) rfl #[.string a0] rfl (by (try simp only [List.map_toArray, List.map_cons, List.map_nil]); first | done | rfl | (simp only [List.length_drop, List.length_take]; rfl)) ?_; (with_reducible refine (laws_ascii.calls kj2 a0 false _ A7.out).mono ?_); rintro e w' ⟨rfl, ⟨nd, rfl⟩⟩; refine ⟨_, rfl, ?_⟩))
            go_meet
            case rel => exact ⟨_, (true), (by first | rfl | (simp; done) | (simp [*]; done)), H', ⟨by have := HJ2.out; first | omega | exact Nat.le_refl _⟩, ⟨by repeat (first | (with_reducible first | exact HB.out | apply below_alloc | apply pw_below_drewN | apply below_drew1) | exact HB.out)⟩⟩
        case rest =>
          clear HC6
          try clear c2
          try clear p2
          try clear c4
          try clear c4b0
          try clear c4b1
          try clear c5
          try clear c8
          try clear p2
          obtain ⟨kq, x21_5, rfl, HA, HJ5, HB⟩ := hcut
          cases kq with
          | zero => exact absurd HA.out (by simp [laws_FnEvaled.j1])
          | succ kj5 =>
            have H := HA.out
            clear HA
            simp only [laws_FnEvaled.j1] at H
            by_cases c10 : x21_5 = true
            · subst c10
              have H1 : ((laws_awakeUtil.f kj5).bind fun t141 => (some t141)) = some r := by rw [if_pos rfl] at H; exact H
              clear H
              have H := H1
              clear H1
              replace H := Option.bind_eq_some_iff.mp H
              obtain ⟨t141, A110, H⟩ := H
              replace H : (some t141) = some r := H
              have A11 := Aside0.mk A110
              clear A110
              obtain rfl := Option.some.inj H
              go_wp2_with (first | ((with_reducible refine gate_callee (f := 14) rfl ?_); refine goesL_ (some 22) rfl rfl Try.func14 (by kernel_rfl) rfl #[] rfl (by (try simp only [List.map_toArray, List.map_cons, List.map_nil]); first | done | rfl | (simp only [List.length_drop, List.length_take]; rfl)) ?_; (with_reducible refine (laws_awakeUtil.calls kj5  t141 _ A11.out).mono ?_); rintro e w12 ⟨rfl, hb⟩; refine ⟨_, rfl, ?_⟩; have n0_ := Aside0.mk (below_step (by repeat (first | (with_reducible first | exact HB.out | apply below_alloc | apply pw_below_drewN | apply below_drew1) | exact HB.out)) hb); clear HB; have HB := n0_; clear n0_; (try clear hb); (try clear hb2); (try clear hk); (try clear hi)))
              go_ret
              exact ⟨by first | rfl | (simp [errW_none, errW_some] <;> rfl) | (simp [*, errW_none, errW_some] <;> rfl), by repeat (first | (with_reducible first | exact HB.out | apply below_alloc | apply pw_below_drewN | apply below_drew1) | exact HB.out)⟩
            · replace c10 := Bool.eq_false_iff.mpr c10
              subst c10
              have H1 : (laws_FnEvaled.l0 kj5 a0 a1 0) = some r := by rw [if_neg (show ¬ (false = true) by decide)] at H; exact H
              clear H
              have H := H1
              clear H1
              have H' := Aside0.mk H
              clear H
              go_wp2
              go_loopg [5] kj5 (fun kq v5 w' => ∃ (x5_3 : Int), v5 = .int .i64 x5_3 ∧ Aside0 (laws_FnEvaled.l0 kq a0 a1 x5_3 = some r) ∧ Aside0 (kq ≤ kj5) ∧ Aside0 (Below w.heap.size w w'))
              case atStart => exact ⟨(0), (by first | rfl | (simp; done) | (simp [*]; done)), H', ⟨Nat.le_refl _⟩, ⟨by repeat (first | (with_reducible first | exact HB.out | apply below_alloc | apply pw_below_drewN | apply below_drew1) | exact HB.out)⟩⟩
              case round =>
                clear H'
                try clear c1
                try clear c2
                try clear p2
                try clear c4
                try clear c4b0
                try clear c4b1
                try clear c5
                try clear c8
                try clear c10
                try clear p2
                obtain ⟨x5_3, rfl, HA, HK3, HB⟩ := hrel
                cases gk with
                | zero => exact absurd HA.out (by simp [laws_FnEvaled.l0])
                | succ k3 =>
                  have H := HA.out
                  clear HA
                  simp only [laws_FnEvaled.l0] at H
                  by_cases c13 : x5_3 < (a1.size : Int)
                  · rw [if_pos c13] at H
                    have c13b0 : decide (x5_3 < (a1.size : Int)) = true := decide_eq_true c13
                    clear c13
                    by_cases c14 : 0 ≤ x5_3
                    · rw [if_pos c14] at H
                      have c14b0 : decide (0 ≤ x5_3) = true := decide_eq_true c14
                      clear c14
                      by_cases c16 : (bt a1 x5_3) = 36
                      · rw [if_pos c16] at H
                        have c16b0 : ((bt a1 x5_3) == 36) = true := beq_iff_eq.mpr c16
                        have c16b1 : ((bt a1 x5_3) != 36) = false := bne_eq_false_iff_eq.mpr c16
                        clear c16
                        replace H := Option.bind_eq_some_iff.mp H
                        obtain ⟨t142, A170, H⟩ := H
                        replace H : (some t142) = some r := H
                        have A17 := Aside0.mk A170
                        clear A170
                        obtain rfl := Option.some.inj H
                        have p15 : 0 ≤ (x5_3 : Int) := of_decide_eq_true (by first | (with_reducible assumption) | assumption)
                        have q15 : x5_3 < (a1.size : Int) := of_decide_eq_true (by first | (with_reducible assumption) | assumption)
                        have hx15 := bt_at a1 x5_3
                        replace p15 := eq_true p15
                        replace q15 := eq_true q15
                        go_wp2_with (first | ((with_reducible refine gate_callee (f := 14) rfl ?_); refine goesL_ (some 33) rfl rfl Try.func14 (by kernel_rfl) rfl #[] rfl (by (try simp only [List.map_toArray, List.map_cons, List.map_nil]); first | done | rfl | (simp only [List.length_drop, List.length_take]; rfl)) ?_; (with_reducible refine (laws_awakeUtil.calls k3  t142 _ A17.out).mono ?_); rintro e w18 ⟨rfl, hb⟩; refine ⟨_, rfl, ?_⟩; have n0_ := Aside0.mk (below_step (by repeat (first | (with_reducible first | exact HB.out | apply below_alloc | apply pw_below_drewN | apply below_drew1) | exact HB.out)) hb); clear HB; have HB := n0_; clear n0_; (try clear hb); (try clear hb2); (try clear hk); (try clear hi)))
                        go_ret
                        exact ⟨by first | rfl | (simp [errW_none, errW_some] <;> rfl) | (simp [*, errW_none, errW_some] <;> rfl), by repeat (first | (with_reducible first | exact HB.out | apply below_alloc | apply pw_below_drewN | apply below_drew1) | exact HB.out)⟩
                      · rw [if_neg c16] at H
                        have c16b0 : ((bt a1 x5_3) == 36) = false := beq_eq_false_iff_ne.mpr c16
                        have c16b1 : ((bt a1 x5_3) != 36) = true := bne_iff_ne.mpr c16
                        have H' := Aside0.mk H
                        clear H
                        have p15 : 0 ≤ (x5_3 : Int) := of_decide_eq_true (by first | (with_reducible assumption) | assumption)
                        have q15 : x5_3 < (a1.size : Int) := of_decide_eq_true (by first | (with_reducible assumption) | assumption)
                        have hx15 := bt_at a1 x5_3
                        replace p15 := eq_true p15
                        replace q15 := eq_true q15
                        go_wp2
                        go_roundg k3
                        case measure => have := HJ2.out; have := HJ5.out; have := HK3.out; omega
                        case rel => exact ⟨(wrap64 (x5_3 + 1)), (by first | rfl | (simp; done) | (simp [*]; done)), H', ⟨by have := HJ2.out; have := HJ5.out; have := HK3.out; omega⟩, ⟨by repeat (first | (with_reducible first | exact HB.out | apply below_alloc | apply pw_below_drewN | apply below_drew1) | exact HB.out)⟩⟩
                    · rw [if_neg c14] at H
                      exact absurd H (by simp)
                  · rw [if_neg c13] at H
                    have c13b0 : decide (x5_3 < (a1.size : Int)) = false := decide_eq_false c13
                    clear c13
                    replace H := Option.bind_eq_some_iff.mp H
                    obtain ⟨t143, A190, H⟩ := H
                    replace H : ((spec_Evaled.f k3 a0 a1).bind fun t144 => (if t143.toList = t144.toList then ((laws_awakeUtil.f k3).bind fun t145 => (some t145)) else (some false))) = some r := H
                    have A19 := Aside0.mk A190
                    clear A190
                    replace H := Option.bind_eq_some_iff.mp H
                    obtain ⟨t144, A200, H⟩ := H
                    replace H : (if t143.toList = t144.toList then ((laws_awakeUtil.f k3).bind fun t145 => (some t145)) else (some false)) = some r := H
                    have A20 := Aside0.mk A200
                    clear A200
                    by_cases c21 : t143.toList = t144.toList
                    · rw [if_pos c21] at H
                      have c21b0 : (t143.toList == t144.toList) = true := beq_iff_eq.mpr c21
                      have c21b1 : (t143.toList != t144.toList) = false := bne_eq_false_iff_eq.mpr c21
                      clear c21
                      replace H := Option.bind_eq_some_iff.mp H
                      obtain ⟨t145, A220, H⟩ := H
                      replace H : (some t145) = some r := H
                      have A22 := Aside0.mk A220
                      clear A220
                      obtain rfl := Option.some.inj H
                      go_wp2_with (first | ((with_reducible refine gate_callee (f := 24) rfl ?_); refine goesL_ (some 36) rfl rfl Try.func24 (by kernel_rfl) rfl #[.string a0, .string a1] rfl (by (try simp only [List.map_toArray, List.map_cons, List.map_nil]); first | done | rfl | (simp only [List.length_drop, List.length_take]; rfl)) ?_; (with_reducible refine (impl_ReplaceEval.calls k3 a0 a1 t143 _ A19.out).mono ?_); rintro e w23 ⟨rfl, hb⟩; refine ⟨_, rfl, ?_⟩; have n0_ := Aside0.mk (below_step (by repeat (first | (with_reducible first | exact HB.out | apply below_alloc | apply pw_below_drewN | apply below_drew1) | exact HB.out)) hb); clear HB; have HB := n0_; clear n0_; (try clear hb); (try clear hb2); (try clear hk); (try clear hi)) | ((with_reducible refine gate_callee (f := 25) rfl ?_); refine goesL_ (some 39) rfl rfl Try.func25 (by kernel_rfl) rfl #[.string a0, .string a1] rfl (by (try simp only [List.map_toArray, List.map_cons, List.map_nil]); first | done | rfl | (simp only [List.length_drop, List.length_take]; rfl)) ?_; (with_reducible refine (spec_Evaled.calls k3 a0 a1 t144 _ A20.out).mono ?_); rintro e w' ⟨rfl, ⟨nd, rfl⟩⟩; refine ⟨_, rfl, ?_⟩) | (go_at_call 14; (with_reducible refine (laws_awakeUtil.calls k3  t145 _ A22.out).mono ?_); rintro e w24 ⟨rfl, hb⟩; have n0_ := Aside0.mk (below_step (by repeat (first | (with_reducible first | exact HB.out | apply below_alloc | apply pw_below_drewN | apply below_drew1) | exact HB.out)) hb); clear HB; have HB := n0_; clear n0_; (try clear hb); (try clear hb2); (try clear hk); (try clear hi)))
                      go_ret
                      exact ⟨by first | rfl | (simp [errW_none, errW_some] <;> rfl) | (simp [*, errW_none, errW_some] <;> rfl), by repeat (first | (with_reducible first | exact HB.out | apply below_alloc | apply pw_below_drewN | apply below_drew1) | exact HB.out)⟩
                    · rw [if_neg c21] at H
                      have c21b0 : (t143.toList == t144.toList) = false := beq_eq_false_iff_ne.mpr c21
                      have c21b1 : (t143.toList != t144.toList) = true := bne_iff_ne.mpr c21
                      obtain rfl := Option.some.inj H
                      go_wp2_with (first | ((with_reducible refine gate_callee (f := 24) rfl ?_); refine goesL_ (some 36) rfl rfl Try.func24 (by kernel_rfl) rfl #[.string a0, .string a1] rfl (by (try simp only [List.map_toArray, List.map_cons, List.map_nil]); first | done | rfl | (simp only [List.length_drop, List.length_take]; rfl)) ?_; (with_reducible refine (impl_ReplaceEval.calls k3 a0 a1 t143 _ A19.out).mono ?_); rintro e w25 ⟨rfl, hb⟩; refine ⟨_, rfl, ?_⟩; have n0_ := Aside0.mk (below_step (by repeat (first | (with_reducible first | exact HB.out | apply below_alloc | apply pw_below_drewN | apply below_drew1) | exact HB.out)) hb); clear HB; have HB := n0_; clear n0_; (try clear hb); (try clear hb2); (try clear hk); (try clear hi)) | ((with_reducible refine gate_callee (f := 25) rfl ?_); refine goesL_ (some 39) rfl rfl Try.func25 (by kernel_rfl) rfl #[.string a0, .string a1] rfl (by (try simp only [List.map_toArray, List.map_cons, List.map_nil]); first | done | rfl | (simp only [List.length_drop, List.length_take]; rfl)) ?_; (with_reducible refine (spec_Evaled.calls k3 a0 a1 t144 _ A20.out).mono ?_); rintro e w' ⟨rfl, ⟨nd, rfl⟩⟩; refine ⟨_, rfl, ?_⟩))
                      go_ret
                      exact ⟨by first | rfl | (simp [errW_none, errW_some] <;> rfl) | (simp [*, errW_none, errW_some] <;> rfl), by repeat (first | (with_reducible first | exact HB.out | apply below_alloc | apply pw_below_drewN | apply below_drew1) | exact HB.out)⟩

/-- THE ONE PURE STATEMENT of laws_FnEvaled: yours. -/
def laws_FnEvaled.Pure : Prop := ∀ (a0 : ByteArray) (a1 : ByteArray), a0.size ≤ 140737488351232 → a1.size ≤ 140737488351232 → ∃ k, laws_FnEvaled.f k a0 a1 = some true
theorem laws_FnEvaled.walk (P : laws_FnEvaled.Pure) (a0 : ByteArray) (a1 : ByteArray) (w : World) (w0 : a0.size ≤ 140737488351232) (w1 : a1.size ≤ 140737488351232) :
    Calls Try.prog 5 #[.string a0, .string a1] w fun e w' => e = .returned (.bool true) ∧ Below w.heap.size w w' := by
  obtain ⟨k, h⟩ := P a0 a1 w0 w1
  refine (laws_FnEvaled.calls k a0 a1 true w h).mono ?_
  rintro e w' ⟨rfl, hd⟩
  exact ⟨rfl, hd⟩

end Go.Proofs.Ytnbcohabllkneaa.PFnEvaled
