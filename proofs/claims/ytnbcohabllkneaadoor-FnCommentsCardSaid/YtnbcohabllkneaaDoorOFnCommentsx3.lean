/- The machine side of laws.FnComments: each function of this text answers what its Lean function answers (written for this claim by a program of this session over the kit's print; no condition beyond what each theorem says). -/
import Derived.Test.YtnbcohabllkneaaDoorOFnCommentsx0
import Derived.Test.YtnbcohabllkneaaDoorOFnCommentsx1
import Derived.Test.YtnbcohabllkneaaDoorOFnCommentsx2
namespace Go.Proofs.YtnbcohabllkneaaDoor.PFnComments
open Go.RowKit Go.Proofs.YtnbcohabllkneaaDoorW.PrintWords Go.Proofs.YtnbcohabllkneaaDoorW.PrintLast Go.Proofs.YtnbcohabllkneaaDoorW.PrintMore
attribute [local go_sem] max2_int min2_int max_two min_two max_three min_three max_four min_four   -- for this text's walks alone
set_option linter.unusedVariables false
set_option linter.unusedSimpArgs false

/-! ### util_zzEscape: function 21 -/
mutual
def util_zzEscape.l0 : Nat → ByteArray → ByteArray → Int → Option (ByteArray)
  | 0, _, _, _ => none
  | k + 1, x0, x3, x4 => if x4 < (x0.size : Int) then (if 0 ≤ x4 then ((util_zzBefore.f (bt x0 x4)).bind fun t108 => (if t108 = true then ((util_zzName.f k x0 (wrap64 (x4 + 1))).bind fun t109 => (util_zzEscape.j1 k x0 x3 x4 x4 t109)) else (util_zzEscape.j1 k x0 x3 x4 x4 (-1)))) else (none)) else (some x3)
def util_zzEscape.j1 : Nat → ByteArray → ByteArray → Int → Int → Int → Option (ByteArray)
  | 0, _, _, _, _, _ => none
  | k + 1, x0, x3, x4, x5, x6 => if x6 < 0 then (util_zzEscape.j2 k x0 x3 x4 x5 x6 (x4 == 0)) else (util_zzEscape.j2 k x0 x3 x4 x5 x6 false)
def util_zzEscape.j2 : Nat → ByteArray → ByteArray → Int → Int → Int → Bool → Option (ByteArray)
  | 0, _, _, _, _, _, _ => none
  | k + 1, x0, x3, x4, x5, x6, x25 => if x25 = true then ((util_zzName.f k x0 0).bind fun t110 => (if t110 < 0 then (if 0 ≤ x4 then (if x4 ≤ (wrap64 (x4 + 1)) then (if (wrap64 (x4 + 1)) ≤ (x0.size : Int) then (if x3.size + (x0.extract (x4 : Int).toNat ((wrap64 (x4 + 1)) : Int).toNat).size ≤ 9223372036854775807 then (util_zzEscape.l0 k x0 (x3 ++ (x0.extract (x4 : Int).toNat ((wrap64 (x4 + 1)) : Int).toNat)) (wrap64 (x4 + 1))) else (none)) else (none)) else (none)) else (none)) else (if 0 ≤ x5 then (if x5 ≤ (wrap64 (t110 - 1)) then (if (wrap64 (t110 - 1)) ≤ (x0.size : Int) then (if (x0.extract (x5 : Int).toNat ((wrap64 (t110 - 1)) : Int).toNat).size + 1 ≤ 9223372036854775807 then (if x3.size + ((x0.extract (x5 : Int).toNat ((wrap64 (t110 - 1)) : Int).toNat) ++ (⟨#[95]⟩ : ByteArray)).size ≤ 9223372036854775807 then (util_zzEscape.l0 k x0 (x3 ++ ((x0.extract (x5 : Int).toNat ((wrap64 (t110 - 1)) : Int).toNat) ++ (⟨#[95]⟩ : ByteArray))) t110) else (none)) else (none)) else (none)) else (none)) else (none)))) else (if x6 < 0 then (if 0 ≤ x4 then (if x4 ≤ (wrap64 (x4 + 1)) then (if (wrap64 (x4 + 1)) ≤ (x0.size : Int) then (if x3.size + (x0.extract (x4 : Int).toNat ((wrap64 (x4 + 1)) : Int).toNat).size ≤ 9223372036854775807 then (util_zzEscape.l0 k x0 (x3 ++ (x0.extract (x4 : Int).toNat ((wrap64 (x4 + 1)) : Int).toNat)) (wrap64 (x4 + 1))) else (none)) else (none)) else (none)) else (none)) else (if 0 ≤ x5 then (if x5 ≤ (wrap64 (x6 - 1)) then (if (wrap64 (x6 - 1)) ≤ (x0.size : Int) then (if (x0.extract (x5 : Int).toNat ((wrap64 (x6 - 1)) : Int).toNat).size + 1 ≤ 9223372036854775807 then (if x3.size + ((x0.extract (x5 : Int).toNat ((wrap64 (x6 - 1)) : Int).toNat) ++ (⟨#[95]⟩ : ByteArray)).size ≤ 9223372036854775807 then (util_zzEscape.l0 k x0 (x3 ++ ((x0.extract (x5 : Int).toNat ((wrap64 (x6 - 1)) : Int).toNat) ++ (⟨#[95]⟩ : ByteArray))) x6) else (none)) else (none)) else (none)) else (none)) else (none)))
end
def util_zzEscape.f (k : Nat) (a0 : ByteArray) : Option (ByteArray) := util_zzEscape.l0 k a0 (⟨#[]⟩ : ByteArray) 0
theorem util_zzEscape.mono_l : ∀ k, (∀ y0 y1 y2, LeO (util_zzEscape.l0 k y0 y1 y2) (util_zzEscape.l0 (k + 1) y0 y1 y2)) ∧ (∀ y0 y1 y2 y3 y4, LeO (util_zzEscape.j1 k y0 y1 y2 y3 y4) (util_zzEscape.j1 (k + 1) y0 y1 y2 y3 y4)) ∧ (∀ y0 y1 y2 y3 y4 y5, LeO (util_zzEscape.j2 k y0 y1 y2 y3 y4 y5) (util_zzEscape.j2 (k + 1) y0 y1 y2 y3 y4 y5))
  | 0 => ⟨fun _ _ _ r h => by simp [util_zzEscape.l0] at h, fun _ _ _ _ _ r h => by simp [util_zzEscape.j1] at h, fun _ _ _ _ _ _ r h => by simp [util_zzEscape.j2] at h⟩
  | k + 1 => by
    obtain ⟨ih0, ih1, ih2⟩ := util_zzEscape.mono_l k
    refine ⟨?_, ?_, ?_⟩
    · intro y0 y1 y2
      unfold util_zzEscape.l0
      repeat' first
      | (with_reducible exact ih0 _ _ _)
      | (with_reducible exact ih1 _ _ _ _ _)
      | (with_reducible exact ih2 _ _ _ _ _ _)
      | (with_reducible exact util_zzName.mono _ _ _)
      | (with_reducible exact LeO.refl _)
      | (with_reducible exact LeO.none _)
      | (with_reducible refine LeO.ite ?_ ?_)
      | (with_reducible refine LeO.bind ?_ (fun _ => ?_))
      | exact ih0 _ _ _
      | exact ih1 _ _ _ _ _
      | exact ih2 _ _ _ _ _ _
      | exact util_zzName.mono _ _ _
      | exact LeO.none _
      | refine LeO.ite ?_ ?_
      | refine LeO.bind ?_ (fun _ => ?_)
    · intro y0 y1 y2 y3 y4
      unfold util_zzEscape.j1
      repeat' first
      | (with_reducible exact ih0 _ _ _)
      | (with_reducible exact ih1 _ _ _ _ _)
      | (with_reducible exact ih2 _ _ _ _ _ _)
      | (with_reducible exact util_zzName.mono _ _ _)
      | (with_reducible exact LeO.refl _)
      | (with_reducible exact LeO.none _)
      | (with_reducible refine LeO.ite ?_ ?_)
      | (with_reducible refine LeO.bind ?_ (fun _ => ?_))
      | exact ih0 _ _ _
      | exact ih1 _ _ _ _ _
      | exact ih2 _ _ _ _ _ _
      | exact util_zzName.mono _ _ _
      | exact LeO.none _
      | refine LeO.ite ?_ ?_
      | refine LeO.bind ?_ (fun _ => ?_)
    · intro y0 y1 y2 y3 y4 y5
      unfold util_zzEscape.j2
      repeat' first
      | (with_reducible exact ih0 _ _ _)
      | (with_reducible exact ih1 _ _ _ _ _)
      | (with_reducible exact ih2 _ _ _ _ _ _)
      | (with_reducible exact util_zzName.mono _ _ _)
      | (with_reducible exact LeO.refl _)
      | (with_reducible exact LeO.none _)
      | (with_reducible refine LeO.ite ?_ ?_)
      | (with_reducible refine LeO.bind ?_ (fun _ => ?_))
      | exact ih0 _ _ _
      | exact ih1 _ _ _ _ _
      | exact ih2 _ _ _ _ _ _
      | exact util_zzName.mono _ _ _
      | exact LeO.none _
      | refine LeO.ite ?_ ?_
      | refine LeO.bind ?_ (fun _ => ?_)
theorem util_zzEscape.mono : ∀ a0 k, LeO (util_zzEscape.f k a0) (util_zzEscape.f (k + 1) a0) := by
  intro a0 k
  obtain ⟨ih0, ih1, ih2⟩ := util_zzEscape.mono_l k
  unfold util_zzEscape.f
  repeat' first
      | (with_reducible exact ih0 _ _ _)
      | (with_reducible exact ih1 _ _ _ _ _)
      | (with_reducible exact ih2 _ _ _ _ _ _)
      | (with_reducible exact util_zzName.mono _ _ _)
      | (with_reducible exact LeO.refl _)
      | (with_reducible exact LeO.none _)
      | (with_reducible refine LeO.ite ?_ ?_)
      | (with_reducible refine LeO.bind ?_ (fun _ => ?_))
      | exact ih0 _ _ _
      | exact ih1 _ _ _ _ _
      | exact ih2 _ _ _ _ _ _
      | exact util_zzName.mono _ _ _
      | exact LeO.none _
      | refine LeO.ite ?_ ?_
      | refine LeO.bind ?_ (fun _ => ?_)
set_option maxHeartbeats 8000000 in
set_option maxRecDepth 100000 in
theorem util_zzEscape.calls (k : Nat) (a0 : ByteArray) (r : ByteArray) (w : World) (h : util_zzEscape.f k a0 = some r) :
    Calls Tryd.prog 21 #[.string a0] w fun e w' => e = .returned (.string r) ∧ Drawn0 w w' := by
  have H : (util_zzEscape.l0 k a0 (⟨#[]⟩ : ByteArray) 0) = some r := h
  clear h
  have H' := Aside0.mk H
  clear H
  go_enter Tryd.func21, Tryd.ntmps21
  go_wp2
  go_loopg [3, 4] k (fun kq v3 v4 w' => ∃ (x3_1 : ByteArray) (x4_1 : Int), v3 = .string x3_1 ∧ v4 = .int .i64 x4_1 ∧ Aside0 (util_zzEscape.l0 kq a0 x3_1 x4_1 = some r) ∧ Aside0 (kq ≤ k) ∧ Drawn0 w w')
  case atStart => exact ⟨((⟨#[]⟩ : ByteArray)), (0), (by first | rfl | (simp; done) | (simp [*]; done)), (by first | rfl | (simp; done) | (simp [*]; done)), H', ⟨Nat.le_refl _⟩, by repeat (first | exact Drawn0.refl _ | apply Drawn0.step)⟩
  case round =>
    clear H'
    obtain ⟨x3_1, x4_1, rfl, rfl, HA, HK1, ⟨m1, rfl⟩⟩ := hrel
    cases gk with
    | zero => exact absurd HA.out (by simp [util_zzEscape.l0])
    | succ k1 =>
      have H := HA.out
      clear HA
      simp only [util_zzEscape.l0] at H
      by_cases c2 : x4_1 < (a0.size : Int)
      · rw [if_pos c2] at H
        have c2b0 : decide (x4_1 < (a0.size : Int)) = true := decide_eq_true c2
        clear c2
        by_cases c3 : 0 ≤ x4_1
        · rw [if_pos c3] at H
          have c3b0 : decide (0 ≤ x4_1) = true := decide_eq_true c3
          clear c3
          replace H := Option.bind_eq_some_iff.mp H
          obtain ⟨t108, A50, H⟩ := H
          replace H : (if t108 = true then ((util_zzName.f k1 a0 (wrap64 (x4_1 + 1))).bind fun t109 => (util_zzEscape.j1 k1 a0 x3_1 x4_1 x4_1 t109)) else (util_zzEscape.j1 k1 a0 x3_1 x4_1 x4_1 (-1))) = some r := H
          have A5 := Aside0.mk A50
          clear A50
          have HC6 := Aside0.mk H
          clear H
          have p4 : 0 ≤ (x4_1 : Int) := of_decide_eq_true (by first | (with_reducible assumption) | assumption)
          have q4 : x4_1 < (a0.size : Int) := of_decide_eq_true (by first | (with_reducible assumption) | assumption)
          have hx4 := bt_at a0 x4_1
          replace p4 := eq_true p4
          replace q4 := eq_true q4
          go_upto_if 15 with (first | ((with_reducible refine gate_callee (f := 25) rfl ?_); refine goesL_ (some 15) rfl rfl Tryd.func25 (by kernel_rfl) rfl #[.int .u8 (bt a0 x4_1)] rfl (by (try simp only [List.map_toArray, List.map_cons, List.map_nil]); first | done | rfl | (simp only [List.length_drop, List.length_take]; rfl)) ?_; (with_reducible refine (util_zzBefore.calls (bt a0 x4_1) t108 _ A5.out).mono ?_); rintro e w' ⟨rfl, ⟨nd, rfl⟩⟩; refine ⟨_, rfl, ?_⟩))
          (try simp only [Act.put, List.setIfInBounds_toArray, List.set_cons_zero, List.set_cons_succ])
          go_cut [6] (fun v6 wc => ∃ (kq : Nat) (x6_5 : Int), v6 = .int .i64 x6_5 ∧ Aside0 (util_zzEscape.j1 kq a0 x3_1 x4_1 x4_1 x6_5 = some r) ∧ Aside0 (kq ≤ k1) ∧ Drawn0 w wc)
          case first =>
            have H := HC6.out
            clear HC6
            by_cases c7 : t108 = true
            · subst c7
              have H1 : ((util_zzName.f k1 a0 (wrap64 (x4_1 + 1))).bind fun t109 => (util_zzEscape.j1 k1 a0 x3_1 x4_1 x4_1 t109)) = some r := by rw [if_pos rfl] at H; exact H
              clear H
              have H := H1
              clear H1
              replace H := Option.bind_eq_some_iff.mp H
              obtain ⟨t109, A80, H⟩ := H
              replace H : (util_zzEscape.j1 k1 a0 x3_1 x4_1 x4_1 t109) = some r := H
              have A8 := Aside0.mk A80
              clear A80
              have H' := Aside0.mk H
              clear H
              go_wp2_with (first | ((with_reducible refine gate_callee (f := 26) rfl ?_); refine goesL_ (some 19) rfl rfl Tryd.func26 (by kernel_rfl) rfl #[.string a0, .int .i64 (wrap64 (x4_1 + 1))] rfl (by (try simp only [List.map_toArray, List.map_cons, List.map_nil]); first | done | rfl | (simp only [List.length_drop, List.length_take]; rfl)) ?_; (with_reducible refine (util_zzName.calls k1 a0 (wrap64 (x4_1 + 1)) t109 _ A8.out).mono ?_); rintro e w' ⟨rfl, ⟨nd, rfl⟩⟩; refine ⟨_, rfl, ?_⟩))
              go_meet
              case rel => exact ⟨_, (t109), (by first | rfl | (simp; done) | (simp [*]; done)), H', ⟨by have := HK1.out; first | omega | exact Nat.le_refl _⟩, by repeat (first | exact Drawn0.refl _ | apply Drawn0.step)⟩
            · replace c7 := Bool.eq_false_iff.mpr c7
              subst c7
              have H1 : (util_zzEscape.j1 k1 a0 x3_1 x4_1 x4_1 (-1)) = some r := by rw [if_neg (show ¬ (false = true) by decide)] at H; exact H
              clear H
              have H := H1
              clear H1
              have H' := Aside0.mk H
              clear H
              go_wp2
              go_meet
              case rel => exact ⟨_, ((-1)), (by first | rfl | (simp; done) | (simp [*]; done)), H', ⟨by have := HK1.out; first | omega | exact Nat.le_refl _⟩, by repeat (first | exact Drawn0.refl _ | apply Drawn0.step)⟩
          case rest =>
            clear HC6
            try clear c2
            try clear c2b0
            try clear p2
            try clear c3
            try clear c3b0
            try clear p4
            try clear q4
            try clear hx4
            try clear p6
            try clear c7
            try clear p4
            try clear q4
            obtain ⟨kq, x6_5, rfl, HA, HJ5, ⟨mc5, rfl⟩⟩ := hcut
            cases kq with
            | zero => exact absurd HA.out (by simp [util_zzEscape.j1])
            | succ kj5 =>
              have H := HA.out
              clear HA
              simp only [util_zzEscape.j1] at H
              have HC9 := Aside0.mk H
              clear H
              go_upto_region 7 with (fail)
              go_cut [25] (fun v25 wc => ∃ (kq : Nat) (x25_8 : Bool), v25 = .bool x25_8 ∧ Aside0 (util_zzEscape.j2 kq a0 x3_1 x4_1 x4_1 x6_5 x25_8 = some r) ∧ Aside0 (kq ≤ kj5) ∧ Drawn0 w wc)
              case first =>
                have H := HC9.out
                clear HC9
                by_cases c10 : x6_5 < 0
                · rw [if_pos c10] at H
                  have c10b0 : decide (x6_5 < 0) = true := decide_eq_true c10
                  clear c10
                  (first | rw [c10b0] | (simp only [i64_w, i32_w]; rw [c10b0]) | skip)
                  have H' := Aside0.mk H
                  clear H
                  go_wp2
                  go_meet
                  case rel => exact ⟨_, ((x4_1 == 0)), (by first | rfl | (simp; done) | (simp [*]; done)), H', ⟨by have := HK1.out; have := HJ5.out; first | omega | exact Nat.le_refl _⟩, by repeat (first | exact Drawn0.refl _ | apply Drawn0.step)⟩
                · rw [if_neg c10] at H
                  have c10b0 : decide (x6_5 < 0) = false := decide_eq_false c10
                  clear c10
                  (first | rw [c10b0] | (simp only [i64_w, i32_w]; rw [c10b0]) | skip)
                  have H' := Aside0.mk H
                  clear H
                  go_wp2
                  go_meet
                  case rel => exact ⟨_, (false), (by first | rfl | (simp; done) | (simp [*]; done)), H', ⟨by have := HK1.out; have := HJ5.out; first | omega | exact Nat.le_refl _⟩, by repeat (first | exact Drawn0.refl _ | apply Drawn0.step)⟩
              case rest =>
                clear HC9
                try clear c1
                try clear c2
                try clear c2b0
                try clear p2
                try clear c3
                try clear c3b0
                try clear p4
                try clear q4
                try clear hx4
                try clear c5
                try clear p6
                try clear c7
                try clear c10
                try clear c10b0
                try clear p2
                try clear p4
                try clear p6
                try clear q4
                obtain ⟨kq, x25_8, rfl, HA, HJ8, ⟨mc8, rfl⟩⟩ := hcut
                cases kq with
                | zero => exact absurd HA.out (by simp [util_zzEscape.j2])
                | succ kj8 =>
                  have H := HA.out
                  clear HA
                  simp only [util_zzEscape.j2] at H
                  by_cases c11 : x25_8 = true
                  · subst c11
                    have H1 : ((util_zzName.f kj8 a0 0).bind fun t110 => (if t110 < 0 then (if 0 ≤ x4_1 then (if x4_1 ≤ (wrap64 (x4_1 + 1)) then (if (wrap64 (x4_1 + 1)) ≤ (a0.size : Int) then (if x3_1.size + (a0.extract (x4_1 : Int).toNat ((wrap64 (x4_1 + 1)) : Int).toNat).size ≤ 9223372036854775807 then (util_zzEscape.l0 kj8 a0 (x3_1 ++ (a0.extract (x4_1 : Int).toNat ((wrap64 (x4_1 + 1)) : Int).toNat)) (wrap64 (x4_1 + 1))) else (none)) else (none)) else (none)) else (none)) else (if 0 ≤ x4_1 then (if x4_1 ≤ (wrap64 (t110 - 1)) then (if (wrap64 (t110 - 1)) ≤ (a0.size : Int) then (if (a0.extract (x4_1 : Int).toNat ((wrap64 (t110 - 1)) : Int).toNat).size + 1 ≤ 9223372036854775807 then (if x3_1.size + ((a0.extract (x4_1 : Int).toNat ((wrap64 (t110 - 1)) : Int).toNat) ++ (⟨#[95]⟩ : ByteArray)).size ≤ 9223372036854775807 then (util_zzEscape.l0 kj8 a0 (x3_1 ++ ((a0.extract (x4_1 : Int).toNat ((wrap64 (t110 - 1)) : Int).toNat) ++ (⟨#[95]⟩ : ByteArray))) t110) else (none)) else (none)) else (none)) else (none)) else (none)))) = some r := by rw [if_pos rfl] at H; exact H
                    clear H
                    have H := H1
                    clear H1
                    replace H := Option.bind_eq_some_iff.mp H
                    obtain ⟨t110, A120, H⟩ := H
                    replace H : (if t110 < 0 then (if 0 ≤ x4_1 then (if x4_1 ≤ (wrap64 (x4_1 + 1)) then (if (wrap64 (x4_1 + 1)) ≤ (a0.size : Int) then (if x3_1.size + (a0.extract (x4_1 : Int).toNat ((wrap64 (x4_1 + 1)) : Int).toNat).size ≤ 9223372036854775807 then (util_zzEscape.l0 kj8 a0 (x3_1 ++ (a0.extract (x4_1 : Int).toNat ((wrap64 (x4_1 + 1)) : Int).toNat)) (wrap64 (x4_1 + 1))) else (none)) else (none)) else (none)) else (none)) else (if 0 ≤ x4_1 then (if x4_1 ≤ (wrap64 (t110 - 1)) then (if (wrap64 (t110 - 1)) ≤ (a0.size : Int) then (if (a0.extract (x4_1 : Int).toNat ((wrap64 (t110 - 1)) : Int).toNat).size + 1 ≤ 9223372036854775807 then (if x3_1.size + ((a0.extract (x4_1 : Int).toNat ((wrap64 (t110 - 1)) : Int).toNat) ++ (⟨#[95]⟩ : ByteArray)).size ≤ 9223372036854775807 then (util_zzEscape.l0 kj8 a0 (x3_1 ++ ((a0.extract (x4_1 : Int).toNat ((wrap64 (t110 - 1)) : Int).toNat) ++ (⟨#[95]⟩ : ByteArray))) t110) else (none)) else (none)) else (none)) else (none)) else (none))) = some r := H
                    have A12 := Aside0.mk A120
                    clear A120
                    by_cases c13 : t110 < 0
                    · rw [if_pos c13] at H
                      have c13b0 : decide (t110 < 0) = true := decide_eq_true c13
                      clear c13
                      by_cases c14 : 0 ≤ x4_1
                      · rw [if_pos c14] at H
                        have c14b0 := eq_true c14
                        have c14b1 : decide (0 ≤ x4_1) = true := decide_eq_true c14
                        clear c14
                        by_cases c15 : x4_1 ≤ (wrap64 (x4_1 + 1))
                        · rw [if_pos c15] at H
                          have c15b0 := eq_true c15
                          have c15b1 : decide (x4_1 ≤ (wrap64 (x4_1 + 1))) = true := decide_eq_true c15
                          by_cases c16 : (wrap64 (x4_1 + 1)) ≤ (a0.size : Int)
                          · rw [if_pos c16] at H
                            have c16b0 := eq_true c16
                            have c16b1 : decide ((wrap64 (x4_1 + 1)) ≤ (a0.size : Int)) = true := decide_eq_true c16
                            by_cases c17 : x3_1.size + (a0.extract (x4_1 : Int).toNat ((wrap64 (x4_1 + 1)) : Int).toNat).size ≤ 9223372036854775807
                            · rw [if_pos c17] at H
                              have c17b0 := eq_true c17
                              have c17b1 : decide (x3_1.size + (a0.extract (x4_1 : Int).toNat ((wrap64 (x4_1 + 1)) : Int).toNat).size ≤ 9223372036854775807) = true := decide_eq_true c17
                              try have c17b2 : (9223372036854775807 < x3_1.size + (a0.extract (x4_1 : Int).toNat ((wrap64 (x4_1 + 1)) : Int).toNat).size) = False := eq_false (Nat.not_lt.2 c17)
                              have H' := Aside0.mk H
                              clear H
                              go_wp2_with (first | ((with_reducible refine gate_callee (f := 26) rfl ?_); refine goesL_ (some 27) rfl rfl Tryd.func26 (by kernel_rfl) rfl #[.string a0, .int .i64 0] rfl (by (try simp only [List.map_toArray, List.map_cons, List.map_nil]); first | done | rfl | (simp only [List.length_drop, List.length_take]; rfl)) ?_; (with_reducible refine (util_zzName.calls kj8 a0 0 t110 _ A12.out).mono ?_); rintro e w' ⟨rfl, ⟨nd, rfl⟩⟩; refine ⟨_, rfl, ?_⟩))
                              go_roundg kj8
                              case measure => have := HK1.out; have := HJ5.out; have := HJ8.out; omega
                              case rel => exact ⟨(x3_1 ++ (a0.extract (x4_1 : Int).toNat ((wrap64 (x4_1 + 1)) : Int).toNat)), (wrap64 (x4_1 + 1)), (by first | rfl | (simp; done) | (simp [*]; done)), (by first | rfl | (simp; done) | (simp [*]; done)), H', ⟨by have := HK1.out; have := HJ5.out; have := HJ8.out; omega⟩, by repeat (first | exact Drawn0.refl _ | apply Drawn0.step)⟩
                            · rw [if_neg c17] at H
                              exact absurd H (by simp)
                          · rw [if_neg c16] at H
                            exact absurd H (by simp)
                        · rw [if_neg c15] at H
                          exact absurd H (by simp)
                      · rw [if_neg c14] at H
                        exact absurd H (by simp)
                    · rw [if_neg c13] at H
                      have c13b0 : decide (t110 < 0) = false := decide_eq_false c13
                      clear c13
                      by_cases c18 : 0 ≤ x4_1
                      · rw [if_pos c18] at H
                        have c18b0 := eq_true c18
                        have c18b1 : decide (0 ≤ x4_1) = true := decide_eq_true c18
                        clear c18
                        by_cases c19 : x4_1 ≤ (wrap64 (t110 - 1))
                        · rw [if_pos c19] at H
                          have c19b0 := eq_true c19
                          have c19b1 : decide (x4_1 ≤ (wrap64 (t110 - 1))) = true := decide_eq_true c19
                          clear c19
                          by_cases c20 : (wrap64 (t110 - 1)) ≤ (a0.size : Int)
                          · rw [if_pos c20] at H
                            have c20b0 := eq_true c20
                            have c20b1 : decide ((wrap64 (t110 - 1)) ≤ (a0.size : Int)) = true := decide_eq_true c20
                            clear c20
                            by_cases c21 : (a0.extract (x4_1 : Int).toNat ((wrap64 (t110 - 1)) : Int).toNat).size + 1 ≤ 9223372036854775807
                            · rw [if_pos c21] at H
                              have c21b0 := eq_true c21
                              have c21b1 : decide ((a0.extract (x4_1 : Int).toNat ((wrap64 (t110 - 1)) : Int).toNat).size + 1 ≤ 9223372036854775807) = true := decide_eq_true c21
                              try have c21b2 : (9223372036854775807 < (a0.extract (x4_1 : Int).toNat ((wrap64 (t110 - 1)) : Int).toNat).size + 1) = False := eq_false (Nat.not_lt.2 c21)
                              have c21b9 : (9223372036854775807 < ((wrap64 (t110 - 1))).toNat - (x4_1).toNat + 1) = False := eq_false (by have q := c21; rw [ByteArray.size_extract] at q; have := of_decide_eq_true c20b1; omega)
                              by_cases c22 : x3_1.size + ((a0.extract (x4_1 : Int).toNat ((wrap64 (t110 - 1)) : Int).toNat) ++ (⟨#[95]⟩ : ByteArray)).size ≤ 9223372036854775807
                              · rw [if_pos c22] at H
                                have c22b0 := eq_true c22
                                have c22b1 : decide (x3_1.size + ((a0.extract (x4_1 : Int).toNat ((wrap64 (t110 - 1)) : Int).toNat) ++ (⟨#[95]⟩ : ByteArray)).size ≤ 9223372036854775807) = true := decide_eq_true c22
                                try have c22b2 : (9223372036854775807 < x3_1.size + ((a0.extract (x4_1 : Int).toNat ((wrap64 (t110 - 1)) : Int).toNat) ++ (⟨#[95]⟩ : ByteArray)).size) = False := eq_false (Nat.not_lt.2 c22)
                                have H' := Aside0.mk H
                                clear H
                                go_wp2_with (first | ((with_reducible refine gate_callee (f := 26) rfl ?_); refine goesL_ (some 27) rfl rfl Tryd.func26 (by kernel_rfl) rfl #[.string a0, .int .i64 0] rfl (by (try simp only [List.map_toArray, List.map_cons, List.map_nil]); first | done | rfl | (simp only [List.length_drop, List.length_take]; rfl)) ?_; (with_reducible refine (util_zzName.calls kj8 a0 0 t110 _ A12.out).mono ?_); rintro e w' ⟨rfl, ⟨nd, rfl⟩⟩; refine ⟨_, rfl, ?_⟩))
                                go_roundg kj8
                                case measure => have := HK1.out; have := HJ5.out; have := HJ8.out; omega
                                case rel => exact ⟨(x3_1 ++ ((a0.extract (x4_1 : Int).toNat ((wrap64 (t110 - 1)) : Int).toNat) ++ (⟨#[95]⟩ : ByteArray))), (t110), (by first | rfl | (simp; done) | (simp [*]; done)), (by first | rfl | (simp; done) | (simp [*]; done)), H', ⟨by have := HK1.out; have := HJ5.out; have := HJ8.out; omega⟩, by repeat (first | exact Drawn0.refl _ | apply Drawn0.step)⟩
                              · rw [if_neg c22] at H
                                exact absurd H (by simp)
                            · rw [if_neg c21] at H
                              exact absurd H (by simp)
                          · rw [if_neg c20] at H
                            exact absurd H (by simp)
                        · rw [if_neg c19] at H
                          exact absurd H (by simp)
                      · rw [if_neg c18] at H
                        exact absurd H (by simp)
                  · replace c11 := Bool.eq_false_iff.mpr c11
                    subst c11
                    have H1 : (if x6_5 < 0 then (if 0 ≤ x4_1 then (if x4_1 ≤ (wrap64 (x4_1 + 1)) then (if (wrap64 (x4_1 + 1)) ≤ (a0.size : Int) then (if x3_1.size + (a0.extract (x4_1 : Int).toNat ((wrap64 (x4_1 + 1)) : Int).toNat).size ≤ 9223372036854775807 then (util_zzEscape.l0 kj8 a0 (x3_1 ++ (a0.extract (x4_1 : Int).toNat ((wrap64 (x4_1 + 1)) : Int).toNat)) (wrap64 (x4_1 + 1))) else (none)) else (none)) else (none)) else (none)) else (if 0 ≤ x4_1 then (if x4_1 ≤ (wrap64 (x6_5 - 1)) then (if (wrap64 (x6_5 - 1)) ≤ (a0.size : Int) then (if (a0.extract (x4_1 : Int).toNat ((wrap64 (x6_5 - 1)) : Int).toNat).size + 1 ≤ 9223372036854775807 then (if x3_1.size + ((a0.extract (x4_1 : Int).toNat ((wrap64 (x6_5 - 1)) : Int).toNat) ++ (⟨#[95]⟩ : ByteArray)).size ≤ 9223372036854775807 then (util_zzEscape.l0 kj8 a0 (x3_1 ++ ((a0.extract (x4_1 : Int).toNat ((wrap64 (x6_5 - 1)) : Int).toNat) ++ (⟨#[95]⟩ : ByteArray))) x6_5) else (none)) else (none)) else (none)) else (none)) else (none))) = some r := by rw [if_neg (show ¬ (false = true) by decide)] at H; exact H
                    clear H
                    have H := H1
                    clear H1
                    by_cases c23 : x6_5 < 0
                    · rw [if_pos c23] at H
                      have c23b0 : decide (x6_5 < 0) = true := decide_eq_true c23
                      clear c23
                      by_cases c24 : 0 ≤ x4_1
                      · rw [if_pos c24] at H
                        have c24b0 := eq_true c24
                        have c24b1 : decide (0 ≤ x4_1) = true := decide_eq_true c24
                        clear c24
                        by_cases c25 : x4_1 ≤ (wrap64 (x4_1 + 1))
                        · rw [if_pos c25] at H
                          have c25b0 := eq_true c25
                          have c25b1 : decide (x4_1 ≤ (wrap64 (x4_1 + 1))) = true := decide_eq_true c25
                          by_cases c26 : (wrap64 (x4_1 + 1)) ≤ (a0.size : Int)
                          · rw [if_pos c26] at H
                            have c26b0 := eq_true c26
                            have c26b1 : decide ((wrap64 (x4_1 + 1)) ≤ (a0.size : Int)) = true := decide_eq_true c26
                            by_cases c27 : x3_1.size + (a0.extract (x4_1 : Int).toNat ((wrap64 (x4_1 + 1)) : Int).toNat).size ≤ 9223372036854775807
                            · rw [if_pos c27] at H
                              have c27b0 := eq_true c27
                              have c27b1 : decide (x3_1.size + (a0.extract (x4_1 : Int).toNat ((wrap64 (x4_1 + 1)) : Int).toNat).size ≤ 9223372036854775807) = true := decide_eq_true c27
                              try have c27b2 : (9223372036854775807 < x3_1.size + (a0.extract (x4_1 : Int).toNat ((wrap64 (x4_1 + 1)) : Int).toNat).size) = False := eq_false (Nat.not_lt.2 c27)
                              have H' := Aside0.mk H
                              clear H
                              go_wp2
                              go_roundg kj8
                              case measure => have := HK1.out; have := HJ5.out; have := HJ8.out; omega
                              case rel => exact ⟨(x3_1 ++ (a0.extract (x4_1 : Int).toNat ((wrap64 (x4_1 + 1)) : Int).toNat)), (wrap64 (x4_1 + 1)), (by first | rfl | (simp; done) | (simp [*]; done)), (by first | rfl | (simp; done) | (simp [*]; done)), H', ⟨by have := HK1.out; have := HJ5.out; have := HJ8.out; omega⟩, by repeat (first | exact Drawn0.refl _ | apply Drawn0.step)⟩
                            · rw [if_neg c27] at H
                              exact absurd H (by simp)
                          · rw [if_neg c26] at H
                            exact absurd H (by simp)
                        · rw [if_neg c25] at H
                          exact absurd H (by simp)
                      · rw [if_neg c24] at H
                        exact absurd H (by simp)
                    · rw [if_neg c23] at H
                      have c23b0 : decide (x6_5 < 0) = false := decide_eq_false c23
                      clear c23
                      by_cases c28 : 0 ≤ x4_1
                      · rw [if_pos c28] at H
                        have c28b0 := eq_true c28
                        have c28b1 : decide (0 ≤ x4_1) = true := decide_eq_true c28
                        clear c28
                        by_cases c29 : x4_1 ≤ (wrap64 (x6_5 - 1))
                        · rw [if_pos c29] at H
                          have c29b0 := eq_true c29
                          have c29b1 : decide (x4_1 ≤ (wrap64 (x6_5 - 1))) = true := decide_eq_true c29
                          clear c29
                          by_cases c30 : (wrap64 (x6_5 - 1)) ≤ (a0.size : Int)
                          · rw [if_pos c30] at H
                            have c30b0 := eq_true c30
                            have c30b1 : decide ((wrap64 (x6_5 - 1)) ≤ (a0.size : Int)) = true := decide_eq_true c30
                            clear c30
                            by_cases c31 : (a0.extract (x4_1 : Int).toNat ((wrap64 (x6_5 - 1)) : Int).toNat).size + 1 ≤ 9223372036854775807
                            · rw [if_pos c31] at H
                              have c31b0 := eq_true c31
                              have c31b1 : decide ((a0.extract (x4_1 : Int).toNat ((wrap64 (x6_5 - 1)) : Int).toNat).size + 1 ≤ 9223372036854775807) = true := decide_eq_true c31
                              try have c31b2 : (9223372036854775807 < (a0.extract (x4_1 : Int).toNat ((wrap64 (x6_5 - 1)) : Int).toNat).size + 1) = False := eq_false (Nat.not_lt.2 c31)
                              have c31b9 : (9223372036854775807 < ((wrap64 (x6_5 - 1))).toNat - (x4_1).toNat + 1) = False := eq_false (by have q := c31; rw [ByteArray.size_extract] at q; have := of_decide_eq_true c30b1; omega)
                              by_cases c32 : x3_1.size + ((a0.extract (x4_1 : Int).toNat ((wrap64 (x6_5 - 1)) : Int).toNat) ++ (⟨#[95]⟩ : ByteArray)).size ≤ 9223372036854775807
                              · rw [if_pos c32] at H
                                have c32b0 := eq_true c32
                                have c32b1 : decide (x3_1.size + ((a0.extract (x4_1 : Int).toNat ((wrap64 (x6_5 - 1)) : Int).toNat) ++ (⟨#[95]⟩ : ByteArray)).size ≤ 9223372036854775807) = true := decide_eq_true c32
                                try have c32b2 : (9223372036854775807 < x3_1.size + ((a0.extract (x4_1 : Int).toNat ((wrap64 (x6_5 - 1)) : Int).toNat) ++ (⟨#[95]⟩ : ByteArray)).size) = False := eq_false (Nat.not_lt.2 c32)
                                have H' := Aside0.mk H
                                clear H
                                go_wp2
                                go_roundg kj8
                                case measure => have := HK1.out; have := HJ5.out; have := HJ8.out; omega
                                case rel => exact ⟨(x3_1 ++ ((a0.extract (x4_1 : Int).toNat ((wrap64 (x6_5 - 1)) : Int).toNat) ++ (⟨#[95]⟩ : ByteArray))), (x6_5), (by first | rfl | (simp; done) | (simp [*]; done)), (by first | rfl | (simp; done) | (simp [*]; done)), H', ⟨by have := HK1.out; have := HJ5.out; have := HJ8.out; omega⟩, by repeat (first | exact Drawn0.refl _ | apply Drawn0.step)⟩
                              · rw [if_neg c32] at H
                                exact absurd H (by simp)
                            · rw [if_neg c31] at H
                              exact absurd H (by simp)
                          · rw [if_neg c30] at H
                            exact absurd H (by simp)
                        · rw [if_neg c29] at H
                          exact absurd H (by simp)
                      · rw [if_neg c28] at H
                        exact absurd H (by simp)
        · rw [if_neg c3] at H
          exact absurd H (by simp)
      · rw [if_neg c2] at H
        have c2b0 : decide (x4_1 < (a0.size : Int)) = false := decide_eq_false c2
        clear c2
        obtain rfl := Option.some.inj H
        go_wp2
        go_ret
        exact ⟨by first | rfl | (simp; done) | (simp [*]; done), by repeat (first | exact Drawn0.refl _ | apply Drawn0.step)⟩

/-! ### util_EscapeAssertion: function 18 -/
def util_EscapeAssertion.f (k : Nat) (a0 : ByteArray) : Option (ByteArray) := (util_zzEscape.f k a0).bind fun t111 => (some t111)
theorem util_EscapeAssertion.mono : ∀ a0 k, LeO (util_EscapeAssertion.f k a0) (util_EscapeAssertion.f (k + 1) a0) := by
  intro a0 k
  unfold util_EscapeAssertion.f
  repeat' first
      | (with_reducible exact util_zzEscape.mono _ _)
      | (with_reducible exact LeO.refl _)
      | (with_reducible exact LeO.none _)
      | (with_reducible refine LeO.ite ?_ ?_)
      | (with_reducible refine LeO.bind ?_ (fun _ => ?_))
      | exact util_zzEscape.mono _ _
      | exact LeO.none _
      | refine LeO.ite ?_ ?_
      | refine LeO.bind ?_ (fun _ => ?_)
set_option maxHeartbeats 8000000 in
set_option maxRecDepth 100000 in
theorem util_EscapeAssertion.calls (k : Nat) (a0 : ByteArray) (r : ByteArray) (w : World) (h : util_EscapeAssertion.f k a0 = some r) :
    Calls Tryd.prog 18 #[.string a0] w fun e w' => e = .returned (.string r) ∧ Drawn0 w w' := by
  have H : ((util_zzEscape.f k a0).bind fun t111 => (some t111)) = some r := h
  clear h
  replace H := Option.bind_eq_some_iff.mp H
  obtain ⟨t111, A20, H⟩ := H
  replace H : (some t111) = some r := H
  have A2 := Aside0.mk A20
  clear A20
  obtain rfl := Option.some.inj H
  go_enter Tryd.func18, Tryd.ntmps18
  go_wp2_with (first | ((with_reducible refine gate_callee (f := 21) rfl ?_); refine goesL_ (some 4) rfl rfl Tryd.func21 (by kernel_rfl) rfl #[.string a0] rfl (by (try simp only [List.map_toArray, List.map_cons, List.map_nil]); first | done | rfl | (simp only [List.length_drop, List.length_take]; rfl)) ?_; (with_reducible refine (util_zzEscape.calls k a0 t111 _ A2.out).mono ?_); rintro e w' ⟨rfl, ⟨nd, rfl⟩⟩; refine ⟨_, rfl, ?_⟩))
  go_ret
  exact ⟨by first | rfl | (simp; done) | (simp [*]; done), by repeat (first | exact Drawn0.refl _ | apply Drawn0.step)⟩

/-! ### impl_EscapeAssertion: function 12 -/
def impl_EscapeAssertion.f (k : Nat) (a0 : ByteArray) : Option (ByteArray) := (util_EscapeAssertion.f k a0).bind fun t112 => (some t112)
theorem impl_EscapeAssertion.mono : ∀ a0 k, LeO (impl_EscapeAssertion.f k a0) (impl_EscapeAssertion.f (k + 1) a0) := by
  intro a0 k
  unfold impl_EscapeAssertion.f
  repeat' first
      | (with_reducible exact util_EscapeAssertion.mono _ _)
      | (with_reducible exact LeO.refl _)
      | (with_reducible exact LeO.none _)
      | (with_reducible refine LeO.ite ?_ ?_)
      | (with_reducible refine LeO.bind ?_ (fun _ => ?_))
      | exact util_EscapeAssertion.mono _ _
      | exact LeO.none _
      | refine LeO.ite ?_ ?_
      | refine LeO.bind ?_ (fun _ => ?_)
set_option maxHeartbeats 8000000 in
set_option maxRecDepth 100000 in
theorem impl_EscapeAssertion.calls (k : Nat) (a0 : ByteArray) (r : ByteArray) (w : World) (h : impl_EscapeAssertion.f k a0 = some r) :
    Calls Tryd.prog 12 #[.string a0] w fun e w' => e = .returned (.string r) ∧ Drawn0 w w' := by
  have H : ((util_EscapeAssertion.f k a0).bind fun t112 => (some t112)) = some r := h
  clear h
  replace H := Option.bind_eq_some_iff.mp H
  obtain ⟨t112, A20, H⟩ := H
  replace H : (some t112) = some r := H
  have A2 := Aside0.mk A20
  clear A20
  obtain rfl := Option.some.inj H
  go_enter Tryd.func12, Tryd.ntmps12
  go_wp2_with (first | ((with_reducible refine gate_callee (f := 18) rfl ?_); refine goesL_ (some 4) rfl rfl Tryd.func18 (by kernel_rfl) rfl #[.string a0] rfl (by (try simp only [List.map_toArray, List.map_cons, List.map_nil]); first | done | rfl | (simp only [List.length_drop, List.length_take]; rfl)) ?_; (with_reducible refine (util_EscapeAssertion.calls k a0 t112 _ A2.out).mono ?_); rintro e w' ⟨rfl, ⟨nd, rfl⟩⟩; refine ⟨_, rfl, ?_⟩))
  go_ret
  exact ⟨by first | rfl | (simp; done) | (simp [*]; done), by repeat (first | exact Drawn0.refl _ | apply Drawn0.step)⟩

/-! ### laws_awakeUtil: function 5 -/
def laws_awakeUtil.f (k : Nat)  : Option (Bool) := (impl_KeyMatch.f k (⟨#[47, 102, 111, 111, 47, 98, 97, 114]⟩ : ByteArray) (⟨#[47, 102, 111, 111, 47, 42]⟩ : ByteArray)).bind fun t113 => (if t113 = true then ((impl_KeyGet.f k (⟨#[47, 102, 111, 111, 47, 98, 97, 114]⟩ : ByteArray) (⟨#[47, 102, 111, 111, 47, 42]⟩ : ByteArray)).bind fun t114 => (if t114.toList = ([98, 97, 114] : List UInt8) then ((impl_ArrayEquals.f k (([(⟨#[97]⟩ : ByteArray)] : List ByteArray)) (([(⟨#[97]⟩ : ByteArray)] : List ByteArray))).bind fun t121 => (if t121 = true then ((impl_EscapeAssertion.f k (⟨#[114, 46, 115, 117, 98]⟩ : ByteArray)).bind fun t122 => (some (t122.toList == ([114, 95, 115, 117, 98] : List UInt8)))) else (some false))) else (some false))) else (some false))
theorem laws_awakeUtil.mono : ∀ k, LeO (laws_awakeUtil.f k ) (laws_awakeUtil.f (k + 1) ) := by
  intro  k
  unfold laws_awakeUtil.f
  repeat' first
      | (with_reducible exact impl_ArrayEquals.mono _ _ _)
      | (with_reducible exact impl_EscapeAssertion.mono _ _)
      | (with_reducible exact impl_KeyGet.mono _ _ _)
      | (with_reducible exact impl_KeyMatch.mono _ _ _)
      | (with_reducible exact LeO.refl _)
      | (with_reducible exact LeO.none _)
      | (with_reducible refine LeO.ite ?_ ?_)
      | (with_reducible refine LeO.bind ?_ (fun _ => ?_))
      | exact impl_ArrayEquals.mono _ _ _
      | exact impl_EscapeAssertion.mono _ _
      | exact impl_KeyGet.mono _ _ _
      | exact impl_KeyMatch.mono _ _ _
      | exact LeO.none _
      | refine LeO.ite ?_ ?_
      | refine LeO.bind ?_ (fun _ => ?_)
set_option maxHeartbeats 8000000 in
set_option maxRecDepth 100000 in
theorem laws_awakeUtil.calls (k : Nat)  (r : Bool) (w : World) (h : laws_awakeUtil.f k  = some r) :
    Calls Tryd.prog 5 #[] w fun e w' => e = .returned (.bool r) ∧ Below w.heap.size w w' := by
  have HB := Aside0.mk (Below.refl w.heap.size w)
  have H : ((impl_KeyMatch.f k (⟨#[47, 102, 111, 111, 47, 98, 97, 114]⟩ : ByteArray) (⟨#[47, 102, 111, 111, 47, 42]⟩ : ByteArray)).bind fun t113 => (if t113 = true then ((impl_KeyGet.f k (⟨#[47, 102, 111, 111, 47, 98, 97, 114]⟩ : ByteArray) (⟨#[47, 102, 111, 111, 47, 42]⟩ : ByteArray)).bind fun t114 => (if t114.toList = ([98, 97, 114] : List UInt8) then ((impl_ArrayEquals.f k (([(⟨#[97]⟩ : ByteArray)] : List ByteArray)) (([(⟨#[97]⟩ : ByteArray)] : List ByteArray))).bind fun t121 => (if t121 = true then ((impl_EscapeAssertion.f k (⟨#[114, 46, 115, 117, 98]⟩ : ByteArray)).bind fun t122 => (some (t122.toList == ([114, 95, 115, 117, 98] : List UInt8)))) else (some false))) else (some false))) else (some false))) = some r := h
  clear h
  replace H := Option.bind_eq_some_iff.mp H
  obtain ⟨t113, A10, H⟩ := H
  replace H : (if t113 = true then ((impl_KeyGet.f k (⟨#[47, 102, 111, 111, 47, 98, 97, 114]⟩ : ByteArray) (⟨#[47, 102, 111, 111, 47, 42]⟩ : ByteArray)).bind fun t114 => (if t114.toList = ([98, 97, 114] : List UInt8) then ((impl_ArrayEquals.f k (([(⟨#[97]⟩ : ByteArray)] : List ByteArray)) (([(⟨#[97]⟩ : ByteArray)] : List ByteArray))).bind fun t121 => (if t121 = true then ((impl_EscapeAssertion.f k (⟨#[114, 46, 115, 117, 98]⟩ : ByteArray)).bind fun t122 => (some (t122.toList == ([114, 95, 115, 117, 98] : List UInt8)))) else (some false))) else (some false))) else (some false)) = some r := H
  have A1 := Aside0.mk A10
  clear A10
  by_cases c2 : t113 = true
  · subst c2
    have H1 : ((impl_KeyGet.f k (⟨#[47, 102, 111, 111, 47, 98, 97, 114]⟩ : ByteArray) (⟨#[47, 102, 111, 111, 47, 42]⟩ : ByteArray)).bind fun t114 => (if t114.toList = ([98, 97, 114] : List UInt8) then ((impl_ArrayEquals.f k (([(⟨#[97]⟩ : ByteArray)] : List ByteArray)) (([(⟨#[97]⟩ : ByteArray)] : List ByteArray))).bind fun t121 => (if t121 = true then ((impl_EscapeAssertion.f k (⟨#[114, 46, 115, 117, 98]⟩ : ByteArray)).bind fun t122 => (some (t122.toList == ([114, 95, 115, 117, 98] : List UInt8)))) else (some false))) else (some false))) = some r := by rw [if_pos rfl] at H; exact H
    clear H
    have H := H1
    clear H1
    replace H := Option.bind_eq_some_iff.mp H
    obtain ⟨t114, A30, H⟩ := H
    replace H : (if t114.toList = ([98, 97, 114] : List UInt8) then ((impl_ArrayEquals.f k (([(⟨#[97]⟩ : ByteArray)] : List ByteArray)) (([(⟨#[97]⟩ : ByteArray)] : List ByteArray))).bind fun t121 => (if t121 = true then ((impl_EscapeAssertion.f k (⟨#[114, 46, 115, 117, 98]⟩ : ByteArray)).bind fun t122 => (some (t122.toList == ([114, 95, 115, 117, 98] : List UInt8)))) else (some false))) else (some false)) = some r := H
    have A3 := Aside0.mk A30
    clear A30
    by_cases c4 : t114.toList = ([98, 97, 114] : List UInt8)
    · rw [if_pos c4] at H
      have c4b0 : (t114.toList == ([98, 97, 114] : List UInt8)) = true := beq_iff_eq.mpr c4
      have c4b1 : (t114.toList != ([98, 97, 114] : List UInt8)) = false := bne_eq_false_iff_eq.mpr c4
      clear c4
      obtain ⟨y115, hy115⟩ : ∃ y_ : List ByteArray, y_ = (([(⟨#[97]⟩ : ByteArray)] : List ByteArray)) := ⟨_, rfl⟩
      replace H : ((impl_ArrayEquals.f k y115 (([(⟨#[97]⟩ : ByteArray)] : List ByteArray))).bind fun t121 => (if t121 = true then ((impl_EscapeAssertion.f k (⟨#[114, 46, 115, 117, 98]⟩ : ByteArray)).bind fun t122 => (some (t122.toList == ([114, 95, 115, 117, 98] : List UInt8)))) else (some false))) = some r := by first | (rw [hy115]; with_reducible exact H) | (have H2_ := (Option.bind_some _ _).symm.trans H; rw [hy115]; with_reducible exact H2_) | (have H2_ := (Option.bind_some _ _).symm.trans H; with_reducible exact H2_) | with_reducible exact H | (rw [hy115]; exact H) | exact H
      have Ny115 := Aside0.mk hy115
      clear hy115
      obtain ⟨y118, hy118⟩ : ∃ y_ : List ByteArray, y_ = (([(⟨#[97]⟩ : ByteArray)] : List ByteArray)) := ⟨_, rfl⟩
      replace H : ((impl_ArrayEquals.f k y115 y118).bind fun t121 => (if t121 = true then ((impl_EscapeAssertion.f k (⟨#[114, 46, 115, 117, 98]⟩ : ByteArray)).bind fun t122 => (some (t122.toList == ([114, 95, 115, 117, 98] : List UInt8)))) else (some false))) = some r := by first | (rw [hy118]; with_reducible exact H) | (have H2_ := (Option.bind_some _ _).symm.trans H; rw [hy118]; with_reducible exact H2_) | (have H2_ := (Option.bind_some _ _).symm.trans H; with_reducible exact H2_) | with_reducible exact H | (rw [hy118]; exact H) | exact H
      have Ny118 := Aside0.mk hy118
      clear hy118
      replace H := Option.bind_eq_some_iff.mp H
      obtain ⟨t121, A50, H⟩ := H
      replace H : (if t121 = true then ((impl_EscapeAssertion.f k (⟨#[114, 46, 115, 117, 98]⟩ : ByteArray)).bind fun t122 => (some (t122.toList == ([114, 95, 115, 117, 98] : List UInt8)))) else (some false)) = some r := H
      have A5 := Aside0.mk A50
      clear A50
      by_cases c6 : t121 = true
      · subst c6
        have H1 : ((impl_EscapeAssertion.f k (⟨#[114, 46, 115, 117, 98]⟩ : ByteArray)).bind fun t122 => (some (t122.toList == ([114, 95, 115, 117, 98] : List UInt8)))) = some r := by rw [if_pos rfl] at H; exact H
        clear H
        have H := H1
        clear H1
        replace H := Option.bind_eq_some_iff.mp H
        obtain ⟨t122, A70, H⟩ := H
        replace H : (some (t122.toList == ([114, 95, 115, 117, 98] : List UInt8))) = some r := H
        have A7 := Aside0.mk A70
        clear A70
        obtain rfl := Option.some.inj H
        go_enter Tryd.func5, Tryd.ntmps5
        go_wp2_with (first | ((with_reducible refine gate_callee (f := 9) rfl ?_); refine goesL_ (some 1) rfl rfl Tryd.func9 (by kernel_rfl) rfl #[.string (⟨#[47, 102, 111, 111, 47, 98, 97, 114]⟩ : ByteArray), .string (⟨#[47, 102, 111, 111, 47, 42]⟩ : ByteArray)] rfl (by (try simp only [List.map_toArray, List.map_cons, List.map_nil]); first | done | rfl | (simp only [List.length_drop, List.length_take]; rfl)) ?_; (with_reducible refine (impl_KeyMatch.calls k (⟨#[47, 102, 111, 111, 47, 98, 97, 114]⟩ : ByteArray) (⟨#[47, 102, 111, 111, 47, 42]⟩ : ByteArray) true _ A1.out).mono ?_); rintro e w' ⟨rfl, ⟨nd, rfl⟩⟩; refine ⟨_, rfl, ?_⟩) | (go_at_call 10; (with_reducible refine (impl_KeyGet.calls k (⟨#[47, 102, 111, 111, 47, 98, 97, 114]⟩ : ByteArray) (⟨#[47, 102, 111, 111, 47, 42]⟩ : ByteArray) t114 _ A3.out).mono ?_); rintro e w' ⟨rfl, ⟨nd, rfl⟩⟩) | ((with_reducible refine gate_dst (N := 7) rfl ?_); (try (refine gate_guard (by rfl) ?_; dsimp only)); refine Kd.R_lit Kd.string _ 9 ?hg (N := 7) ?hd (xs := ([(⟨#[97]⟩ : ByteArray)] : List ByteArray)) (inner := [.string (⟨#[97]⟩ : ByteArray)]) (ok := fun _ => True) (okp := fun _ => True) ?hr ?hp (fun _ hk => hk) trivial (Below.refl _ _) (Nat.le_refl _) (by simp) ?_; (case hd => rfl); (case hg => rfl); (case hr => first | (go_simp; done) | (go_simp; rfl)); (case hp => exact (Reps.one (show Kd.M Kd.string _ _ _ (⟨#[97]⟩ : ByteArray) [.string (⟨#[97]⟩ : ByteArray)] from rfl) (Reps.none _ _))); intro v116 w8 ho9 hb hg_ hnew_; clear hg_ hnew_; (first | rw [← Ny115.out] at ho9 | (simp only [Int.reduceToNat] at ho9; rw [← Ny115.out] at ho9)); have n0_ := Aside0.mk (Kd.R_lower ho9 (below_size (by repeat (first | (with_reducible first | exact HB.out | apply below_alloc | apply pw_below_drewN | apply below_drew1) | exact HB.out)))); have n1_ := Aside0.mk (below_step (by repeat (first | (with_reducible first | exact HB.out | apply below_alloc | apply pw_below_drewN | apply below_drew1) | exact HB.out)) hb); clear HB; have HO117 := n0_; have HB := n1_; clear n0_ n1_; clear hb ho9) | ((with_reducible refine gate_dst (N := 8) rfl ?_); (try (refine gate_guard (by rfl) ?_; dsimp only)); refine Kd.R_lit Kd.string _ 9 ?hg (N := 8) ?hd (xs := ([(⟨#[97]⟩ : ByteArray)] : List ByteArray)) (inner := [.string (⟨#[97]⟩ : ByteArray)]) (ok := fun _ => True) (okp := fun _ => True) ?hr ?hp (fun _ hk => hk) trivial (Below.refl _ _) (Nat.le_refl _) (by simp) ?_; (case hd => rfl); (case hg => rfl); (case hr => first | (go_simp; done) | (go_simp; rfl)); (case hp => exact (Reps.one (show Kd.M Kd.string _ _ _ (⟨#[97]⟩ : ByteArray) [.string (⟨#[97]⟩ : ByteArray)] from rfl) (Reps.none _ _))); intro v119 w10 ho11 hb hg_ hnew_; clear hg_ hnew_; (first | rw [← Ny118.out] at ho11 | (simp only [Int.reduceToNat] at ho11; rw [← Ny118.out] at ho11)); have n0_ := Aside0.mk (Kd.R_elder' (by (with_reducible repeat (first | apply Kd.R_alloc | apply Kd.R_drewN | apply Kd.R_drew)); exact HO117.out) (Kd.R_base ho11) hb); have n1_ := Aside0.mk (Kd.R_lower (Kd.R_new' ho11 (Kd.R_lt (by (with_reducible repeat (first | apply Kd.R_alloc | apply Kd.R_drewN | apply Kd.R_drew)); exact HO117.out))) (below_size (by repeat (first | (with_reducible first | exact HB.out | apply below_alloc | apply pw_below_drewN | apply below_drew1) | exact HB.out)))); have n2_ := Aside0.mk (below_step (by repeat (first | (with_reducible first | exact HB.out | apply below_alloc | apply pw_below_drewN | apply below_drew1) | exact HB.out)) hb); clear HO117; clear HB; have HO117 := n0_; have HO120 := n1_; have HB := n2_; clear n0_ n1_ n2_; clear hb ho11; obtain ⟨Ao12, co12, eo12⟩ := Kd.R_slice HO117.out; subst eo12; obtain ⟨Ao13, co13, eo13⟩ := Kd.R_slice HO120.out; subst eo13) | (go_at_call 11; (with_reducible refine (impl_ArrayEquals.calls k _ _ y115 _ _ y118 true _ ?side1 ?side2 ?side3 ?side4 A5.out).mono ?_); (case side1 => repeat (first | exact (Kd.R_reads' HO117.out).2.2 | (with_reducible refine Kd.C_alloc ?_ _) | (with_reducible refine Kd.C_drewN ?_ _) | (with_reducible refine Kd.C_drew ?_))); (case side2 => exact (Kd.R_reads' HO117.out).2.1); (case side3 => repeat (first | exact (Kd.R_reads' HO120.out).2.2 | (with_reducible refine Kd.C_alloc ?_ _) | (with_reducible refine Kd.C_drewN ?_ _) | (with_reducible refine Kd.C_drew ?_))); (case side4 => exact (Kd.R_reads' HO120.out).2.1); rintro e w' ⟨rfl, ⟨nd, rfl⟩⟩) | (go_at_call 12; (with_reducible refine (impl_EscapeAssertion.calls k (⟨#[114, 46, 115, 117, 98]⟩ : ByteArray) t122 _ A7.out).mono ?_); rintro e w' ⟨rfl, ⟨nd, rfl⟩⟩))
        go_ret
        exact ⟨by first | rfl | (simp [errW_none, errW_some] <;> rfl) | (simp [*, errW_none, errW_some] <;> rfl), by repeat (first | (with_reducible first | exact HB.out | apply below_alloc | apply pw_below_drewN | apply below_drew1) | exact HB.out)⟩
      · replace c6 := Bool.eq_false_iff.mpr c6
        subst c6
        have H1 : (some false) = some r := by rw [if_neg (show ¬ (false = true) by decide)] at H; exact H
        clear H
        have H := H1
        clear H1
        obtain rfl := Option.some.inj H
        go_enter Tryd.func5, Tryd.ntmps5
        go_wp2_with (first | ((with_reducible refine gate_callee (f := 9) rfl ?_); refine goesL_ (some 1) rfl rfl Tryd.func9 (by kernel_rfl) rfl #[.string (⟨#[47, 102, 111, 111, 47, 98, 97, 114]⟩ : ByteArray), .string (⟨#[47, 102, 111, 111, 47, 42]⟩ : ByteArray)] rfl (by (try simp only [List.map_toArray, List.map_cons, List.map_nil]); first | done | rfl | (simp only [List.length_drop, List.length_take]; rfl)) ?_; (with_reducible refine (impl_KeyMatch.calls k (⟨#[47, 102, 111, 111, 47, 98, 97, 114]⟩ : ByteArray) (⟨#[47, 102, 111, 111, 47, 42]⟩ : ByteArray) true _ A1.out).mono ?_); rintro e w' ⟨rfl, ⟨nd, rfl⟩⟩; refine ⟨_, rfl, ?_⟩) | (go_at_call 10; (with_reducible refine (impl_KeyGet.calls k (⟨#[47, 102, 111, 111, 47, 98, 97, 114]⟩ : ByteArray) (⟨#[47, 102, 111, 111, 47, 42]⟩ : ByteArray) t114 _ A3.out).mono ?_); rintro e w' ⟨rfl, ⟨nd, rfl⟩⟩) | ((with_reducible refine gate_dst (N := 7) rfl ?_); (try (refine gate_guard (by rfl) ?_; dsimp only)); refine Kd.R_lit Kd.string _ 9 ?hg (N := 7) ?hd (xs := ([(⟨#[97]⟩ : ByteArray)] : List ByteArray)) (inner := [.string (⟨#[97]⟩ : ByteArray)]) (ok := fun _ => True) (okp := fun _ => True) ?hr ?hp (fun _ hk => hk) trivial (Below.refl _ _) (Nat.le_refl _) (by simp) ?_; (case hd => rfl); (case hg => rfl); (case hr => first | (go_simp; done) | (go_simp; rfl)); (case hp => exact (Reps.one (show Kd.M Kd.string _ _ _ (⟨#[97]⟩ : ByteArray) [.string (⟨#[97]⟩ : ByteArray)] from rfl) (Reps.none _ _))); intro v116 w14 ho15 hb hg_ hnew_; clear hg_ hnew_; (first | rw [← Ny115.out] at ho15 | (simp only [Int.reduceToNat] at ho15; rw [← Ny115.out] at ho15)); have n0_ := Aside0.mk (Kd.R_lower ho15 (below_size (by repeat (first | (with_reducible first | exact HB.out | apply below_alloc | apply pw_below_drewN | apply below_drew1) | exact HB.out)))); have n1_ := Aside0.mk (below_step (by repeat (first | (with_reducible first | exact HB.out | apply below_alloc | apply pw_below_drewN | apply below_drew1) | exact HB.out)) hb); clear HB; have HO117 := n0_; have HB := n1_; clear n0_ n1_; clear hb ho15) | ((with_reducible refine gate_dst (N := 8) rfl ?_); (try (refine gate_guard (by rfl) ?_; dsimp only)); refine Kd.R_lit Kd.string _ 9 ?hg (N := 8) ?hd (xs := ([(⟨#[97]⟩ : ByteArray)] : List ByteArray)) (inner := [.string (⟨#[97]⟩ : ByteArray)]) (ok := fun _ => True) (okp := fun _ => True) ?hr ?hp (fun _ hk => hk) trivial (Below.refl _ _) (Nat.le_refl _) (by simp) ?_; (case hd => rfl); (case hg => rfl); (case hr => first | (go_simp; done) | (go_simp; rfl)); (case hp => exact (Reps.one (show Kd.M Kd.string _ _ _ (⟨#[97]⟩ : ByteArray) [.string (⟨#[97]⟩ : ByteArray)] from rfl) (Reps.none _ _))); intro v119 w16 ho17 hb hg_ hnew_; clear hg_ hnew_; (first | rw [← Ny118.out] at ho17 | (simp only [Int.reduceToNat] at ho17; rw [← Ny118.out] at ho17)); have n0_ := Aside0.mk (Kd.R_elder' (by (with_reducible repeat (first | apply Kd.R_alloc | apply Kd.R_drewN | apply Kd.R_drew)); exact HO117.out) (Kd.R_base ho17) hb); have n1_ := Aside0.mk (Kd.R_lower (Kd.R_new' ho17 (Kd.R_lt (by (with_reducible repeat (first | apply Kd.R_alloc | apply Kd.R_drewN | apply Kd.R_drew)); exact HO117.out))) (below_size (by repeat (first | (with_reducible first | exact HB.out | apply below_alloc | apply pw_below_drewN | apply below_drew1) | exact HB.out)))); have n2_ := Aside0.mk (below_step (by repeat (first | (with_reducible first | exact HB.out | apply below_alloc | apply pw_below_drewN | apply below_drew1) | exact HB.out)) hb); clear HO117; clear HB; have HO117 := n0_; have HO120 := n1_; have HB := n2_; clear n0_ n1_ n2_; clear hb ho17; obtain ⟨Ao18, co18, eo18⟩ := Kd.R_slice HO117.out; subst eo18; obtain ⟨Ao19, co19, eo19⟩ := Kd.R_slice HO120.out; subst eo19) | (go_at_call 11; (with_reducible refine (impl_ArrayEquals.calls k _ _ y115 _ _ y118 false _ ?side1 ?side2 ?side3 ?side4 A5.out).mono ?_); (case side1 => repeat (first | exact (Kd.R_reads' HO117.out).2.2 | (with_reducible refine Kd.C_alloc ?_ _) | (with_reducible refine Kd.C_drewN ?_ _) | (with_reducible refine Kd.C_drew ?_))); (case side2 => exact (Kd.R_reads' HO117.out).2.1); (case side3 => repeat (first | exact (Kd.R_reads' HO120.out).2.2 | (with_reducible refine Kd.C_alloc ?_ _) | (with_reducible refine Kd.C_drewN ?_ _) | (with_reducible refine Kd.C_drew ?_))); (case side4 => exact (Kd.R_reads' HO120.out).2.1); rintro e w' ⟨rfl, ⟨nd, rfl⟩⟩))
        go_ret
        exact ⟨by first | rfl | (simp [errW_none, errW_some] <;> rfl) | (simp [*, errW_none, errW_some] <;> rfl), by repeat (first | (with_reducible first | exact HB.out | apply below_alloc | apply pw_below_drewN | apply below_drew1) | exact HB.out)⟩
    · rw [if_neg c4] at H
      have c4b0 : (t114.toList == ([98, 97, 114] : List UInt8)) = false := beq_eq_false_iff_ne.mpr c4
      have c4b1 : (t114.toList != ([98, 97, 114] : List UInt8)) = true := bne_iff_ne.mpr c4
      obtain rfl := Option.some.inj H
      go_enter Tryd.func5, Tryd.ntmps5
      go_wp2_with (first | ((with_reducible refine gate_callee (f := 9) rfl ?_); refine goesL_ (some 1) rfl rfl Tryd.func9 (by kernel_rfl) rfl #[.string (⟨#[47, 102, 111, 111, 47, 98, 97, 114]⟩ : ByteArray), .string (⟨#[47, 102, 111, 111, 47, 42]⟩ : ByteArray)] rfl (by (try simp only [List.map_toArray, List.map_cons, List.map_nil]); first | done | rfl | (simp only [List.length_drop, List.length_take]; rfl)) ?_; (with_reducible refine (impl_KeyMatch.calls k (⟨#[47, 102, 111, 111, 47, 98, 97, 114]⟩ : ByteArray) (⟨#[47, 102, 111, 111, 47, 42]⟩ : ByteArray) true _ A1.out).mono ?_); rintro e w' ⟨rfl, ⟨nd, rfl⟩⟩; refine ⟨_, rfl, ?_⟩) | (go_at_call 10; (with_reducible refine (impl_KeyGet.calls k (⟨#[47, 102, 111, 111, 47, 98, 97, 114]⟩ : ByteArray) (⟨#[47, 102, 111, 111, 47, 42]⟩ : ByteArray) t114 _ A3.out).mono ?_); rintro e w' ⟨rfl, ⟨nd, rfl⟩⟩))
      go_ret
      exact ⟨by first | rfl | (simp [errW_none, errW_some] <;> rfl) | (simp [*, errW_none, errW_some] <;> rfl), by repeat (first | (with_reducible first | exact HB.out | apply below_alloc | apply pw_below_drewN | apply below_drew1) | exact HB.out)⟩
  · replace c2 := Bool.eq_false_iff.mpr c2
    subst c2
    have H1 : (some false) = some r := by rw [if_neg (show ¬ (false = true) by decide)] at H; exact H
    clear H
    have H := H1
    clear H1
    obtain rfl := Option.some.inj H
    go_enter Tryd.func5, Tryd.ntmps5
    go_wp2_with (first | ((with_reducible refine gate_callee (f := 9) rfl ?_); refine goesL_ (some 1) rfl rfl Tryd.func9 (by kernel_rfl) rfl #[.string (⟨#[47, 102, 111, 111, 47, 98, 97, 114]⟩ : ByteArray), .string (⟨#[47, 102, 111, 111, 47, 42]⟩ : ByteArray)] rfl (by (try simp only [List.map_toArray, List.map_cons, List.map_nil]); first | done | rfl | (simp only [List.length_drop, List.length_take]; rfl)) ?_; (with_reducible refine (impl_KeyMatch.calls k (⟨#[47, 102, 111, 111, 47, 98, 97, 114]⟩ : ByteArray) (⟨#[47, 102, 111, 111, 47, 42]⟩ : ByteArray) false _ A1.out).mono ?_); rintro e w' ⟨rfl, ⟨nd, rfl⟩⟩; refine ⟨_, rfl, ?_⟩))
    go_ret
    exact ⟨by first | rfl | (simp [errW_none, errW_some] <;> rfl) | (simp [*, errW_none, errW_some] <;> rfl), by repeat (first | (with_reducible first | exact HB.out | apply below_alloc | apply pw_below_drewN | apply below_drew1) | exact HB.out)⟩

/-! ### spec_Uncommented: function 6 -/
def spec_Uncommented.l0 : Nat → ByteArray → Int → Option (ByteArray × Bool)
  | 0, _, _ => none
  | k + 1, x0, x4 => if x4 < (x0.size : Int) then (if 0 ≤ x4 then (if (bt x0 x4) = 35 then (if x4 ≤ (x0.size : Int) then (some (x0.extract 0 (x4 : Int).toNat, true)) else (none)) else (spec_Uncommented.l0 k x0 (wrap64 (x4 + 1)))) else (none)) else (some (x0, false))
def spec_Uncommented.f (k : Nat) (a0 : ByteArray) : Option (ByteArray × Bool) := spec_Uncommented.l0 k a0 0
theorem spec_Uncommented.mono_l : ∀ k, (∀ y0 y1, LeO (spec_Uncommented.l0 k y0 y1) (spec_Uncommented.l0 (k + 1) y0 y1))
  | 0 => fun _ _ r h => by simp [spec_Uncommented.l0] at h
  | k + 1 => by
    have ih0 := spec_Uncommented.mono_l k
    · intro y0 y1
      unfold spec_Uncommented.l0
      repeat' first
      | (with_reducible exact ih0 _ _)
      | (with_reducible exact LeO.refl _)
      | (with_reducible exact LeO.none _)
      | (with_reducible refine LeO.ite ?_ ?_)
      | (with_reducible refine LeO.bind ?_ (fun _ => ?_))
      | exact ih0 _ _
      | exact LeO.none _
      | refine LeO.ite ?_ ?_
      | refine LeO.bind ?_ (fun _ => ?_)
theorem spec_Uncommented.mono : ∀ a0 k, LeO (spec_Uncommented.f k a0) (spec_Uncommented.f (k + 1) a0) := by
  intro a0 k
  have ih0 := spec_Uncommented.mono_l k
  unfold spec_Uncommented.f
  repeat' first
      | (with_reducible exact ih0 _ _)
      | (with_reducible exact LeO.refl _)
      | (with_reducible exact LeO.none _)
      | (with_reducible refine LeO.ite ?_ ?_)
      | (with_reducible refine LeO.bind ?_ (fun _ => ?_))
      | exact ih0 _ _
      | exact LeO.none _
      | refine LeO.ite ?_ ?_
      | refine LeO.bind ?_ (fun _ => ?_)
set_option maxHeartbeats 8000000 in
set_option maxRecDepth 100000 in
theorem spec_Uncommented.calls (k : Nat) (a0 : ByteArray) (r1 : ByteArray) (r2 : Bool) (w : World) (h : spec_Uncommented.f k a0 = some (r1, r2)) :
    Calls Tryd.prog 6 #[.string a0] w fun e w' => e = .returned (.tuple #[.string r1, .bool r2]) ∧ Drawn0 w w' := by
  have H : (spec_Uncommented.l0 k a0 0) = some (r1, r2) := h
  clear h
  have H' := Aside0.mk H
  clear H
  go_enter Tryd.func6, Tryd.ntmps6
  go_wp2
  go_loopg [4] k (fun kq v4 w' => ∃ (x4_1 : Int), v4 = .int .i64 x4_1 ∧ Aside0 (spec_Uncommented.l0 kq a0 x4_1 = some (r1, r2)) ∧ Aside0 (kq ≤ k) ∧ Drawn0 w w')
  case atStart => exact ⟨(0), (by first | rfl | (simp; done) | (simp [*]; done)), H', ⟨Nat.le_refl _⟩, by repeat (first | exact Drawn0.refl _ | apply Drawn0.step)⟩
  case round =>
    clear H'
    obtain ⟨x4_1, rfl, HA, HK1, ⟨m1, rfl⟩⟩ := hrel
    cases gk with
    | zero => exact absurd HA.out (by simp [spec_Uncommented.l0])
    | succ k1 =>
      have H := HA.out
      clear HA
      simp only [spec_Uncommented.l0] at H
      by_cases c2 : x4_1 < (a0.size : Int)
      · rw [if_pos c2] at H
        have c2b0 : decide (x4_1 < (a0.size : Int)) = true := decide_eq_true c2
        clear c2
        by_cases c3 : 0 ≤ x4_1
        · rw [if_pos c3] at H
          have c3b0 : decide (0 ≤ x4_1) = true := decide_eq_true c3
          clear c3
          by_cases c5 : (bt a0 x4_1) = 35
          · rw [if_pos c5] at H
            have c5b0 : ((bt a0 x4_1) == 35) = true := beq_iff_eq.mpr c5
            have c5b1 : ((bt a0 x4_1) != 35) = false := bne_eq_false_iff_eq.mpr c5
            clear c5
            have c6b0 := eq_true (of_decide_eq_true (by first | (with_reducible assumption) | assumption) : 0 ≤ x4_1)
            by_cases c7 : x4_1 ≤ (a0.size : Int)
            · rw [if_pos c7] at H
              have c7b0 := eq_true c7
              have c7b1 : decide (x4_1 ≤ (a0.size : Int)) = true := decide_eq_true c7
              clear c7
              simp only [Option.some.injEq, Prod.mk.injEq] at H
              obtain ⟨rfl, rfl⟩ := H
              have p4 : 0 ≤ (x4_1 : Int) := of_decide_eq_true (by first | (with_reducible assumption) | assumption)
              have q4 : x4_1 < (a0.size : Int) := of_decide_eq_true (by first | (with_reducible assumption) | assumption)
              have hx4 := bt_at a0 x4_1
              replace p4 := eq_true p4
              replace q4 := eq_true q4
              go_wp2
              go_ret2
              exact ⟨by first | rfl | (simp; done) | (simp [*]; done), by repeat (first | exact Drawn0.refl _ | apply Drawn0.step)⟩
            · rw [if_neg c7] at H
              exact absurd H (by simp)
          · rw [if_neg c5] at H
            have c5b0 : ((bt a0 x4_1) == 35) = false := beq_eq_false_iff_ne.mpr c5
            have c5b1 : ((bt a0 x4_1) != 35) = true := bne_iff_ne.mpr c5
            have H' := Aside0.mk H
            clear H
            have p4 : 0 ≤ (x4_1 : Int) := of_decide_eq_true (by first | (with_reducible assumption) | assumption)
            have q4 : x4_1 < (a0.size : Int) := of_decide_eq_true (by first | (with_reducible assumption) | assumption)
            have hx4 := bt_at a0 x4_1
            replace p4 := eq_true p4
            replace q4 := eq_true q4
            go_wp2
            go_roundg k1
            case measure => have := HK1.out; omega
            case rel => exact ⟨(wrap64 (x4_1 + 1)), (by first | rfl | (simp; done) | (simp [*]; done)), H', ⟨by have := HK1.out; omega⟩, by repeat (first | exact Drawn0.refl _ | apply Drawn0.step)⟩
        · rw [if_neg c3] at H
          exact absurd H (by simp)
      · rw [if_neg c2] at H
        have c2b0 : decide (x4_1 < (a0.size : Int)) = false := decide_eq_false c2
        clear c2
        simp only [Option.some.injEq, Prod.mk.injEq] at H
        obtain ⟨rfl, rfl⟩ := H
        go_wp2
        go_ret2
        exact ⟨by first | rfl | (simp; done) | (simp [*]; done), by repeat (first | exact Drawn0.refl _ | apply Drawn0.step)⟩

/-! ### spec_Blank: function 13 -/
def spec_Blank.f (a0 : Int) : Option (Bool) := if a0 = 32 then (some true) else (if a0 = 9 then (some true) else (if a0 = 10 then (some true) else (if a0 = 13 then (some true) else (if a0 = 12 then (some true) else (some (a0 == 11))))))
set_option maxHeartbeats 8000000 in
set_option maxRecDepth 100000 in
theorem spec_Blank.calls (a0 : Int) (r : Bool) (w : World) (h : spec_Blank.f a0 = some r) :
    Calls Tryd.prog 13 #[.int .u8 a0] w fun e w' => e = .returned (.bool r) ∧ Drawn0 w w' := by
  have H : (if a0 = 32 then (some true) else (if a0 = 9 then (some true) else (if a0 = 10 then (some true) else (if a0 = 13 then (some true) else (if a0 = 12 then (some true) else (some (a0 == 11))))))) = some r := h
  clear h
  by_cases c2 : a0 = 32
  · rw [if_pos c2] at H
    have c2b0 : (a0 == 32) = true := beq_iff_eq.mpr c2
    have c2b1 : (a0 != 32) = false := bne_eq_false_iff_eq.mpr c2
    clear c2
    obtain rfl := Option.some.inj H
    go_enter Tryd.func13, Tryd.ntmps13
    go_wp2
    go_ret
    exact ⟨by first | rfl | (simp; done) | (simp [*]; done), by repeat (first | exact Drawn0.refl _ | apply Drawn0.step)⟩
  · rw [if_neg c2] at H
    have c2b0 : (a0 == 32) = false := beq_eq_false_iff_ne.mpr c2
    have c2b1 : (a0 != 32) = true := bne_iff_ne.mpr c2
    by_cases c3 : a0 = 9
    · rw [if_pos c3] at H
      have c3b0 : (a0 == 9) = true := beq_iff_eq.mpr c3
      have c3b1 : (a0 != 9) = false := bne_eq_false_iff_eq.mpr c3
      clear c3
      obtain rfl := Option.some.inj H
      go_enter Tryd.func13, Tryd.ntmps13
      go_wp2
      go_ret
      exact ⟨by first | rfl | (simp; done) | (simp [*]; done), by repeat (first | exact Drawn0.refl _ | apply Drawn0.step)⟩
    · rw [if_neg c3] at H
      have c3b0 : (a0 == 9) = false := beq_eq_false_iff_ne.mpr c3
      have c3b1 : (a0 != 9) = true := bne_iff_ne.mpr c3
      by_cases c4 : a0 = 10
      · rw [if_pos c4] at H
        have c4b0 : (a0 == 10) = true := beq_iff_eq.mpr c4
        have c4b1 : (a0 != 10) = false := bne_eq_false_iff_eq.mpr c4
        clear c4
        obtain rfl := Option.some.inj H
        go_enter Tryd.func13, Tryd.ntmps13
        go_wp2
        go_ret
        exact ⟨by first | rfl | (simp; done) | (simp [*]; done), by repeat (first | exact Drawn0.refl _ | apply Drawn0.step)⟩
      · rw [if_neg c4] at H
        have c4b0 : (a0 == 10) = false := beq_eq_false_iff_ne.mpr c4
        have c4b1 : (a0 != 10) = true := bne_iff_ne.mpr c4
        by_cases c5 : a0 = 13
        · rw [if_pos c5] at H
          have c5b0 : (a0 == 13) = true := beq_iff_eq.mpr c5
          have c5b1 : (a0 != 13) = false := bne_eq_false_iff_eq.mpr c5
          clear c5
          obtain rfl := Option.some.inj H
          go_enter Tryd.func13, Tryd.ntmps13
          go_wp2
          go_ret
          exact ⟨by first | rfl | (simp; done) | (simp [*]; done), by repeat (first | exact Drawn0.refl _ | apply Drawn0.step)⟩
        · rw [if_neg c5] at H
          have c5b0 : (a0 == 13) = false := beq_eq_false_iff_ne.mpr c5
          have c5b1 : (a0 != 13) = true := bne_iff_ne.mpr c5
          by_cases c6 : a0 = 12
          · rw [if_pos c6] at H
            have c6b0 : (a0 == 12) = true := beq_iff_eq.mpr c6
            have c6b1 : (a0 != 12) = false := bne_eq_false_iff_eq.mpr c6
            clear c6
            obtain rfl := Option.some.inj H
            go_enter Tryd.func13, Tryd.ntmps13
            go_wp2
            go_ret
            exact ⟨by first | rfl | (simp; done) | (simp [*]; done), by repeat (first | exact Drawn0.refl _ | apply Drawn0.step)⟩
          · rw [if_neg c6] at H
            have c6b0 : (a0 == 12) = false := beq_eq_false_iff_ne.mpr c6
            have c6b1 : (a0 != 12) = true := bne_iff_ne.mpr c6
            obtain rfl := Option.some.inj H
            go_enter Tryd.func13, Tryd.ntmps13
            go_wp2
            go_ret
            exact ⟨by first | rfl | (simp; done) | (simp [*]; done), by repeat (first | exact Drawn0.refl _ | apply Drawn0.step)⟩

end Go.Proofs.YtnbcohabllkneaaDoor.PFnComments
