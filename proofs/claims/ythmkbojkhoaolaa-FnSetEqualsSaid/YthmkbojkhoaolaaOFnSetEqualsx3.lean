/- The machine side of laws.FnSetEquals: each function of this text answers what its Lean function answers (written for this claim by a program of this session over the kit's print; no condition beyond what each theorem says). -/
import Derived.Test.YthmkbojkhoaolaaOFnSetEqualsx0
import Derived.Test.YthmkbojkhoaolaaOFnSetEqualsx1
import Derived.Test.YthmkbojkhoaolaaOFnSetEqualsx2
namespace Go.Proofs.Ythmkbojkhoaolaa.PFnSetEquals
open Go.RowKit Go.Proofs.YthmkbojkhoaolaaW.PrintWords Go.Proofs.YthmkbojkhoaolaaW.PrintLast Go.Proofs.YthmkbojkhoaolaaW.PrintMore
attribute [local go_sem] max2_int min2_int max_two min_two max_three min_three max_four min_four   -- for this text's walks alone
set_option linter.unusedVariables false
set_option linter.unusedSimpArgs false

/-! ### util_zzEscape: function 50 -/
mutual
def util_zzEscape.l0 : Nat → ByteArray → ByteArray → Int → Option (ByteArray)
  | 0, _, _, _ => none
  | k + 1, x0, x3, x4 => if x4 < (x0.size : Int) then (if 0 ≤ x4 then ((util_zzBefore.f (bt x0 x4)).bind fun t109 => (if t109 = true then ((util_zzName.f k x0 (wrap64 (x4 + 1))).bind fun t110 => (util_zzEscape.j1 k x0 x3 x4 x4 t110)) else (util_zzEscape.j1 k x0 x3 x4 x4 (-1)))) else (none)) else (some x3)
def util_zzEscape.j1 : Nat → ByteArray → ByteArray → Int → Int → Int → Option (ByteArray)
  | 0, _, _, _, _, _ => none
  | k + 1, x0, x3, x4, x5, x6 => if x6 < 0 then (util_zzEscape.j2 k x0 x3 x4 x5 x6 (x4 == 0)) else (util_zzEscape.j2 k x0 x3 x4 x5 x6 false)
def util_zzEscape.j2 : Nat → ByteArray → ByteArray → Int → Int → Int → Bool → Option (ByteArray)
  | 0, _, _, _, _, _, _ => none
  | k + 1, x0, x3, x4, x5, x6, x25 => if x25 = true then ((util_zzName.f k x0 0).bind fun t111 => (if t111 < 0 then (if 0 ≤ x4 then (if x4 ≤ (wrap64 (x4 + 1)) then (if (wrap64 (x4 + 1)) ≤ (x0.size : Int) then (if x3.size + (x0.extract (x4 : Int).toNat ((wrap64 (x4 + 1)) : Int).toNat).size ≤ 9223372036854775807 then (util_zzEscape.l0 k x0 (x3 ++ (x0.extract (x4 : Int).toNat ((wrap64 (x4 + 1)) : Int).toNat)) (wrap64 (x4 + 1))) else (none)) else (none)) else (none)) else (none)) else (if 0 ≤ x5 then (if x5 ≤ (wrap64 (t111 - 1)) then (if (wrap64 (t111 - 1)) ≤ (x0.size : Int) then (if (x0.extract (x5 : Int).toNat ((wrap64 (t111 - 1)) : Int).toNat).size + 1 ≤ 9223372036854775807 then (if x3.size + ((x0.extract (x5 : Int).toNat ((wrap64 (t111 - 1)) : Int).toNat) ++ (⟨#[95]⟩ : ByteArray)).size ≤ 9223372036854775807 then (util_zzEscape.l0 k x0 (x3 ++ ((x0.extract (x5 : Int).toNat ((wrap64 (t111 - 1)) : Int).toNat) ++ (⟨#[95]⟩ : ByteArray))) t111) else (none)) else (none)) else (none)) else (none)) else (none)))) else (if x6 < 0 then (if 0 ≤ x4 then (if x4 ≤ (wrap64 (x4 + 1)) then (if (wrap64 (x4 + 1)) ≤ (x0.size : Int) then (if x3.size + (x0.extract (x4 : Int).toNat ((wrap64 (x4 + 1)) : Int).toNat).size ≤ 9223372036854775807 then (util_zzEscape.l0 k x0 (x3 ++ (x0.extract (x4 : Int).toNat ((wrap64 (x4 + 1)) : Int).toNat)) (wrap64 (x4 + 1))) else (none)) else (none)) else (none)) else (none)) else (if 0 ≤ x5 then (if x5 ≤ (wrap64 (x6 - 1)) then (if (wrap64 (x6 - 1)) ≤ (x0.size : Int) then (if (x0.extract (x5 : Int).toNat ((wrap64 (x6 - 1)) : Int).toNat).size + 1 ≤ 9223372036854775807 then (if x3.size + ((x0.extract (x5 : Int).toNat ((wrap64 (x6 - 1)) : Int).toNat) ++ (⟨#[95]⟩ : ByteArray)).size ≤ 9223372036854775807 then (util_zzEscape.l0 k x0 (x3 ++ ((x0.extract (x5 : Int).toNat ((wrap64 (x6 - 1)) : Int).toNat) ++ (⟨#[95]⟩ : ByteArray))) x6) else (none)) else (none)) else (none)) else (none)) else (none)))
end
def util_zzEscape.f (k : Nat) (a0 : ByteArray) : Option (ByteArray) := util_zzEscape.l0 k a0 (⟨#[]⟩ : ByteArray) 0
theorem util_zzEscape.mono_l : ∀ k, (∀ y0 y1 y2, LeO (util_zzEscape.l0 k y0 y1 y2) (util_zzEscape.l0 (k + 1) y0 y1 y2)) ∧ (∀ y0 y1 y2 y3 y4, LeO (util_zzEscape.j1 k y0 y1 y2 y3 y4) (util_zzEscape.j1 (k + 1) y0 y1 y2 y3 y4)) ∧ (∀ y0 y1 y2 y3 y4 y5, LeO (util_zzEscape.j2 k y0 y1 y2 y3 y4 y5) (util_zzEscape.j2 (k + 1) y0 y1 y2 y3 y4 y5))
  | 0 => ⟨fun _ _ _ r h => by simp [util_zzEscape.l0] at h, fun _ _ _ _ _ r h => by simp [util_zzEscape.j1] at h, fun _ _ _ _ _ _ r h => by simp [util_zzEscape.j2] at h⟩
  | k + 1 => by
    obtain ⟨ih0, ih1, ih2⟩ := util_zzEscape.mono_l k
    refine ⟨?_, ?_, ?_⟩
    · intro y0 y1 y2
      unfold util_zzEscape.l0
      repeat' first
      | (with_reducible exact ih0 _ _ _)
      | (with_reducible exact ih1 _ _ _ _ _)
      | (with_reducible exact ih2 _ _ _ _ _ _)
      | (with_reducible exact util_zzName.mono _ _ _)
      | (with_reducible exact LeO.refl _)
      | (with_reducible exact LeO.none _)
      | (with_reducible refine LeO.ite ?_ ?_)
      | (with_reducible refine LeO.bind ?_ (fun _ => ?_))
      | exact ih0 _ _ _
      | exact ih1 _ _ _ _ _
      | exact ih2 _ _ _ _ _ _
      | exact util_zzName.mono _ _ _
      | exact LeO.none _
      | refine LeO.ite ?_ ?_
      | refine LeO.bind ?_ (fun _ => ?_)
    · intro y0 y1 y2 y3 y4
      unfold util_zzEscape.j1
      repeat' first
      | (with_reducible exact ih0 _ _ _)
      | (with_reducible exact ih1 _ _ _ _ _)
      | (with_reducible exact ih2 _ _ _ _ _ _)
      | (with_reducible exact util_zzName.mono _ _ _)
      | (with_reducible exact LeO.refl _)
      | (with_reducible exact LeO.none _)
      | (with_reducible refine LeO.ite ?_ ?_)
      | (with_reducible refine LeO.bind ?_ (fun _ => ?_))
      | exact ih0 _ _ _
      | exact ih1 _ _ _ _ _
      | exact ih2 _ _ _ _ _ _
      | exact util_zzName.mono _ _ _
      | exact LeO.none _
      | refine LeO.ite ?_ ?_
      | refine LeO.bind ?_ (fun _ => ?_)
    · intro y0 y1 y2 y3 y4 y5
      unfold util_zzEscape.j2
      repeat' first
      | (with_reducible exact ih0 _ _ _)
      | (with_reducible exact ih1 _ _ _ _ _)
      | (with_reducible exact ih2 _ _ _ _ _ _)
      | (with_reducible exact util_zzName.mono _ _ _)
      | (with_reducible exact LeO.refl _)
      | (with_reducible exact LeO.none _)
      | (with_reducible refine LeO.ite ?_ ?_)
      | (with_reducible refine LeO.bind ?_ (fun _ => ?_))
      | exact ih0 _ _ _
      | exact ih1 _ _ _ _ _
      | exact ih2 _ _ _ _ _ _
      | exact util_zzName.mono _ _ _
      | exact LeO.none _
      | refine LeO.ite ?_ ?_
      | refine LeO.bind ?_ (fun _ => ?_)
theorem util_zzEscape.mono : ∀ a0 k, LeO (util_zzEscape.f k a0) (util_zzEscape.f (k + 1) a0) := by
  intro a0 k
  obtain ⟨ih0, ih1, ih2⟩ := util_zzEscape.mono_l k
  unfold util_zzEscape.f
  repeat' first
      | (with_reducible exact ih0 _ _ _)
      | (with_reducible exact ih1 _ _ _ _ _)
      | (with_reducible exact ih2 _ _ _ _ _ _)
      | (with_reducible exact util_zzName.mono _ _ _)
      | (with_reducible exact LeO.refl _)
      | (with_reducible exact LeO.none _)
      | (with_reducible refine LeO.ite ?_ ?_)
      | (with_reducible refine LeO.bind ?_ (fun _ => ?_))
      | exact ih0 _ _ _
      | exact ih1 _ _ _ _ _
      | exact ih2 _ _ _ _ _ _
      | exact util_zzName.mono _ _ _
      | exact LeO.none _
      | refine LeO.ite ?_ ?_
      | refine LeO.bind ?_ (fun _ => ?_)
set_option maxHeartbeats 8000000 in
set_option maxRecDepth 100000 in
theorem util_zzEscape.calls (k : Nat) (a0 : ByteArray) (r : ByteArray) (w : World) (h : util_zzEscape.f k a0 = some r) :
    Calls Try.prog 50 #[.string a0] w fun e w' => e = .returned (.string r) ∧ Drawn0 w w' := by
  have H : (util_zzEscape.l0 k a0 (⟨#[]⟩ : ByteArray) 0) = some r := h
  clear h
  have H' := Aside0.mk H
  clear H
  go_enter Try.func50, Try.ntmps50
  go_wp2
  go_loopg [3, 4] k (fun kq v3 v4 w' => ∃ (x3_1 : ByteArray) (x4_1 : Int), v3 = .string x3_1 ∧ v4 = .int .i64 x4_1 ∧ Aside0 (util_zzEscape.l0 kq a0 x3_1 x4_1 = some r) ∧ Aside0 (kq ≤ k) ∧ Drawn0 w w')
  case atStart => exact ⟨((⟨#[]⟩ : ByteArray)), (0), (by first | rfl | (simp; done) | (simp [*]; done)), (by first | rfl | (simp; done) | (simp [*]; done)), H', ⟨Nat.le_refl _⟩, by repeat (first | exact Drawn0.refl _ | apply Drawn0.step)⟩
  case round =>
    clear H'
    obtain ⟨x3_1, x4_1, rfl, rfl, HA, HK1, ⟨m1, rfl⟩⟩ := hrel
    cases gk with
    | zero => exact absurd HA.out (by simp [util_zzEscape.l0])
    | succ k1 =>
      have H := HA.out
      clear HA
      simp only [util_zzEscape.l0] at H
      by_cases c2 : x4_1 < (a0.size : Int)
      · rw [if_pos c2] at H
        have c2b0 : decide (x4_1 < (a0.size : Int)) = true := decide_eq_true c2
        clear c2
        by_cases c3 : 0 ≤ x4_1
        · rw [if_pos c3] at H
          have c3b0 : decide (0 ≤ x4_1) = true := decide_eq_true c3
          clear c3
          replace H := Option.bind_eq_some_iff.mp H
          obtain ⟨t109, A50, H⟩ := H
          replace H : (if t109 = true then ((util_zzName.f k1 a0 (wrap64 (x4_1 + 1))).bind fun t110 => (util_zzEscape.j1 k1 a0 x3_1 x4_1 x4_1 t110)) else (util_zzEscape.j1 k1 a0 x3_1 x4_1 x4_1 (-1))) = some r := H
          have A5 := Aside0.mk A50
          clear A50
          have HC6 := Aside0.mk H
          clear H
          have p4 : 0 ≤ (x4_1 : Int) := of_decide_eq_true (by first | (with_reducible assumption) | assumption)
          have q4 : x4_1 < (a0.size : Int) := of_decide_eq_true (by first | (with_reducible assumption) | assumption)
          have hx4 := bt_at a0 x4_1
          replace p4 := eq_true p4
          replace q4 := eq_true q4
          go_upto_if 15 with (first | ((with_reducible refine gate_callee (f := 61) rfl ?_); refine goesL_ (some 15) rfl rfl Try.func61 (by kernel_rfl) rfl #[.int .u8 (bt a0 x4_1)] rfl (by (try simp only [List.map_toArray, List.map_cons, List.map_nil]); first | done | rfl | (simp only [List.length_drop, List.length_take]; rfl)) ?_; (with_reducible refine (util_zzBefore.calls (bt a0 x4_1) t109 _ A5.out).mono ?_); rintro e w' ⟨rfl, ⟨nd, rfl⟩⟩; refine ⟨_, rfl, ?_⟩))
          (try simp only [Act.put, List.setIfInBounds_toArray, List.set_cons_zero, List.set_cons_succ])
          go_cut [6] (fun v6 wc => ∃ (kq : Nat) (x6_5 : Int), v6 = .int .i64 x6_5 ∧ Aside0 (util_zzEscape.j1 kq a0 x3_1 x4_1 x4_1 x6_5 = some r) ∧ Aside0 (kq ≤ k1) ∧ Drawn0 w wc)
          case first =>
            have H := HC6.out
            clear HC6
            by_cases c7 : t109 = true
            · subst c7
              have H1 : ((util_zzName.f k1 a0 (wrap64 (x4_1 + 1))).bind fun t110 => (util_zzEscape.j1 k1 a0 x3_1 x4_1 x4_1 t110)) = some r := by rw [if_pos rfl] at H; exact H
              clear H
              have H := H1
              clear H1
              replace H := Option.bind_eq_some_iff.mp H
              obtain ⟨t110, A80, H⟩ := H
              replace H : (util_zzEscape.j1 k1 a0 x3_1 x4_1 x4_1 t110) = some r := H
              have A8 := Aside0.mk A80
              clear A80
              have H' := Aside0.mk H
              clear H
              go_wp2_with (first | ((with_reducible refine gate_callee (f := 62) rfl ?_); refine goesL_ (some 19) rfl rfl Try.func62 (by kernel_rfl) rfl #[.string a0, .int .i64 (wrap64 (x4_1 + 1))] rfl (by (try simp only [List.map_toArray, List.map_cons, List.map_nil]); first | done | rfl | (simp only [List.length_drop, List.length_take]; rfl)) ?_; (with_reducible refine (util_zzName.calls k1 a0 (wrap64 (x4_1 + 1)) t110 _ A8.out).mono ?_); rintro e w' ⟨rfl, ⟨nd, rfl⟩⟩; refine ⟨_, rfl, ?_⟩))
              go_meet
              case rel => exact ⟨_, (t110), (by first | rfl | (simp; done) | (simp [*]; done)), H', ⟨by have := HK1.out; first | omega | exact Nat.le_refl _⟩, by repeat (first | exact Drawn0.refl _ | apply Drawn0.step)⟩
            · replace c7 := Bool.eq_false_iff.mpr c7
              subst c7
              have H1 : (util_zzEscape.j1 k1 a0 x3_1 x4_1 x4_1 (-1)) = some r := by rw [if_neg (show ¬ (false = true) by decide)] at H; exact H
              clear H
              have H := H1
              clear H1
              have H' := Aside0.mk H
              clear H
              go_wp2
              go_meet
              case rel => exact ⟨_, ((-1)), (by first | rfl | (simp; done) | (simp [*]; done)), H', ⟨by have := HK1.out; first | omega | exact Nat.le_refl _⟩, by repeat (first | exact Drawn0.refl _ | apply Drawn0.step)⟩
          case rest =>
            clear HC6
            try clear c2
            try clear c2b0
            try clear p2
            try clear c3
            try clear c3b0
            try clear p4
            try clear q4
            try clear hx4
            try clear c5
            try clear c6
            try clear p6
            try clear c7
            try clear p4
            try clear q4
            obtain ⟨kq, x6_5, rfl, HA, HJ5, ⟨mc5, rfl⟩⟩ := hcut
            cases kq with
            | zero => exact absurd HA.out (by simp [util_zzEscape.j1])
            | succ kj5 =>
              have H := HA.out
              clear HA
              simp only [util_zzEscape.j1] at H
              have HC9 := Aside0.mk H
              clear H
              go_upto_region 7 with (fail)
              go_cut [25] (fun v25 wc => ∃ (kq : Nat) (x25_8 : Bool), v25 = .bool x25_8 ∧ Aside0 (util_zzEscape.j2 kq a0 x3_1 x4_1 x4_1 x6_5 x25_8 = some r) ∧ Aside0 (kq ≤ kj5) ∧ Drawn0 w wc)
              case first =>
                have H := HC9.out
                clear HC9
                by_cases c10 : x6_5 < 0
                · rw [if_pos c10] at H
                  have c10b0 : decide (x6_5 < 0) = true := decide_eq_true c10
                  clear c10
                  (first | rw [c10b0] | (simp only [i64_w, i32_w]; rw [c10b0]) | skip)
                  have H' := Aside0.mk H
                  clear H
                  go_wp2
                  go_meet
                  case rel => exact ⟨_, ((x4_1 == 0)), (by first | rfl | (simp; done) | (simp [*]; done)), H', ⟨by have := HK1.out; have := HJ5.out; first | omega | exact Nat.le_refl _⟩, by repeat (first | exact Drawn0.refl _ | apply Drawn0.step)⟩
                · rw [if_neg c10] at H
                  have c10b0 : decide (x6_5 < 0) = false := decide_eq_false c10
                  clear c10
                  (first | rw [c10b0] | (simp only [i64_w, i32_w]; rw [c10b0]) | skip)
                  have H' := Aside0.mk H
                  clear H
                  go_wp2
                  go_meet
                  case rel => exact ⟨_, (false), (by first | rfl | (simp; done) | (simp [*]; done)), H', ⟨by have := HK1.out; have := HJ5.out; first | omega | exact Nat.le_refl _⟩, by repeat (first | exact Drawn0.refl _ | apply Drawn0.step)⟩
              case rest =>
                clear HC9
                try clear c1
                try clear c2
                try clear c2b0
                try clear p2
                try clear c3
                try clear c3b0
                try clear p4
                try clear q4
                try clear hx4
                try clear c5
                try clear c6
                try clear p6
                try clear c7
                try clear c10
                try clear c10b0
                try clear p2
                try clear p4
                try clear p6
                try clear q4
                obtain ⟨kq, x25_8, rfl, HA, HJ8, ⟨mc8, rfl⟩⟩ := hcut
                cases kq with
                | zero => exact absurd HA.out (by simp [util_zzEscape.j2])
                | succ kj8 =>
                  have H := HA.out
                  clear HA
                  simp only [util_zzEscape.j2] at H
                  by_cases c11 : x25_8 = true
                  · subst c11
                    have H1 : ((util_zzName.f kj8 a0 0).bind fun t111 => (if t111 < 0 then (if 0 ≤ x4_1 then (if x4_1 ≤ (wrap64 (x4_1 + 1)) then (if (wrap64 (x4_1 + 1)) ≤ (a0.size : Int) then (if x3_1.size + (a0.extract (x4_1 : Int).toNat ((wrap64 (x4_1 + 1)) : Int).toNat).size ≤ 9223372036854775807 then (util_zzEscape.l0 kj8 a0 (x3_1 ++ (a0.extract (x4_1 : Int).toNat ((wrap64 (x4_1 + 1)) : Int).toNat)) (wrap64 (x4_1 + 1))) else (none)) else (none)) else (none)) else (none)) else (if 0 ≤ x4_1 then (if x4_1 ≤ (wrap64 (t111 - 1)) then (if (wrap64 (t111 - 1)) ≤ (a0.size : Int) then (if (a0.extract (x4_1 : Int).toNat ((wrap64 (t111 - 1)) : Int).toNat).size + 1 ≤ 9223372036854775807 then (if x3_1.size + ((a0.extract (x4_1 : Int).toNat ((wrap64 (t111 - 1)) : Int).toNat) ++ (⟨#[95]⟩ : ByteArray)).size ≤ 9223372036854775807 then (util_zzEscape.l0 kj8 a0 (x3_1 ++ ((a0.extract (x4_1 : Int).toNat ((wrap64 (t111 - 1)) : Int).toNat) ++ (⟨#[95]⟩ : ByteArray))) t111) else (none)) else (none)) else (none)) else (none)) else (none)))) = some r := by rw [if_pos rfl] at H; exact H
                    clear H
                    have H := H1
                    clear H1
                    replace H := Option.bind_eq_some_iff.mp H
                    obtain ⟨t111, A120, H⟩ := H
                    replace H : (if t111 < 0 then (if 0 ≤ x4_1 then (if x4_1 ≤ (wrap64 (x4_1 + 1)) then (if (wrap64 (x4_1 + 1)) ≤ (a0.size : Int) then (if x3_1.size + (a0.extract (x4_1 : Int).toNat ((wrap64 (x4_1 + 1)) : Int).toNat).size ≤ 9223372036854775807 then (util_zzEscape.l0 kj8 a0 (x3_1 ++ (a0.extract (x4_1 : Int).toNat ((wrap64 (x4_1 + 1)) : Int).toNat)) (wrap64 (x4_1 + 1))) else (none)) else (none)) else (none)) else (none)) else (if 0 ≤ x4_1 then (if x4_1 ≤ (wrap64 (t111 - 1)) then (if (wrap64 (t111 - 1)) ≤ (a0.size : Int) then (if (a0.extract (x4_1 : Int).toNat ((wrap64 (t111 - 1)) : Int).toNat).size + 1 ≤ 9223372036854775807 then (if x3_1.size + ((a0.extract (x4_1 : Int).toNat ((wrap64 (t111 - 1)) : Int).toNat) ++ (⟨#[95]⟩ : ByteArray)).size ≤ 9223372036854775807 then (util_zzEscape.l0 kj8 a0 (x3_1 ++ ((a0.extract (x4_1 : Int).toNat ((wrap64 (t111 - 1)) : Int).toNat) ++ (⟨#[95]⟩ : ByteArray))) t111) else (none)) else (none)) else (none)) else (none)) else (none))) = some r := H
                    have A12 := Aside0.mk A120
                    clear A120
                    by_cases c13 : t111 < 0
                    · rw [if_pos c13] at H
                      have c13b0 : decide (t111 < 0) = true := decide_eq_true c13
                      clear c13
                      by_cases c14 : 0 ≤ x4_1
                      · rw [if_pos c14] at H
                        have c14b0 := eq_true c14
                        have c14b1 : decide (0 ≤ x4_1) = true := decide_eq_true c14
                        clear c14
                        by_cases c15 : x4_1 ≤ (wrap64 (x4_1 + 1))
                        · rw [if_pos c15] at H
                          have c15b0 := eq_true c15
                          have c15b1 : decide (x4_1 ≤ (wrap64 (x4_1 + 1))) = true := decide_eq_true c15
                          by_cases c16 : (wrap64 (x4_1 + 1)) ≤ (a0.size : Int)
                          · rw [if_pos c16] at H
                            have c16b0 := eq_true c16
                            have c16b1 : decide ((wrap64 (x4_1 + 1)) ≤ (a0.size : Int)) = true := decide_eq_true c16
                            by_cases c17 : x3_1.size + (a0.extract (x4_1 : Int).toNat ((wrap64 (x4_1 + 1)) : Int).toNat).size ≤ 9223372036854775807
                            · rw [if_pos c17] at H
                              have c17b0 := eq_true c17
                              have c17b1 : decide (x3_1.size + (a0.extract (x4_1 : Int).toNat ((wrap64 (x4_1 + 1)) : Int).toNat).size ≤ 9223372036854775807) = true := decide_eq_true c17
                              try have c17b2 : (9223372036854775807 < x3_1.size + (a0.extract (x4_1 : Int).toNat ((wrap64 (x4_1 + 1)) : Int).toNat).size) = False := eq_false (Nat.not_lt.2 c17)
                              have H' := Aside0.mk H
                              clear H
                              go_wp2_with (first | ((with_reducible refine gate_callee (f := 62) rfl ?_); refine goesL_ (some 27) rfl rfl Try.func62 (by kernel_rfl) rfl #[.string a0, .int .i64 0] rfl (by (try simp only [List.map_toArray, List.map_cons, List.map_nil]); first | done | rfl | (simp only [List.length_drop, List.length_take]; rfl)) ?_; (with_reducible refine (util_zzName.calls kj8 a0 0 t111 _ A12.out).mono ?_); rintro e w' ⟨rfl, ⟨nd, rfl⟩⟩; refine ⟨_, rfl, ?_⟩))
                              go_roundg kj8
                              case measure => have := HK1.out; have := HJ5.out; have := HJ8.out; omega
                              case rel => exact ⟨(x3_1 ++ (a0.extract (x4_1 : Int).toNat ((wrap64 (x4_1 + 1)) : Int).toNat)), (wrap64 (x4_1 + 1)), (by first | rfl | (simp; done) | (simp [*]; done)), (by first | rfl | (simp; done) | (simp [*]; done)), H', ⟨by have := HK1.out; have := HJ5.out; have := HJ8.out; omega⟩, by repeat (first | exact Drawn0.refl _ | apply Drawn0.step)⟩
                            · rw [if_neg c17] at H
                              exact absurd H (by simp)
                          · rw [if_neg c16] at H
                            exact absurd H (by simp)
                        · rw [if_neg c15] at H
                          exact absurd H (by simp)
                      · rw [if_neg c14] at H
                        exact absurd H (by simp)
                    · rw [if_neg c13] at H
                      have c13b0 : decide (t111 < 0) = false := decide_eq_false c13
                      clear c13
                      by_cases c18 : 0 ≤ x4_1
                      · rw [if_pos c18] at H
                        have c18b0 := eq_true c18
                        have c18b1 : decide (0 ≤ x4_1) = true := decide_eq_true c18
                        clear c18
                        by_cases c19 : x4_1 ≤ (wrap64 (t111 - 1))
                        · rw [if_pos c19] at H
                          have c19b0 := eq_true c19
                          have c19b1 : decide (x4_1 ≤ (wrap64 (t111 - 1))) = true := decide_eq_true c19
                          clear c19
                          by_cases c20 : (wrap64 (t111 - 1)) ≤ (a0.size : Int)
                          · rw [if_pos c20] at H
                            have c20b0 := eq_true c20
                            have c20b1 : decide ((wrap64 (t111 - 1)) ≤ (a0.size : Int)) = true := decide_eq_true c20
                            clear c20
                            by_cases c21 : (a0.extract (x4_1 : Int).toNat ((wrap64 (t111 - 1)) : Int).toNat).size + 1 ≤ 9223372036854775807
                            · rw [if_pos c21] at H
                              have c21b0 := eq_true c21
                              have c21b1 : decide ((a0.extract (x4_1 : Int).toNat ((wrap64 (t111 - 1)) : Int).toNat).size + 1 ≤ 9223372036854775807) = true := decide_eq_true c21
                              try have c21b2 : (9223372036854775807 < (a0.extract (x4_1 : Int).toNat ((wrap64 (t111 - 1)) : Int).toNat).size + 1) = False := eq_false (Nat.not_lt.2 c21)
                              have c21b9 : (9223372036854775807 < ((wrap64 (t111 - 1))).toNat - (x4_1).toNat + 1) = False := eq_false (by have q := c21; rw [ByteArray.size_extract] at q; have := of_decide_eq_true c20b1; omega)
                              by_cases c22 : x3_1.size + ((a0.extract (x4_1 : Int).toNat ((wrap64 (t111 - 1)) : Int).toNat) ++ (⟨#[95]⟩ : ByteArray)).size ≤ 9223372036854775807
                              · rw [if_pos c22] at H
                                have c22b0 := eq_true c22
                                have c22b1 : decide (x3_1.size + ((a0.extract (x4_1 : Int).toNat ((wrap64 (t111 - 1)) : Int).toNat) ++ (⟨#[95]⟩ : ByteArray)).size ≤ 9223372036854775807) = true := decide_eq_true c22
                                try have c22b2 : (9223372036854775807 < x3_1.size + ((a0.extract (x4_1 : Int).toNat ((wrap64 (t111 - 1)) : Int).toNat) ++ (⟨#[95]⟩ : ByteArray)).size) = False := eq_false (Nat.not_lt.2 c22)
                                have H' := Aside0.mk H
                                clear H
                                go_wp2_with (first | ((with_reducible refine gate_callee (f := 62) rfl ?_); refine goesL_ (some 27) rfl rfl Try.func62 (by kernel_rfl) rfl #[.string a0, .int .i64 0] rfl (by (try simp only [List.map_toArray, List.map_cons, List.map_nil]); first | done | rfl | (simp only [List.length_drop, List.length_take]; rfl)) ?_; (with_reducible refine (util_zzName.calls kj8 a0 0 t111 _ A12.out).mono ?_); rintro e w' ⟨rfl, ⟨nd, rfl⟩⟩; refine ⟨_, rfl, ?_⟩))
                                go_roundg kj8
                                case measure => have := HK1.out; have := HJ5.out; have := HJ8.out; omega
                                case rel => exact ⟨(x3_1 ++ ((a0.extract (x4_1 : Int).toNat ((wrap64 (t111 - 1)) : Int).toNat) ++ (⟨#[95]⟩ : ByteArray))), (t111), (by first | rfl | (simp; done) | (simp [*]; done)), (by first | rfl | (simp; done) | (simp [*]; done)), H', ⟨by have := HK1.out; have := HJ5.out; have := HJ8.out; omega⟩, by repeat (first | exact Drawn0.refl _ | apply Drawn0.step)⟩
                              · rw [if_neg c22] at H
                                exact absurd H (by simp)
                            · rw [if_neg c21] at H
                              exact absurd H (by simp)
                          · rw [if_neg c20] at H
                            exact absurd H (by simp)
                        · rw [if_neg c19] at H
                          exact absurd H (by simp)
                      · rw [if_neg c18] at H
                        exact absurd H (by simp)
                  · replace c11 := Bool.eq_false_iff.mpr c11
                    subst c11
                    have H1 : (if x6_5 < 0 then (if 0 ≤ x4_1 then (if x4_1 ≤ (wrap64 (x4_1 + 1)) then (if (wrap64 (x4_1 + 1)) ≤ (a0.size : Int) then (if x3_1.size + (a0.extract (x4_1 : Int).toNat ((wrap64 (x4_1 + 1)) : Int).toNat).size ≤ 9223372036854775807 then (util_zzEscape.l0 kj8 a0 (x3_1 ++ (a0.extract (x4_1 : Int).toNat ((wrap64 (x4_1 + 1)) : Int).toNat)) (wrap64 (x4_1 + 1))) else (none)) else (none)) else (none)) else (none)) else (if 0 ≤ x4_1 then (if x4_1 ≤ (wrap64 (x6_5 - 1)) then (if (wrap64 (x6_5 - 1)) ≤ (a0.size : Int) then (if (a0.extract (x4_1 : Int).toNat ((wrap64 (x6_5 - 1)) : Int).toNat).size + 1 ≤ 9223372036854775807 then (if x3_1.size + ((a0.extract (x4_1 : Int).toNat ((wrap64 (x6_5 - 1)) : Int).toNat) ++ (⟨#[95]⟩ : ByteArray)).size ≤ 9223372036854775807 then (util_zzEscape.l0 kj8 a0 (x3_1 ++ ((a0.extract (x4_1 : Int).toNat ((wrap64 (x6_5 - 1)) : Int).toNat) ++ (⟨#[95]⟩ : ByteArray))) x6_5) else (none)) else (none)) else (none)) else (none)) else (none))) = some r := by rw [if_neg (show ¬ (false = true) by decide)] at H; exact H
                    clear H
                    have H := H1
                    clear H1
                    by_cases c23 : x6_5 < 0
                    · rw [if_pos c23] at H
                      have c23b0 : decide (x6_5 < 0) = true := decide_eq_true c23
                      clear c23
                      by_cases c24 : 0 ≤ x4_1
                      · rw [if_pos c24] at H
                        have c24b0 := eq_true c24
                        have c24b1 : decide (0 ≤ x4_1) = true := decide_eq_true c24
                        clear c24
                        by_cases c25 : x4_1 ≤ (wrap64 (x4_1 + 1))
                        · rw [if_pos c25] at H
                          have c25b0 := eq_true c25
                          have c25b1 : decide (x4_1 ≤ (wrap64 (x4_1 + 1))) = true := decide_eq_true c25
                          by_cases c26 : (wrap64 (x4_1 + 1)) ≤ (a0.size : Int)
                          · rw [if_pos c26] at H
                            have c26b0 := eq_true c26
                            have c26b1 : decide ((wrap64 (x4_1 + 1)) ≤ (a0.size : Int)) = true := decide_eq_true c26
                            by_cases c27 : x3_1.size + (a0.extract (x4_1 : Int).toNat ((wrap64 (x4_1 + 1)) : Int).toNat).size ≤ 9223372036854775807
                            · rw [if_pos c27] at H
                              have c27b0 := eq_true c27
                              have c27b1 : decide (x3_1.size + (a0.extract (x4_1 : Int).toNat ((wrap64 (x4_1 + 1)) : Int).toNat).size ≤ 9223372036854775807) = true := decide_eq_true c27
                              try have c27b2 : (9223372036854775807 < x3_1.size + (a0.extract (x4_1 : Int).toNat ((wrap64 (x4_1 + 1)) : Int).toNat).size) = False := eq_false (Nat.not_lt.2 c27)
                              have H' := Aside0.mk H
                              clear H
                              go_wp2
                              go_roundg kj8
                              case measure => have := HK1.out; have := HJ5.out; have := HJ8.out; omega
                              case rel => exact ⟨(x3_1 ++ (a0.extract (x4_1 : Int).toNat ((wrap64 (x4_1 + 1)) : Int).toNat)), (wrap64 (x4_1 + 1)), (by first | rfl | (simp; done) | (simp [*]; done)), (by first | rfl | (simp; done) | (simp [*]; done)), H', ⟨by have := HK1.out; have := HJ5.out; have := HJ8.out; omega⟩, by repeat (first | exact Drawn0.refl _ | apply Drawn0.step)⟩
                            · rw [if_neg c27] at H
                              exact absurd H (by simp)
                          · rw [if_neg c26] at H
                            exact absurd H (by simp)
                        · rw [if_neg c25] at H
                          exact absurd H (by simp)
                      · rw [if_neg c24] at H
                        exact absurd H (by simp)
                    · rw [if_neg c23] at H
                      have c23b0 : decide (x6_5 < 0) = false := decide_eq_false c23
                      clear c23
                      by_cases c28 : 0 ≤ x4_1
                      · rw [if_pos c28] at H
                        have c28b0 := eq_true c28
                        have c28b1 : decide (0 ≤ x4_1) = true := decide_eq_true c28
                        clear c28
                        by_cases c29 : x4_1 ≤ (wrap64 (x6_5 - 1))
                        · rw [if_pos c29] at H
                          have c29b0 := eq_true c29
                          have c29b1 : decide (x4_1 ≤ (wrap64 (x6_5 - 1))) = true := decide_eq_true c29
                          clear c29
                          by_cases c30 : (wrap64 (x6_5 - 1)) ≤ (a0.size : Int)
                          · rw [if_pos c30] at H
                            have c30b0 := eq_true c30
                            have c30b1 : decide ((wrap64 (x6_5 - 1)) ≤ (a0.size : Int)) = true := decide_eq_true c30
                            clear c30
                            by_cases c31 : (a0.extract (x4_1 : Int).toNat ((wrap64 (x6_5 - 1)) : Int).toNat).size + 1 ≤ 9223372036854775807
                            · rw [if_pos c31] at H
                              have c31b0 := eq_true c31
                              have c31b1 : decide ((a0.extract (x4_1 : Int).toNat ((wrap64 (x6_5 - 1)) : Int).toNat).size + 1 ≤ 9223372036854775807) = true := decide_eq_true c31
                              try have c31b2 : (9223372036854775807 < (a0.extract (x4_1 : Int).toNat ((wrap64 (x6_5 - 1)) : Int).toNat).size + 1) = False := eq_false (Nat.not_lt.2 c31)
                              have c31b9 : (9223372036854775807 < ((wrap64 (x6_5 - 1))).toNat - (x4_1).toNat + 1) = False := eq_false (by have q := c31; rw [ByteArray.size_extract] at q; have := of_decide_eq_true c30b1; omega)
                              by_cases c32 : x3_1.size + ((a0.extract (x4_1 : Int).toNat ((wrap64 (x6_5 - 1)) : Int).toNat) ++ (⟨#[95]⟩ : ByteArray)).size ≤ 9223372036854775807
                              · rw [if_pos c32] at H
                                have c32b0 := eq_true c32
                                have c32b1 : decide (x3_1.size + ((a0.extract (x4_1 : Int).toNat ((wrap64 (x6_5 - 1)) : Int).toNat) ++ (⟨#[95]⟩ : ByteArray)).size ≤ 9223372036854775807) = true := decide_eq_true c32
                                try have c32b2 : (9223372036854775807 < x3_1.size + ((a0.extract (x4_1 : Int).toNat ((wrap64 (x6_5 - 1)) : Int).toNat) ++ (⟨#[95]⟩ : ByteArray)).size) = False := eq_false (Nat.not_lt.2 c32)
                                have H' := Aside0.mk H
                                clear H
                                go_wp2
                                go_roundg kj8
                                case measure => have := HK1.out; have := HJ5.out; have := HJ8.out; omega
                                case rel => exact ⟨(x3_1 ++ ((a0.extract (x4_1 : Int).toNat ((wrap64 (x6_5 - 1)) : Int).toNat) ++ (⟨#[95]⟩ : ByteArray))), (x6_5), (by first | rfl | (simp; done) | (simp [*]; done)), (by first | rfl | (simp; done) | (simp [*]; done)), H', ⟨by have := HK1.out; have := HJ5.out; have := HJ8.out; omega⟩, by repeat (first | exact Drawn0.refl _ | apply Drawn0.step)⟩
                              · rw [if_neg c32] at H
                                exact absurd H (by simp)
                            · rw [if_neg c31] at H
                              exact absurd H (by simp)
                          · rw [if_neg c30] at H
                            exact absurd H (by simp)
                        · rw [if_neg c29] at H
                          exact absurd H (by simp)
                      · rw [if_neg c28] at H
                        exact absurd H (by simp)
        · rw [if_neg c3] at H
          exact absurd H (by simp)
      · rw [if_neg c2] at H
        have c2b0 : decide (x4_1 < (a0.size : Int)) = false := decide_eq_false c2
        clear c2
        obtain rfl := Option.some.inj H
        go_wp2
        go_ret
        exact ⟨by first | rfl | (simp; done) | (simp [*]; done), by repeat (first | exact Drawn0.refl _ | apply Drawn0.step)⟩

/-! ### util_EscapeAssertion: function 43 -/
def util_EscapeAssertion.f (k : Nat) (a0 : ByteArray) : Option (ByteArray) := (util_zzEscape.f k a0).bind fun t112 => (some t112)
theorem util_EscapeAssertion.mono : ∀ a0 k, LeO (util_EscapeAssertion.f k a0) (util_EscapeAssertion.f (k + 1) a0) := by
  intro a0 k
  unfold util_EscapeAssertion.f
  repeat' first
      | (with_reducible exact util_zzEscape.mono _ _)
      | (with_reducible exact LeO.refl _)
      | (with_reducible exact LeO.none _)
      | (with_reducible refine LeO.ite ?_ ?_)
      | (with_reducible refine LeO.bind ?_ (fun _ => ?_))
      | exact util_zzEscape.mono _ _
      | exact LeO.none _
      | refine LeO.ite ?_ ?_
      | refine LeO.bind ?_ (fun _ => ?_)
set_option maxHeartbeats 8000000 in
set_option maxRecDepth 100000 in
theorem util_EscapeAssertion.calls (k : Nat) (a0 : ByteArray) (r : ByteArray) (w : World) (h : util_EscapeAssertion.f k a0 = some r) :
    Calls Try.prog 43 #[.string a0] w fun e w' => e = .returned (.string r) ∧ Drawn0 w w' := by
  have H : ((util_zzEscape.f k a0).bind fun t112 => (some t112)) = some r := h
  clear h
  replace H := Option.bind_eq_some_iff.mp H
  obtain ⟨t112, A20, H⟩ := H
  replace H : (some t112) = some r := H
  have A2 := Aside0.mk A20
  clear A20
  obtain rfl := Option.some.inj H
  go_enter Try.func43, Try.ntmps43
  go_wp2_with (first | ((with_reducible refine gate_callee (f := 50) rfl ?_); refine goesL_ (some 4) rfl rfl Try.func50 (by kernel_rfl) rfl #[.string a0] rfl (by (try simp only [List.map_toArray, List.map_cons, List.map_nil]); first | done | rfl | (simp only [List.length_drop, List.length_take]; rfl)) ?_; (with_reducible refine (util_zzEscape.calls k a0 t112 _ A2.out).mono ?_); rintro e w' ⟨rfl, ⟨nd, rfl⟩⟩; refine ⟨_, rfl, ?_⟩))
  go_ret
  exact ⟨by first | rfl | (simp; done) | (simp [*]; done), by repeat (first | exact Drawn0.refl _ | apply Drawn0.step)⟩

/-! ### impl_EscapeAssertion: function 29 -/
def impl_EscapeAssertion.f (k : Nat) (a0 : ByteArray) : Option (ByteArray) := (util_EscapeAssertion.f k a0).bind fun t113 => (some t113)
theorem impl_EscapeAssertion.mono : ∀ a0 k, LeO (impl_EscapeAssertion.f k a0) (impl_EscapeAssertion.f (k + 1) a0) := by
  intro a0 k
  unfold impl_EscapeAssertion.f
  repeat' first
      | (with_reducible exact util_EscapeAssertion.mono _ _)
      | (with_reducible exact LeO.refl _)
      | (with_reducible exact LeO.none _)
      | (with_reducible refine LeO.ite ?_ ?_)
      | (with_reducible refine LeO.bind ?_ (fun _ => ?_))
      | exact util_EscapeAssertion.mono _ _
      | exact LeO.none _
      | refine LeO.ite ?_ ?_
      | refine LeO.bind ?_ (fun _ => ?_)
set_option maxHeartbeats 8000000 in
set_option maxRecDepth 100000 in
theorem impl_EscapeAssertion.calls (k : Nat) (a0 : ByteArray) (r : ByteArray) (w : World) (h : impl_EscapeAssertion.f k a0 = some r) :
    Calls Try.prog 29 #[.string a0] w fun e w' => e = .returned (.string r) ∧ Drawn0 w w' := by
  have H : ((util_EscapeAssertion.f k a0).bind fun t113 => (some t113)) = some r := h
  clear h
  replace H := Option.bind_eq_some_iff.mp H
  obtain ⟨t113, A20, H⟩ := H
  replace H : (some t113) = some r := H
  have A2 := Aside0.mk A20
  clear A20
  obtain rfl := Option.some.inj H
  go_enter Try.func29, Try.ntmps29
  go_wp2_with (first | ((with_reducible refine gate_callee (f := 43) rfl ?_); refine goesL_ (some 4) rfl rfl Try.func43 (by kernel_rfl) rfl #[.string a0] rfl (by (try simp only [List.map_toArray, List.map_cons, List.map_nil]); first | done | rfl | (simp only [List.length_drop, List.length_take]; rfl)) ?_; (with_reducible refine (util_EscapeAssertion.calls k a0 t113 _ A2.out).mono ?_); rintro e w' ⟨rfl, ⟨nd, rfl⟩⟩; refine ⟨_, rfl, ?_⟩))
  go_ret
  exact ⟨by first | rfl | (simp; done) | (simp [*]; done), by repeat (first | exact Drawn0.refl _ | apply Drawn0.step)⟩

/-! ### laws_awakeUtil: function 9 -/
def laws_awakeUtil.f (k : Nat)  : Option (Bool) := (impl_KeyMatch.f k (⟨#[47, 102, 111, 111, 47, 98, 97, 114]⟩ : ByteArray) (⟨#[47, 102, 111, 111, 47, 42]⟩ : ByteArray)).bind fun t114 => (if t114 = true then ((impl_KeyGet.f k (⟨#[47, 102, 111, 111, 47, 98, 97, 114]⟩ : ByteArray) (⟨#[47, 102, 111, 111, 47, 42]⟩ : ByteArray)).bind fun t115 => (if t115.toList = ([98, 97, 114] : List UInt8) then ((impl_ArrayEquals.f k (([(⟨#[97]⟩ : ByteArray)] : List ByteArray)) (([(⟨#[97]⟩ : ByteArray)] : List ByteArray))).bind fun t122 => (if t122 = true then ((impl_EscapeAssertion.f k (⟨#[114, 46, 115, 117, 98]⟩ : ByteArray)).bind fun t123 => (some (t123.toList == ([114, 95, 115, 117, 98] : List UInt8)))) else (some false))) else (some false))) else (some false))
theorem laws_awakeUtil.mono : ∀ k, LeO (laws_awakeUtil.f k ) (laws_awakeUtil.f (k + 1) ) := by
  intro  k
  unfold laws_awakeUtil.f
  repeat' first
      | (with_reducible exact impl_ArrayEquals.mono _ _ _)
      | (with_reducible exact impl_EscapeAssertion.mono _ _)
      | (with_reducible exact impl_KeyGet.mono _ _ _)
      | (with_reducible exact impl_KeyMatch.mono _ _ _)
      | (with_reducible exact LeO.refl _)
      | (with_reducible exact LeO.none _)
      | (with_reducible refine LeO.ite ?_ ?_)
      | (with_reducible refine LeO.bind ?_ (fun _ => ?_))
      | exact impl_ArrayEquals.mono _ _ _
      | exact impl_EscapeAssertion.mono _ _
      | exact impl_KeyGet.mono _ _ _
      | exact impl_KeyMatch.mono _ _ _
      | exact LeO.none _
      | refine LeO.ite ?_ ?_
      | refine LeO.bind ?_ (fun _ => ?_)
set_option maxHeartbeats 8000000 in
set_option maxRecDepth 100000 in
theorem laws_awakeUtil.calls (k : Nat)  (r : Bool) (w : World) (h : laws_awakeUtil.f k  = some r) :
    Calls Try.prog 9 #[] w fun e w' => e = .returned (.bool r) ∧ Below w.heap.size w w' := by
  have HB := Aside0.mk (Below.refl w.heap.size w)
  have H : ((impl_KeyMatch.f k (⟨#[47, 102, 111, 111, 47, 98, 97, 114]⟩ : ByteArray) (⟨#[47, 102, 111, 111, 47, 42]⟩ : ByteArray)).bind fun t114 => (if t114 = true then ((impl_KeyGet.f k (⟨#[47, 102, 111, 111, 47, 98, 97, 114]⟩ : ByteArray) (⟨#[47, 102, 111, 111, 47, 42]⟩ : ByteArray)).bind fun t115 => (if t115.toList = ([98, 97, 114] : List UInt8) then ((impl_ArrayEquals.f k (([(⟨#[97]⟩ : ByteArray)] : List ByteArray)) (([(⟨#[97]⟩ : ByteArray)] : List ByteArray))).bind fun t122 => (if t122 = true then ((impl_EscapeAssertion.f k (⟨#[114, 46, 115, 117, 98]⟩ : ByteArray)).bind fun t123 => (some (t123.toList == ([114, 95, 115, 117, 98] : List UInt8)))) else (some false))) else (some false))) else (some false))) = some r := h
  clear h
  replace H := Option.bind_eq_some_iff.mp H
  obtain ⟨t114, A10, H⟩ := H
  replace H : (if t114 = true then ((impl_KeyGet.f k (⟨#[47, 102, 111, 111, 47, 98, 97, 114]⟩ : ByteArray) (⟨#[47, 102, 111, 111, 47, 42]⟩ : ByteArray)).bind fun t115 => (if t115.toList = ([98, 97, 114] : List UInt8) then ((impl_ArrayEquals.f k (([(⟨#[97]⟩ : ByteArray)] : List ByteArray)) (([(⟨#[97]⟩ : ByteArray)] : List ByteArray))).bind fun t122 => (if t122 = true then ((impl_EscapeAssertion.f k (⟨#[114, 46, 115, 117, 98]⟩ : ByteArray)).bind fun t123 => (some (t123.toList == ([114, 95, 115, 117, 98] : List UInt8)))) else (some false))) else (some false))) else (some false)) = some r := H
  have A1 := Aside0.mk A10
  clear A10
  by_cases c2 : t114 = true
  · subst c2
    have H1 : ((impl_KeyGet.f k (⟨#[47, 102, 111, 111, 47, 98, 97, 114]⟩ : ByteArray) (⟨#[47, 102, 111, 111, 47, 42]⟩ : ByteArray)).bind fun t115 => (if t115.toList = ([98, 97, 114] : List UInt8) then ((impl_ArrayEquals.f k (([(⟨#[97]⟩ : ByteArray)] : List ByteArray)) (([(⟨#[97]⟩ : ByteArray)] : List ByteArray))).bind fun t122 => (if t122 = true then ((impl_EscapeAssertion.f k (⟨#[114, 46, 115, 117, 98]⟩ : ByteArray)).bind fun t123 => (some (t123.toList == ([114, 95, 115, 117, 98] : List UInt8)))) else (some false))) else (some false))) = some r := by rw [if_pos rfl] at H; exact H
    clear H
    have H := H1
    clear H1
    replace H := Option.bind_eq_some_iff.mp H
    obtain ⟨t115, A30, H⟩ := H
    replace H : (if t115.toList = ([98, 97, 114] : List UInt8) then ((impl_ArrayEquals.f k (([(⟨#[97]⟩ : ByteArray)] : List ByteArray)) (([(⟨#[97]⟩ : ByteArray)] : List ByteArray))).bind fun t122 => (if t122 = true then ((impl_EscapeAssertion.f k (⟨#[114, 46, 115, 117, 98]⟩ : ByteArray)).bind fun t123 => (some (t123.toList == ([114, 95, 115, 117, 98] : List UInt8)))) else (some false))) else (some false)) = some r := H
    have A3 := Aside0.mk A30
    clear A30
    by_cases c4 : t115.toList = ([98, 97, 114] : List UInt8)
    · rw [if_pos c4] at H
      have c4b0 : (t115.toList == ([98, 97, 114] : List UInt8)) = true := beq_iff_eq.mpr c4
      have c4b1 : (t115.toList != ([98, 97, 114] : List UInt8)) = false := bne_eq_false_iff_eq.mpr c4
      clear c4
      obtain ⟨y116, hy116⟩ : ∃ y_ : List ByteArray, y_ = (([(⟨#[97]⟩ : ByteArray)] : List ByteArray)) := ⟨_, rfl⟩
      replace H : ((impl_ArrayEquals.f k y116 (([(⟨#[97]⟩ : ByteArray)] : List ByteArray))).bind fun t122 => (if t122 = true then ((impl_EscapeAssertion.f k (⟨#[114, 46, 115, 117, 98]⟩ : ByteArray)).bind fun t123 => (some (t123.toList == ([114, 95, 115, 117, 98] : List UInt8)))) else (some false))) = some r := by first | (rw [hy116]; with_reducible exact H) | (have H2_ := (Option.bind_some _ _).symm.trans H; rw [hy116]; with_reducible exact H2_) | (have H2_ := (Option.bind_some _ _).symm.trans H; with_reducible exact H2_) | with_reducible exact H | (rw [hy116]; exact H) | exact H
      have Ny116 := Aside0.mk hy116
      clear hy116
      obtain ⟨y119, hy119⟩ : ∃ y_ : List ByteArray, y_ = (([(⟨#[97]⟩ : ByteArray)] : List ByteArray)) := ⟨_, rfl⟩
      replace H : ((impl_ArrayEquals.f k y116 y119).bind fun t122 => (if t122 = true then ((impl_EscapeAssertion.f k (⟨#[114, 46, 115, 117, 98]⟩ : ByteArray)).bind fun t123 => (some (t123.toList == ([114, 95, 115, 117, 98] : List UInt8)))) else (some false))) = some r := by first | (rw [hy119]; with_reducible exact H) | (have H2_ := (Option.bind_some _ _).symm.trans H; rw [hy119]; with_reducible exact H2_) | (have H2_ := (Option.bind_some _ _).symm.trans H; with_reducible exact H2_) | with_reducible exact H | (rw [hy119]; exact H) | exact H
      have Ny119 := Aside0.mk hy119
      clear hy119
      replace H := Option.bind_eq_some_iff.mp H
      obtain ⟨t122, A50, H⟩ := H
      replace H : (if t122 = true then ((impl_EscapeAssertion.f k (⟨#[114, 46, 115, 117, 98]⟩ : ByteArray)).bind fun t123 => (some (t123.toList == ([114, 95, 115, 117, 98] : List UInt8)))) else (some false)) = some r := H
      have A5 := Aside0.mk A50
      clear A50
      by_cases c6 : t122 = true
      · subst c6
        have H1 : ((impl_EscapeAssertion.f k (⟨#[114, 46, 115, 117, 98]⟩ : ByteArray)).bind fun t123 => (some (t123.toList == ([114, 95, 115, 117, 98] : List UInt8)))) = some r := by rw [if_pos rfl] at H; exact H
        clear H
        have H := H1
        clear H1
        replace H := Option.bind_eq_some_iff.mp H
        obtain ⟨t123, A70, H⟩ := H
        replace H : (some (t123.toList == ([114, 95, 115, 117, 98] : List UInt8))) = some r := H
        have A7 := Aside0.mk A70
        clear A70
        obtain rfl := Option.some.inj H
        go_enter Try.func9, Try.ntmps9
        go_wp2_with (first | ((with_reducible refine gate_callee (f := 26) rfl ?_); refine goesL_ (some 1) rfl rfl Try.func26 (by kernel_rfl) rfl #[.string (⟨#[47, 102, 111, 111, 47, 98, 97, 114]⟩ : ByteArray), .string (⟨#[47, 102, 111, 111, 47, 42]⟩ : ByteArray)] rfl (by (try simp only [List.map_toArray, List.map_cons, List.map_nil]); first | done | rfl | (simp only [List.length_drop, List.length_take]; rfl)) ?_; (with_reducible refine (impl_KeyMatch.calls k (⟨#[47, 102, 111, 111, 47, 98, 97, 114]⟩ : ByteArray) (⟨#[47, 102, 111, 111, 47, 42]⟩ : ByteArray) true _ A1.out).mono ?_); rintro e w' ⟨rfl, ⟨nd, rfl⟩⟩; refine ⟨_, rfl, ?_⟩) | (go_at_call 27; (with_reducible refine (impl_KeyGet.calls k (⟨#[47, 102, 111, 111, 47, 98, 97, 114]⟩ : ByteArray) (⟨#[47, 102, 111, 111, 47, 42]⟩ : ByteArray) t115 _ A3.out).mono ?_); rintro e w' ⟨rfl, ⟨nd, rfl⟩⟩) | ((with_reducible refine gate_dst (N := 7) rfl ?_); (try (refine gate_guard (by rfl) ?_; dsimp only)); refine Kd.R_lit Kd.string _ 9 ?hg (N := 7) ?hd (xs := ([(⟨#[97]⟩ : ByteArray)] : List ByteArray)) (inner := [.string (⟨#[97]⟩ : ByteArray)]) (ok := fun _ => True) (okp := fun _ => True) ?hr ?hp (fun _ hk => hk) trivial (Below.refl _ _) (Nat.le_refl _) (by simp) ?_; (case hd => rfl); (case hg => rfl); (case hr => first | (go_simp; done) | (go_simp; rfl)); (case hp => exact (Reps.one (show Kd.M Kd.string _ _ _ (⟨#[97]⟩ : ByteArray) [.string (⟨#[97]⟩ : ByteArray)] from rfl) (Reps.none _ _))); intro v117 w8 ho9 hb hg_ hnew_; clear hg_ hnew_; (first | rw [← Ny116.out] at ho9 | (simp only [Int.reduceToNat] at ho9; rw [← Ny116.out] at ho9)); have n0_ := Aside0.mk (Kd.R_lower ho9 (below_size (by repeat (first | (with_reducible first | exact HB.out | apply below_alloc | apply pw_below_drewN | apply below_drew1) | exact HB.out)))); have n1_ := Aside0.mk (below_step (by repeat (first | (with_reducible first | exact HB.out | apply below_alloc | apply pw_below_drewN | apply below_drew1) | exact HB.out)) hb); clear HB; have HO118 := n0_; have HB := n1_; clear n0_ n1_; clear hb ho9) | ((with_reducible refine gate_dst (N := 8) rfl ?_); (try (refine gate_guard (by rfl) ?_; dsimp only)); refine Kd.R_lit Kd.string _ 9 ?hg (N := 8) ?hd (xs := ([(⟨#[97]⟩ : ByteArray)] : List ByteArray)) (inner := [.string (⟨#[97]⟩ : ByteArray)]) (ok := fun _ => True) (okp := fun _ => True) ?hr ?hp (fun _ hk => hk) trivial (Below.refl _ _) (Nat.le_refl _) (by simp) ?_; (case hd => rfl); (case hg => rfl); (case hr => first | (go_simp; done) | (go_simp; rfl)); (case hp => exact (Reps.one (show Kd.M Kd.string _ _ _ (⟨#[97]⟩ : ByteArray) [.string (⟨#[97]⟩ : ByteArray)] from rfl) (Reps.none _ _))); intro v120 w10 ho11 hb hg_ hnew_; clear hg_ hnew_; (first | rw [← Ny119.out] at ho11 | (simp only [Int.reduceToNat] at ho11; rw [← Ny119.out] at ho11)); have n0_ := Aside0.mk (Kd.R_elder' (by (with_reducible repeat (first | apply Kd.R_alloc | apply Kd.R_drewN | apply Kd.R_drew)); exact HO118.out) (Kd.R_base ho11) hb); have n1_ := Aside0.mk (Kd.R_lower (Kd.R_new' ho11 (Kd.R_lt (by (with_reducible repeat (first | apply Kd.R_alloc | apply Kd.R_drewN | apply Kd.R_drew)); exact HO118.out))) (below_size (by repeat (first | (with_reducible first | exact HB.out | apply below_alloc | apply pw_below_drewN | apply below_drew1) | exact HB.out)))); have n2_ := Aside0.mk (below_step (by repeat (first | (with_reducible first | exact HB.out | apply below_alloc | apply pw_below_drewN | apply below_drew1) | exact HB.out)) hb); clear HO118; clear HB; have HO118 := n0_; have HO121 := n1_; have HB := n2_; clear n0_ n1_ n2_; clear hb ho11; obtain ⟨Ao12, co12, eo12⟩ := Kd.R_slice HO118.out; subst eo12; obtain ⟨Ao13, co13, eo13⟩ := Kd.R_slice HO121.out; subst eo13) | (go_at_call 28; (with_reducible refine (impl_ArrayEquals.calls k _ _ y116 _ _ y119 true _ ?side1 ?side2 ?side3 ?side4 A5.out).mono ?_); (case side1 => repeat (first | exact (Kd.R_reads' HO118.out).2.2 | (with_reducible refine Kd.C_alloc ?_ _) | (with_reducible refine Kd.C_drewN ?_ _) | (with_reducible refine Kd.C_drew ?_))); (case side2 => exact (Kd.R_reads' HO118.out).2.1); (case side3 => repeat (first | exact (Kd.R_reads' HO121.out).2.2 | (with_reducible refine Kd.C_alloc ?_ _) | (with_reducible refine Kd.C_drewN ?_ _) | (with_reducible refine Kd.C_drew ?_))); (case side4 => exact (Kd.R_reads' HO121.out).2.1); rintro e w' ⟨rfl, ⟨nd, rfl⟩⟩) | (go_at_call 29; (with_reducible refine (impl_EscapeAssertion.calls k (⟨#[114, 46, 115, 117, 98]⟩ : ByteArray) t123 _ A7.out).mono ?_); rintro e w' ⟨rfl, ⟨nd, rfl⟩⟩))
        go_ret
        exact ⟨by first | rfl | (simp [errW_none, errW_some] <;> rfl) | (simp [*, errW_none, errW_some] <;> rfl), by repeat (first | (with_reducible first | exact HB.out | apply below_alloc | apply pw_below_drewN | apply below_drew1) | exact HB.out)⟩
      · replace c6 := Bool.eq_false_iff.mpr c6
        subst c6
        have H1 : (some false) = some r := by rw [if_neg (show ¬ (false = true) by decide)] at H; exact H
        clear H
        have H := H1
        clear H1
        obtain rfl := Option.some.inj H
        go_enter Try.func9, Try.ntmps9
        go_wp2_with (first | ((with_reducible refine gate_callee (f := 26) rfl ?_); refine goesL_ (some 1) rfl rfl Try.func26 (by kernel_rfl) rfl #[.string (⟨#[47, 102, 111, 111, 47, 98, 97, 114]⟩ : ByteArray), .string (⟨#[47, 102, 111, 111, 47, 42]⟩ : ByteArray)] rfl (by (try simp only [List.map_toArray, List.map_cons, List.map_nil]); first | done | rfl | (simp only [List.length_drop, List.length_take]; rfl)) ?_; (with_reducible refine (impl_KeyMatch.calls k (⟨#[47, 102, 111, 111, 47, 98, 97, 114]⟩ : ByteArray) (⟨#[47, 102, 111, 111, 47, 42]⟩ : ByteArray) true _ A1.out).mono ?_); rintro e w' ⟨rfl, ⟨nd, rfl⟩⟩; refine ⟨_, rfl, ?_⟩) | (go_at_call 27; (with_reducible refine (impl_KeyGet.calls k (⟨#[47, 102, 111, 111, 47, 98, 97, 114]⟩ : ByteArray) (⟨#[47, 102, 111, 111, 47, 42]⟩ : ByteArray) t115 _ A3.out).mono ?_); rintro e w' ⟨rfl, ⟨nd, rfl⟩⟩) | ((with_reducible refine gate_dst (N := 7) rfl ?_); (try (refine gate_guard (by rfl) ?_; dsimp only)); refine Kd.R_lit Kd.string _ 9 ?hg (N := 7) ?hd (xs := ([(⟨#[97]⟩ : ByteArray)] : List ByteArray)) (inner := [.string (⟨#[97]⟩ : ByteArray)]) (ok := fun _ => True) (okp := fun _ => True) ?hr ?hp (fun _ hk => hk) trivial (Below.refl _ _) (Nat.le_refl _) (by simp) ?_; (case hd => rfl); (case hg => rfl); (case hr => first | (go_simp; done) | (go_simp; rfl)); (case hp => exact (Reps.one (show Kd.M Kd.string _ _ _ (⟨#[97]⟩ : ByteArray) [.string (⟨#[97]⟩ : ByteArray)] from rfl) (Reps.none _ _))); intro v117 w14 ho15 hb hg_ hnew_; clear hg_ hnew_; (first | rw [← Ny116.out] at ho15 | (simp only [Int.reduceToNat] at ho15; rw [← Ny116.out] at ho15)); have n0_ := Aside0.mk (Kd.R_lower ho15 (below_size (by repeat (first | (with_reducible first | exact HB.out | apply below_alloc | apply pw_below_drewN | apply below_drew1) | exact HB.out)))); have n1_ := Aside0.mk (below_step (by repeat (first | (with_reducible first | exact HB.out | apply below_alloc | apply pw_below_drewN | apply below_drew1) | exact HB.out)) hb); clear HB; have HO118 := n0_; have HB := n1_; clear n0_ n1_; clear hb ho15) | ((with_reducible refine gate_dst (N := 8) rfl ?_); (try (refine gate_guard (by rfl) ?_; dsimp only)); refine Kd.R_lit Kd.string _ 9 ?hg (N := 8) ?hd (xs := ([(⟨#[97]⟩ : ByteArray)] : List ByteArray)) (inner := [.string (⟨#[97]⟩ : ByteArray)]) (ok := fun _ => True) (okp := fun _ => True) ?hr ?hp (fun _ hk => hk) trivial (Below.refl _ _) (Nat.le_refl _) (by simp) ?_; (case hd => rfl); (case hg => rfl); (case hr => first | (go_simp; done) | (go_simp; rfl)); (case hp => exact (Reps.one (show Kd.M Kd.string _ _ _ (⟨#[97]⟩ : ByteArray) [.string (⟨#[97]⟩ : ByteArray)] from rfl) (Reps.none _ _))); intro v120 w16 ho17 hb hg_ hnew_; clear hg_ hnew_; (first | rw [← Ny119.out] at ho17 | (simp only [Int.reduceToNat] at ho17; rw [← Ny119.out] at ho17)); have n0_ := Aside0.mk (Kd.R_elder' (by (with_reducible repeat (first | apply Kd.R_alloc | apply Kd.R_drewN | apply Kd.R_drew)); exact HO118.out) (Kd.R_base ho17) hb); have n1_ := Aside0.mk (Kd.R_lower (Kd.R_new' ho17 (Kd.R_lt (by (with_reducible repeat (first | apply Kd.R_alloc | apply Kd.R_drewN | apply Kd.R_drew)); exact HO118.out))) (below_size (by repeat (first | (with_reducible first | exact HB.out | apply below_alloc | apply pw_below_drewN | apply below_drew1) | exact HB.out)))); have n2_ := Aside0.mk (below_step (by repeat (first | (with_reducible first | exact HB.out | apply below_alloc | apply pw_below_drewN | apply below_drew1) | exact HB.out)) hb); clear HO118; clear HB; have HO118 := n0_; have HO121 := n1_; have HB := n2_; clear n0_ n1_ n2_; clear hb ho17; obtain ⟨Ao18, co18, eo18⟩ := Kd.R_slice HO118.out; subst eo18; obtain ⟨Ao19, co19, eo19⟩ := Kd.R_slice HO121.out; subst eo19) | (go_at_call 28; (with_reducible refine (impl_ArrayEquals.calls k _ _ y116 _ _ y119 false _ ?side1 ?side2 ?side3 ?side4 A5.out).mono ?_); (case side1 => repeat (first | exact (Kd.R_reads' HO118.out).2.2 | (with_reducible refine Kd.C_alloc ?_ _) | (with_reducible refine Kd.C_drewN ?_ _) | (with_reducible refine Kd.C_drew ?_))); (case side2 => exact (Kd.R_reads' HO118.out).2.1); (case side3 => repeat (first | exact (Kd.R_reads' HO121.out).2.2 | (with_reducible refine Kd.C_alloc ?_ _) | (with_reducible refine Kd.C_drewN ?_ _) | (with_reducible refine Kd.C_drew ?_))); (case side4 => exact (Kd.R_reads' HO121.out).2.1); rintro e w' ⟨rfl, ⟨nd, rfl⟩⟩))
        go_ret
        exact ⟨by first | rfl | (simp [errW_none, errW_some] <;> rfl) | (simp [*, errW_none, errW_some] <;> rfl), by repeat (first | (with_reducible first | exact HB.out | apply below_alloc | apply pw_below_drewN | apply below_drew1) | exact HB.out)⟩
    · rw [if_neg c4] at H
      have c4b0 : (t115.toList == ([98, 97, 114] : List UInt8)) = false := beq_eq_false_iff_ne.mpr c4
      have c4b1 : (t115.toList != ([98, 97, 114] : List UInt8)) = true := bne_iff_ne.mpr c4
      obtain rfl := Option.some.inj H
      go_enter Try.func9, Try.ntmps9
      go_wp2_with (first | ((with_reducible refine gate_callee (f := 26) rfl ?_); refine goesL_ (some 1) rfl rfl Try.func26 (by kernel_rfl) rfl #[.string (⟨#[47, 102, 111, 111, 47, 98, 97, 114]⟩ : ByteArray), .string (⟨#[47, 102, 111, 111, 47, 42]⟩ : ByteArray)] rfl (by (try simp only [List.map_toArray, List.map_cons, List.map_nil]); first | done | rfl | (simp only [List.length_drop, List.length_take]; rfl)) ?_; (with_reducible refine (impl_KeyMatch.calls k (⟨#[47, 102, 111, 111, 47, 98, 97, 114]⟩ : ByteArray) (⟨#[47, 102, 111, 111, 47, 42]⟩ : ByteArray) true _ A1.out).mono ?_); rintro e w' ⟨rfl, ⟨nd, rfl⟩⟩; refine ⟨_, rfl, ?_⟩) | (go_at_call 27; (with_reducible refine (impl_KeyGet.calls k (⟨#[47, 102, 111, 111, 47, 98, 97, 114]⟩ : ByteArray) (⟨#[47, 102, 111, 111, 47, 42]⟩ : ByteArray) t115 _ A3.out).mono ?_); rintro e w' ⟨rfl, ⟨nd, rfl⟩⟩))
      go_ret
      exact ⟨by first | rfl | (simp [errW_none, errW_some] <;> rfl) | (simp [*, errW_none, errW_some] <;> rfl), by repeat (first | (with_reducible first | exact HB.out | apply below_alloc | apply pw_below_drewN | apply below_drew1) | exact HB.out)⟩
  · replace c2 := Bool.eq_false_iff.mpr c2
    subst c2
    have H1 : (some false) = some r := by rw [if_neg (show ¬ (false = true) by decide)] at H; exact H
    clear H
    have H := H1
    clear H1
    obtain rfl := Option.some.inj H
    go_enter Try.func9, Try.ntmps9
    go_wp2_with (first | ((with_reducible refine gate_callee (f := 26) rfl ?_); refine goesL_ (some 1) rfl rfl Try.func26 (by kernel_rfl) rfl #[.string (⟨#[47, 102, 111, 111, 47, 98, 97, 114]⟩ : ByteArray), .string (⟨#[47, 102, 111, 111, 47, 42]⟩ : ByteArray)] rfl (by (try simp only [List.map_toArray, List.map_cons, List.map_nil]); first | done | rfl | (simp only [List.length_drop, List.length_take]; rfl)) ?_; (with_reducible refine (impl_KeyMatch.calls k (⟨#[47, 102, 111, 111, 47, 98, 97, 114]⟩ : ByteArray) (⟨#[47, 102, 111, 111, 47, 42]⟩ : ByteArray) false _ A1.out).mono ?_); rintro e w' ⟨rfl, ⟨nd, rfl⟩⟩; refine ⟨_, rfl, ?_⟩))
    go_ret
    exact ⟨by first | rfl | (simp [errW_none, errW_some] <;> rfl) | (simp [*, errW_none, errW_some] <;> rfl), by repeat (first | (with_reducible first | exact HB.out | apply below_alloc | apply pw_below_drewN | apply below_drew1) | exact HB.out)⟩

/-! ### util_SetEquals: function 30 -/
/-- the texts, sorted -/
def sortT (l : List ByteArray) : List ByteArray := ((l.map (·.data.toList)).mergeSort fun x y => decide (x ≤ y)).map fun b => ⟨b.toArray⟩
theorem sortT_length (l : List ByteArray) : (sortT l).length = l.length := by simp [sortT]
theorem encs_texts (l : List ByteArray) : encs Value.string l = (l.map (·.data.toList)).map Go.Proofs.encStr := by
  unfold encs
  rw [List.map_map]
  apply List.map_congr_left
  intro b _
  cases b
  simp [Go.Proofs.encStr]
theorem encs_sortT (l : List ByteArray) : encs Value.string (sortT l) = ((l.map (·.data.toList)).mergeSort fun x y => decide (x ≤ y)).map Go.Proofs.encStr := by
  unfold encs sortT
  rw [List.map_map]
  rfl
theorem sort_R {w : World} {base : Nat} {ok : Nat → Prop} {v : Value} {l : List ByteArray} (HO : Kd.R Kd.string 9 w base ok v l) (hl : l.length < 4611686018427387904) :
    Calls Try.prog 44 #[v] w fun e w' => e = .returned (.tuple #[]) ∧ Kd.R Kd.string 9 w' base ok v (sortT l) ∧ w.grownBy w' v.ownBlock := by
  have ho := Kd.own_of_R HO
  rcases ho.2 with ⟨rfl, hn⟩ | ⟨g, cap, cur, rfl, hbase, hb, h1, h2, h3, h4⟩
  · have hl0 : l = [] := by
      have := ho.1
      rw [hn] at this
      rw [encs_length] at this
      exact List.eq_nil_of_length_eq_zero (by omega)
    subst hl0
    refine (Try.sort_Strings_none none 0 w).mono ?_
    rintro e w' ⟨rfl, rfl⟩
    have es : sortT [] = [] := by simp [sortT]
    rw [es]
    exact ⟨rfl, HO, World.grownBy.refl _ _⟩
  · rw [encs_texts, Nat.mul_one] at h4
    obtain ⟨ss, hss⟩ : ∃ ss, ss = l.map (·.data.toList) := ⟨_, rfl⟩
    have e1 : ss.length = l.length := by rw [hss]; simp
    rw [← hss, ← e1] at h4
    have hc := Try.sort_Strings g 0 cap ss w (holds_of_block hb h4) (Array.getElem?_eq_some_iff.1 hb).1 (by omega)
    rw [e1] at hc
    refine hc.mono ?_
    rintro e w' ⟨rfl, n, os, rfl⟩
    refine ⟨rfl, Kd.R_of_own ?_ HO.1, grownBy_sorted _⟩
    rw [sortT_length, encs_sortT, ← hss]
    have := ownsRow_sorted (n := n) (os := os) (base := base) (ss := ss) (ts := ss.mergeSort fun x y => decide (x ≤ y)) (by simp) hbase hb (by omega) h2 h3
    rw [e1] at this
    exact this
theorem R_other {w w1 : World} {base : Nat} {e : Nat} {ok : Nat → Prop} {v : Value} {l : List ByteArray} {row : Option Nat} (HO : Kd.R Kd.string e w base ok v l) (hg : w.grownBy w1 row) (hd : ∀ k, v.ownBlock = some k → some k ≠ row) : Kd.R Kd.string e w1 base ok v l := by
  have ho := Kd.own_of_R HO
  exact Kd.R_of_own (own_move ho fun k hk => hg.block k (ho.lt k hk).2 (hd k hk)) HO.1
/-- both lists sorted, then text by text -/
def util_SetEquals.f (k : Nat) (l0 : List ByteArray) (l1 : List ByteArray) : Option (Bool) := if l0.length < 4611686018427387904 ∧ l1.length < 4611686018427387904 then (if (l0.length : Int) = (l1.length : Int) then util_ArrayEquals.l0 k (sortT l1) (sortT l0) (l0.length : Int) 0 else some false) else none
theorem util_SetEquals.mono : ∀ a0 a1 k, LeO (util_SetEquals.f k a0 a1) (util_SetEquals.f (k + 1) a0 a1) := by
  intro a0 a1 k
  unfold util_SetEquals.f
  exact LeO.ite (LeO.ite (util_ArrayEquals.mono_l k _ _ _ _) (LeO.refl _)) (LeO.refl _)
set_option maxHeartbeats 8000000 in
set_option maxRecDepth 100000 in
theorem util_SetEquals.own (k : Nat) (v0 v1 : Value) (l0 l1 : List ByteArray) (r : Bool) (w0 w : World) (ok0 ok1 : Nat → Prop) (ho0 : Kd.R Kd.string 9 w w0.heap.size ok0 v0 l0) (ho1 : Kd.R Kd.string 9 w w0.heap.size ok1 v1 l1) (hd : ∀ k, v1.ownBlock = some k → some k ≠ v0.ownBlock) (hb0 : Below w0.heap.size w0 w) (h : util_SetEquals.f k l0 l1 = some r) :
    Calls Try.prog 30 #[v0, v1] w fun e w' => e = .returned (.bool r) ∧ Below w0.heap.size w0 w' := by
  have HO0 := Aside0.mk ho0
  have HO1 := Aside0.mk ho1
  have HD := Aside0.mk hd
  have HB := Aside0.mk hb0
  obtain ⟨A0, c0, rfl⟩ := Kd.R_slice ho0
  obtain ⟨A1, c1, rfl⟩ := Kd.R_slice ho1
  clear ho0 ho1 hd hb0
  unfold util_SetEquals.f at h
  have hg : l0.length < 4611686018427387904 ∧ l1.length < 4611686018427387904 := by
    by_cases hg : l0.length < 4611686018427387904 ∧ l1.length < 4611686018427387904
    · exact hg
    · rw [if_neg hg] at h; cases h
  rw [if_pos hg] at h
  have HG := Aside0.mk hg
  clear hg
  by_cases c3 : (l0.length : Int) = (l1.length : Int)
  · rw [if_pos c3] at h
    have c3b0 : ((l0.length : Int) == (l1.length : Int)) = true := beq_iff_eq.mpr c3
    have c3b1 : ((l0.length : Int) != (l1.length : Int)) = false := bne_eq_false_iff_eq.mpr c3
    have c3b2 : (l0.length == l1.length) = true := by first | simpa using c3 | (simp at c3 ⊢; omega)
    clear c3
    have H' := Aside0.mk h
    clear h
    go_enter Try.func30, Try.ntmps30
    go_wp2_with (first
      | ((with_reducible refine gate_callee (f := 44) rfl ?_); refine goesL_ (some 13) rfl rfl Try.func44 (by kernel_rfl) rfl #[.slice A0 l0.length c0] rfl (by (try simp only [List.map_toArray, List.map_cons, List.map_nil]); first | done | rfl | (simp only [List.length_drop, List.length_take]; rfl)) ?_; (with_reducible refine (sort_R HO0.out HG.out.1).mono ?_); rintro e w1 ⟨rfl, ho, hg⟩; refine ⟨_, rfl, ?_⟩; have n0_ := Aside0.mk ho; have n1_ := Aside0.mk (R_other HO1.out hg HD.out); have n2_ := Aside0.mk (HB.out.grown hg (below_size HB.out) (own_base (Kd.own_of_R HO0.out))); clear HO0 HO1 HB; have HO0 := n0_; have HO1 := n1_; have HB := n2_; clear n0_ n1_ n2_ ho hg)
      | ((with_reducible refine gate_callee (f := 44) rfl ?_); refine goesL_ (some 15) rfl rfl Try.func44 (by kernel_rfl) rfl #[.slice A1 l1.length c1] rfl (by (try simp only [List.map_toArray, List.map_cons, List.map_nil]); first | done | rfl | (simp only [List.length_drop, List.length_take]; rfl)) ?_; (with_reducible refine (sort_R HO1.out HG.out.2).mono ?_); rintro e w2 ⟨rfl, ho, hg⟩; refine ⟨_, rfl, ?_⟩; have n0_ := Aside0.mk ho; have n1_ := Aside0.mk (R_other HO0.out hg (fun k hk hk2 => HD.out k hk2.symm hk.symm)); have n2_ := Aside0.mk (HB.out.grown hg (below_size HB.out) (own_base (Kd.own_of_R HO1.out))); clear HO0 HO1 HB; have HO1 := n0_; have HO0 := n1_; have HB := n2_; clear n0_ n1_ n2_ ho hg))
    have HR0 := Aside0.mk (show Kd.C Kd.string w2 A0 l0.length (sortT l0) from by have q := (Kd.R_reads' HO0.out).2.2; rw [sortT_length] at q; exact q)
    have HR1 := Aside0.mk (show Kd.C Kd.string w2 A1 l1.length (sortT l1) from by have q := (Kd.R_reads' HO1.out).2.2; rw [sortT_length] at q; exact q)
    go_loopg [18] k (fun kq v14 w' => ∃ (x14_1 : Int), v14 = .int .i64 x14_1 ∧ Aside0 (util_ArrayEquals.l0 kq (sortT l1) (sortT l0) (l0.length : Int) x14_1 = some r) ∧ Aside0 (kq ≤ k) ∧ Drawn0 w2 w')
    case atStart => exact ⟨(0), (by first | rfl | (simp; done) | (simp [*]; done)), H', ⟨Nat.le_refl _⟩, by repeat (first | exact Drawn0.refl _ | apply Drawn0.step)⟩
    case round =>
      clear H'
      try clear c1
      try clear p2
      try clear c3
      try clear c3b0
      try clear c3b1
      try clear c3b2
      obtain ⟨x14_1, rfl, HA, HK1, ⟨m1, rfl⟩⟩ := hrel
      cases gk with
      | zero => exact absurd HA.out (by simp [util_ArrayEquals.l0])
      | succ k1 =>
        have H := HA.out
        clear HA
        simp only [util_ArrayEquals.l0, sortT_length] at H
        by_cases c4 : x14_1 < (l0.length : Int)
        · rw [if_pos c4] at H
          have c4b0 : decide (x14_1 < (l0.length : Int)) = true := decide_eq_true c4
          clear c4
          by_cases c5 : 0 ≤ x14_1
          · rw [if_pos c5] at H
            have c5b0 : decide (0 ≤ x14_1) = true := decide_eq_true c5
            clear c5
            by_cases c6 : x14_1 < (l0.length : Int)
            · rw [if_pos c6] at H
              have c6b0 : decide (x14_1 < (l0.length : Int)) = true := decide_eq_true c6
              clear c6
              by_cases c7 : x14_1 < (l1.length : Int)
              · rw [if_pos c7] at H
                have c7b0 : decide (x14_1 < (l1.length : Int)) = true := decide_eq_true c7
                clear c7
                by_cases c8 : (rdOf ByteArray.empty (sortT l0) x14_1).toList = (rdOf ByteArray.empty (sortT l1) x14_1).toList
                · rw [if_pos c8] at H
                  have c8b0 : ((rdOf ByteArray.empty (sortT l0) x14_1).toList == (rdOf ByteArray.empty (sortT l1) x14_1).toList) = true := beq_iff_eq.mpr c8
                  have c8b1 : ((rdOf ByteArray.empty (sortT l0) x14_1).toList != (rdOf ByteArray.empty (sortT l1) x14_1).toList) = false := bne_eq_false_iff_eq.mpr c8
                  clear c8
                  have H' := Aside0.mk H
                  clear H
                  have p106 : 0 ≤ (x14_1 : Int) := of_decide_eq_true (by first | (with_reducible assumption) | assumption)
                  have q106 : x14_1 < (l0.length : Int) := of_decide_eq_true (by first | (with_reducible assumption) | assumption)
                  obtain ⟨ad106, e106, hx106_0⟩ := Kd.at_string HR0.out x14_1 p106 q106
                  cases e106
                  replace p106 := eq_true p106
                  replace q106 := eq_true q106
                  have p107 : 0 ≤ (x14_1 : Int) := of_decide_eq_true (by first | (with_reducible assumption) | assumption)
                  have q107 : x14_1 < (l1.length : Int) := of_decide_eq_true (by first | (with_reducible assumption) | assumption)
                  obtain ⟨ad107, e107, hx107_0⟩ := Kd.at_string HR1.out x14_1 p107 q107
                  cases e107
                  replace p107 := eq_true p107
                  replace q107 := eq_true q107
                  go_wp2
                  go_roundg k1
                  case measure => have := HK1.out; omega
                  case rel => exact ⟨(wrap64 (x14_1 + 1)), (by first | rfl | (simp; done) | (simp [*]; done)), H', ⟨by have := HK1.out; omega⟩, by repeat (first | exact Drawn0.refl _ | apply Drawn0.step)⟩
                · rw [if_neg c8] at H
                  have c8b0 : ((rdOf ByteArray.empty (sortT l0) x14_1).toList == (rdOf ByteArray.empty (sortT l1) x14_1).toList) = false := beq_eq_false_iff_ne.mpr c8
                  have c8b1 : ((rdOf ByteArray.empty (sortT l0) x14_1).toList != (rdOf ByteArray.empty (sortT l1) x14_1).toList) = true := bne_iff_ne.mpr c8
                  obtain rfl := Option.some.inj H
                  have p106 : 0 ≤ (x14_1 : Int) := of_decide_eq_true (by first | (with_reducible assumption) | assumption)
                  have q106 : x14_1 < (l0.length : Int) := of_decide_eq_true (by first | (with_reducible assumption) | assumption)
                  obtain ⟨ad106, e106, hx106_0⟩ := Kd.at_string HR0.out x14_1 p106 q106
                  cases e106
                  replace p106 := eq_true p106
                  replace q106 := eq_true q106
                  have p107 : 0 ≤ (x14_1 : Int) := of_decide_eq_true (by first | (with_reducible assumption) | assumption)
                  have q107 : x14_1 < (l1.length : Int) := of_decide_eq_true (by first | (with_reducible assumption) | assumption)
                  obtain ⟨ad107, e107, hx107_0⟩ := Kd.at_string HR1.out x14_1 p107 q107
                  cases e107
                  replace p107 := eq_true p107
                  replace q107 := eq_true q107
                  go_wp2
                  go_ret
                  exact ⟨by first | rfl | (simp; done) | (simp [*]; done), by repeat (first | exact HB.out | apply pw_below_drewN | apply below_drew1 | apply below_alloc)⟩
              · rw [if_neg c7] at H
                exact absurd H (by simp)
            · rw [if_neg c6] at H
              exact absurd H (by simp)
          · rw [if_neg c5] at H
            exact absurd H (by simp)
        · rw [if_neg c4] at H
          have c4b0 : decide (x14_1 < (l0.length : Int)) = false := decide_eq_false c4
          clear c4
          obtain rfl := Option.some.inj H
          go_wp2
          go_ret
          exact ⟨by first | rfl | (simp; done) | (simp [*]; done), by repeat (first | exact HB.out | apply pw_below_drewN | apply below_drew1 | apply below_alloc)⟩
  · rw [if_neg c3] at h
    have c3b0 : ((l0.length : Int) == (l1.length : Int)) = false := beq_eq_false_iff_ne.mpr c3
    have c3b1 : ((l0.length : Int) != (l1.length : Int)) = true := bne_iff_ne.mpr c3
    have c3b2 : (l0.length == l1.length) = false := by first | simpa using c3 | (simp at c3 ⊢; omega)
    obtain rfl := Option.some.inj h
    go_enter Try.func30, Try.ntmps30
    go_wp2
    go_ret
    exact ⟨by first | rfl | (simp; done) | (simp [*]; done), HB.out⟩

/-! ### impl_texts: function 31 -/
def impl_texts.f (l0 : List ByteArray) : Option (List ByteArray) := (some (([] : List ByteArray) : List ByteArray)).bind fun y124 => (if y124.length + l0.length < 8796093022208 then (some (y124 ++ l0)) else (none))
set_option maxHeartbeats 8000000 in
set_option maxRecDepth 100000 in
theorem impl_texts.calls (A0 : Option Addr) (c0 : Nat) (l0 : List ByteArray) (r : List ByteArray) (w : World) (hr0 : Kd.C Kd.string w A0 l0.length l0) (hc0 : l0.length ≤ c0) (h : impl_texts.f l0 = some r) :
    Calls Try.prog 31 #[.slice A0 l0.length c0] w fun e w' => ∃ v0_ : Value, e = .returned (v0_) ∧ Kd.R Kd.string 9 w' w.heap.size (fun _ => True) v0_ r ∧ Below w.heap.size w w' := by
  have HR0 := Aside0.mk hr0
  have HC0 := Aside0.mk hc0
  clear hr0 hc0
  have HB := Aside0.mk (Below.refl w.heap.size w)
  have H : ((some (([] : List ByteArray) : List ByteArray)).bind fun y124 => (if y124.length + l0.length < 8796093022208 then (some (y124 ++ l0)) else (none))) = some r := h
  clear h
  obtain ⟨y124, hy124⟩ : ∃ y_ : List ByteArray, y_ = (([] : List ByteArray)) := ⟨_, rfl⟩
  replace H : (if y124.length + l0.length < 8796093022208 then (some (y124 ++ l0)) else (none)) = some r := by first | (rw [hy124]; with_reducible exact H) | (have H2_ := (Option.bind_some _ _).symm.trans H; rw [hy124]; with_reducible exact H2_) | (have H2_ := (Option.bind_some _ _).symm.trans H; with_reducible exact H2_) | with_reducible exact H | (rw [hy124]; exact H) | exact H
  have Ny124 := Aside0.mk hy124
  clear hy124
  by_cases c2 : y124.length + l0.length < 8796093022208
  · rw [if_pos c2] at H
    have LMc2 := Aside0.mk c2
    clear c2
    obtain ⟨y127, hy127⟩ : ∃ y_ : List ByteArray, y_ = (y124 ++ l0) := ⟨_, rfl⟩
    replace H : (some y127) = some r := by first | (rw [hy127]; with_reducible exact H) | (have H2_ := (Option.bind_some _ _).symm.trans H; rw [hy127]; with_reducible exact H2_) | (have H2_ := (Option.bind_some _ _).symm.trans H; with_reducible exact H2_) | with_reducible exact H | (rw [hy127]; exact H) | exact H
    have Ny127 := Aside0.mk hy127
    clear hy127
    obtain rfl := Option.some.inj H
    go_enter Try.func31, Try.ntmps31
    go_wp2_with (first | ((with_reducible refine gate_dst (N := 3) rfl ?_); refine Kd.R_lit Kd.string _ 9 ?hg (N := 3) ?hd (xs := ([] : List ByteArray)) (inner := []) (ok := fun _ => True) (okp := fun _ => True) ?hr ?hp (fun _ hk => hk) trivial (Below.refl _ _) (Nat.le_refl _) (by simp) ?_; (case hd => rfl); (case hg => rfl); (case hr => first | (go_simp; done) | (go_simp; rfl)); (case hp => exact (Reps.none _ _)); intro v125 w3 ho4 hb hg_ hnew_; clear hg_ hnew_; (first | rw [← Ny124.out] at ho4 | (simp only [Int.reduceToNat] at ho4; rw [← Ny124.out] at ho4)); have n0_ := Aside0.mk (Kd.R_lower ho4 (below_size (by repeat (first | (with_reducible first | exact HB.out | apply below_alloc | apply pw_below_drewN | apply below_drew1) | exact HB.out)))); have n1_ := Aside0.mk (below_step (by repeat (first | (with_reducible first | exact HB.out | apply below_alloc | apply pw_below_drewN | apply below_drew1) | exact HB.out)) hb); clear HB; have HO126 := n0_; have HB := n1_; clear n0_ n1_; clear hb ho4) | ((with_reducible refine gate_builtin (b := .append) (xs := #[.tmp 3, .tmp 4]) rfl ?_); at_builtin; refine Kd.R_append_rows Kd.string (w0 := w) w.heap.size rfl (.tmp 3) (.tmp 4) 22 9 (.string ⟨#[]⟩) 16 rfl Try.underlying22 info9 rfl (by decide) (by omega) v125 y124 l0 _ _ _ (fun _ => True) (fun _ => False) rfl rfl ?aO ?aR (fun _ _ h => h) (fun _ h => h.elim) ?aF ?aB ?aS ?aL ?_; (case aR => repeat (first | exact (Kd.C_below HR0.out HB.out) | (with_reducible refine Kd.C_alloc ?_ _) | (with_reducible refine Kd.C_drewN ?_ _) | (with_reducible refine Kd.C_drew ?_))); (case aB => exact (by repeat (first | (with_reducible first | exact HB.out | apply below_alloc | apply pw_below_drewN | apply below_drew1) | exact HB.out))); (case aF => exact (fun _ _ => trivial)); (case aO => exact (by (with_reducible repeat (first | apply Kd.R_alloc | apply Kd.R_drewN | apply Kd.R_drew)); exact HO126.out)); (case aS => exact (below_size (by repeat (first | (with_reducible first | exact HB.out | apply below_alloc | apply pw_below_drewN | apply below_drew1) | exact HB.out)))); (case aL => have := LMc2.out; omega); intro v128 w5 ho hb hg hat; rw [← Ny127.out] at ho; have n0_ := Aside0.mk (hb); have n1_ := Aside0.mk (ho); clear HB; clear HO126; have HB := n0_; have HO129 := n1_; clear n0_ n1_; clear ho hb hg hat))
    go_ret
    exact ⟨_, by first | rfl | (simp [errW_none, errW_some] <;> rfl) | (simp [*, errW_none, errW_some] <;> rfl), by (with_reducible repeat (first | apply Kd.R_alloc | apply Kd.R_drewN | apply Kd.R_drew)); exact HO129.out, by repeat (first | (with_reducible first | exact HB.out | apply below_alloc | apply pw_below_drewN | apply below_drew1) | exact HB.out)⟩
  · rw [if_neg c2] at H
    exact absurd H (by simp)

/-! ### impl_SetEquals: function 10 -/
def impl_SetEquals.f (k : Nat) (l0 : List ByteArray) (l1 : List ByteArray) : Option (Bool) := (impl_texts.f l0).bind fun t130 => ((impl_texts.f l1).bind fun t133 => ((util_SetEquals.f k t130 t133).bind fun t136 => (some t136)))
theorem impl_SetEquals.mono : ∀ a0 a1 k, LeO (impl_SetEquals.f k a0 a1) (impl_SetEquals.f (k + 1) a0 a1) := by
  intro a0 a1 k
  unfold impl_SetEquals.f
  repeat' first
      | (with_reducible exact util_SetEquals.mono _ _ _)
      | (with_reducible exact LeO.refl _)
      | (with_reducible exact LeO.none _)
      | (with_reducible refine LeO.ite ?_ ?_)
      | (with_reducible refine LeO.bind ?_ (fun _ => ?_))
      | exact util_SetEquals.mono _ _ _
      | exact LeO.none _
      | refine LeO.ite ?_ ?_
      | refine LeO.bind ?_ (fun _ => ?_)
set_option maxHeartbeats 8000000 in
set_option maxRecDepth 100000 in
theorem impl_SetEquals.calls (k : Nat) (A0 : Option Addr) (c0 : Nat) (l0 : List ByteArray) (A1 : Option Addr) (c1 : Nat) (l1 : List ByteArray) (r : Bool) (w : World) (hr0 : Kd.C Kd.string w A0 l0.length l0) (hc0 : l0.length ≤ c0) (hr1 : Kd.C Kd.string w A1 l1.length l1) (hc1 : l1.length ≤ c1) (h : impl_SetEquals.f k l0 l1 = some r) :
    Calls Try.prog 10 #[.slice A0 l0.length c0, .slice A1 l1.length c1] w fun e w' => e = .returned (.bool r) ∧ Below w.heap.size w w' := by
  have HR0 := Aside0.mk hr0
  have HC0 := Aside0.mk hc0
  clear hr0 hc0
  have HR1 := Aside0.mk hr1
  have HC1 := Aside0.mk hc1
  clear hr1 hc1
  have HB := Aside0.mk (Below.refl w.heap.size w)
  have H : ((impl_texts.f l0).bind fun t130 => ((impl_texts.f l1).bind fun t133 => ((util_SetEquals.f k t130 t133).bind fun t136 => (some t136)))) = some r := h
  clear h
  replace H := Option.bind_eq_some_iff.mp H
  obtain ⟨t130, A30, H⟩ := H
  replace H : ((impl_texts.f l1).bind fun t133 => ((util_SetEquals.f k t130 t133).bind fun t136 => (some t136))) = some r := H
  have A3 := Aside0.mk A30
  clear A30
  replace H := Option.bind_eq_some_iff.mp H
  obtain ⟨t133, A40, H⟩ := H
  replace H : ((util_SetEquals.f k t130 t133).bind fun t136 => (some t136)) = some r := H
  have A4 := Aside0.mk A40
  clear A40
  replace H := Option.bind_eq_some_iff.mp H
  obtain ⟨t136, A50, H⟩ := H
  replace H : (some t136) = some r := H
  have A5 := Aside0.mk A50
  clear A50
  obtain rfl := Option.some.inj H
  go_enter Try.func10, Try.ntmps10
  go_wp2_with (first | ((with_reducible refine gate_callee (f := 31) rfl ?_); refine goesL_ (some 6) rfl rfl Try.func31 (by kernel_rfl) rfl #[.slice A0 l0.length c0] rfl (by (try simp only [List.map_toArray, List.map_cons, List.map_nil]); first | done | rfl | (simp only [List.length_drop, List.length_take]; rfl)) ?_; (with_reducible refine (impl_texts.calls _ _ l0 t130 _ ?side1 ?side2 A3.out).mono ?_); (case side1 => repeat (first | exact HR0.out | (with_reducible refine Kd.C_alloc ?_ _) | (with_reducible refine Kd.C_drewN ?_ _) | (with_reducible refine Kd.C_drew ?_))); (case side2 => exact HC0.out); rintro e w6 ⟨v131, rfl, ho0, hb⟩; refine ⟨_, rfl, ?_⟩; have n0_ := Aside0.mk (Kd.R_lower ho0 (below_size (by repeat (first | (with_reducible first | exact HB.out | apply below_alloc | apply pw_below_drewN | apply below_drew1) | exact HB.out)))); have n1_ := Aside0.mk (below_step (by repeat (first | (with_reducible first | exact HB.out | apply below_alloc | apply pw_below_drewN | apply below_drew1) | exact HB.out)) hb); clear HB; have HO132 := n0_; have HB := n1_; clear n0_ n1_; (try clear hb); (try clear hb2); (try clear hk); (try clear hi); (try clear ho0)) | ((with_reducible refine gate_callee (f := 31) rfl ?_); refine goesL_ (some 8) rfl rfl Try.func31 (by kernel_rfl) rfl #[.slice A1 l1.length c1] rfl (by (try simp only [List.map_toArray, List.map_cons, List.map_nil]); first | done | rfl | (simp only [List.length_drop, List.length_take]; rfl)) ?_; (with_reducible refine (impl_texts.calls _ _ l1 t133 _ ?side1 ?side2 A4.out).mono ?_); (case side1 => repeat (first | exact (Kd.C_below HR1.out HB.out) | (with_reducible refine Kd.C_alloc ?_ _) | (with_reducible refine Kd.C_drewN ?_ _) | (with_reducible refine Kd.C_drew ?_))); (case side2 => exact HC1.out); rintro e w7 ⟨v134, rfl, ho0, hb⟩; refine ⟨_, rfl, ?_⟩; have n0_ := Aside0.mk (Kd.R_elder' (by (with_reducible repeat (first | apply Kd.R_alloc | apply Kd.R_drewN | apply Kd.R_drew)); exact HO132.out) (Kd.R_base ho0) hb); have n1_ := Aside0.mk (Kd.R_lower (Kd.R_new' ho0 (Kd.R_lt (by (with_reducible repeat (first | apply Kd.R_alloc | apply Kd.R_drewN | apply Kd.R_drew)); exact HO132.out))) (below_size (by repeat (first | (with_reducible first | exact HB.out | apply below_alloc | apply pw_below_drewN | apply below_drew1) | exact HB.out)))); have n2_ := Aside0.mk (below_step (by repeat (first | (with_reducible first | exact HB.out | apply below_alloc | apply pw_below_drewN | apply below_drew1) | exact HB.out)) hb); clear HO132; clear HB; have HO132 := n0_; have HO135 := n1_; have HB := n2_; clear n0_ n1_ n2_; (try clear hb); (try clear hb2); (try clear hk); (try clear hi); (try clear ho0); obtain ⟨Ao8, co8, eo8⟩ := Kd.R_slice HO132.out; subst eo8; obtain ⟨Ao9, co9, eo9⟩ := Kd.R_slice HO135.out; subst eo9) | ((with_reducible refine gate_callee (f := 30) rfl ?_); refine goesL_ (some 9) rfl rfl Try.func30 (by kernel_rfl) rfl #[.slice Ao8 t130.length co8, .slice Ao9 t133.length co9] rfl (by (try simp only [List.map_toArray, List.map_cons, List.map_nil]); first | done | rfl | (simp only [List.length_drop, List.length_take]; rfl)) ?_; have zc := util_SetEquals.own k _ _ t130 t133 t136 w _ _ _ HO132.out HO135.out (fun k h1 h0 => (HO132.out.1 k h0.symm).2 h1.symm) HB.out A5.out; (with_reducible refine zc.mono ?_); clear zc; rintro e w10 ⟨rfl, hb⟩; refine ⟨_, rfl, ?_⟩; clear HO132; clear HO135; clear HB; have HB := Aside0.mk hb; (try clear hb)))
  go_ret
  exact ⟨by first | rfl | (simp [errW_none, errW_some] <;> rfl) | (simp [*, errW_none, errW_some] <;> rfl), by repeat (first | (with_reducible first | exact HB.out | apply below_alloc | apply pw_below_drewN | apply below_drew1) | exact HB.out)⟩

/-! ### laws_copied: function 11 -/
def laws_copied.f (l0 : List ByteArray) : Option (List ByteArray) := (some (([] : List ByteArray) : List ByteArray)).bind fun y137 => (if y137.length + l0.length < 8796093022208 then (some (y137 ++ l0)) else (none))
set_option maxHeartbeats 8000000 in
set_option maxRecDepth 100000 in
theorem laws_copied.calls (A0 : Option Addr) (c0 : Nat) (l0 : List ByteArray) (r : List ByteArray) (w : World) (hr0 : Kd.C Kd.string w A0 l0.length l0) (hc0 : l0.length ≤ c0) (h : laws_copied.f l0 = some r) :
    Calls Try.prog 11 #[.slice A0 l0.length c0] w fun e w' => ∃ v0_ : Value, e = .returned (v0_) ∧ Kd.R Kd.string 9 w' w.heap.size (fun _ => True) v0_ r ∧ Below w.heap.size w w' := by
  have HR0 := Aside0.mk hr0
  have HC0 := Aside0.mk hc0
  clear hr0 hc0
  have HB := Aside0.mk (Below.refl w.heap.size w)
  have H : ((some (([] : List ByteArray) : List ByteArray)).bind fun y137 => (if y137.length + l0.length < 8796093022208 then (some (y137 ++ l0)) else (none))) = some r := h
  clear h
  obtain ⟨y137, hy137⟩ : ∃ y_ : List ByteArray, y_ = (([] : List ByteArray)) := ⟨_, rfl⟩
  replace H : (if y137.length + l0.length < 8796093022208 then (some (y137 ++ l0)) else (none)) = some r := by first | (rw [hy137]; with_reducible exact H) | (have H2_ := (Option.bind_some _ _).symm.trans H; rw [hy137]; with_reducible exact H2_) | (have H2_ := (Option.bind_some _ _).symm.trans H; with_reducible exact H2_) | with_reducible exact H | (rw [hy137]; exact H) | exact H
  have Ny137 := Aside0.mk hy137
  clear hy137
  by_cases c2 : y137.length + l0.length < 8796093022208
  · rw [if_pos c2] at H
    have LMc2 := Aside0.mk c2
    clear c2
    obtain ⟨y140, hy140⟩ : ∃ y_ : List ByteArray, y_ = (y137 ++ l0) := ⟨_, rfl⟩
    replace H : (some y140) = some r := by first | (rw [hy140]; with_reducible exact H) | (have H2_ := (Option.bind_some _ _).symm.trans H; rw [hy140]; with_reducible exact H2_) | (have H2_ := (Option.bind_some _ _).symm.trans H; with_reducible exact H2_) | with_reducible exact H | (rw [hy140]; exact H) | exact H
    have Ny140 := Aside0.mk hy140
    clear hy140
    obtain rfl := Option.some.inj H
    go_enter Try.func11, Try.ntmps11
    go_wp2_with (first | ((with_reducible refine gate_dst (N := 3) rfl ?_); refine Kd.R_lit Kd.string _ 9 ?hg (N := 3) ?hd (xs := ([] : List ByteArray)) (inner := []) (ok := fun _ => True) (okp := fun _ => True) ?hr ?hp (fun _ hk => hk) trivial (Below.refl _ _) (Nat.le_refl _) (by simp) ?_; (case hd => rfl); (case hg => rfl); (case hr => first | (go_simp; done) | (go_simp; rfl)); (case hp => exact (Reps.none _ _)); intro v138 w3 ho4 hb hg_ hnew_; clear hg_ hnew_; (first | rw [← Ny137.out] at ho4 | (simp only [Int.reduceToNat] at ho4; rw [← Ny137.out] at ho4)); have n0_ := Aside0.mk (Kd.R_lower ho4 (below_size (by repeat (first | (with_reducible first | exact HB.out | apply below_alloc | apply pw_below_drewN | apply below_drew1) | exact HB.out)))); have n1_ := Aside0.mk (below_step (by repeat (first | (with_reducible first | exact HB.out | apply below_alloc | apply pw_below_drewN | apply below_drew1) | exact HB.out)) hb); clear HB; have HO139 := n0_; have HB := n1_; clear n0_ n1_; clear hb ho4) | ((with_reducible refine gate_builtin (b := .append) (xs := #[.tmp 3, .tmp 4]) rfl ?_); at_builtin; refine Kd.R_append_rows Kd.string (w0 := w) w.heap.size rfl (.tmp 3) (.tmp 4) 22 9 (.string ⟨#[]⟩) 16 rfl Try.underlying22 info9 rfl (by decide) (by omega) v138 y137 l0 _ _ _ (fun _ => True) (fun _ => False) rfl rfl ?aO ?aR (fun _ _ h => h) (fun _ h => h.elim) ?aF ?aB ?aS ?aL ?_; (case aR => repeat (first | exact (Kd.C_below HR0.out HB.out) | (with_reducible refine Kd.C_alloc ?_ _) | (with_reducible refine Kd.C_drewN ?_ _) | (with_reducible refine Kd.C_drew ?_))); (case aB => exact (by repeat (first | (with_reducible first | exact HB.out | apply below_alloc | apply pw_below_drewN | apply below_drew1) | exact HB.out))); (case aF => exact (fun _ _ => trivial)); (case aO => exact (by (with_reducible repeat (first | apply Kd.R_alloc | apply Kd.R_drewN | apply Kd.R_drew)); exact HO139.out)); (case aS => exact (below_size (by repeat (first | (with_reducible first | exact HB.out | apply below_alloc | apply pw_below_drewN | apply below_drew1) | exact HB.out)))); (case aL => have := LMc2.out; omega); intro v141 w5 ho hb hg hat; rw [← Ny140.out] at ho; have n0_ := Aside0.mk (hb); have n1_ := Aside0.mk (ho); clear HB; clear HO139; have HB := n0_; have HO142 := n1_; clear n0_ n1_; clear ho hb hg hat))
    go_ret
    exact ⟨_, by first | rfl | (simp [errW_none, errW_some] <;> rfl) | (simp [*, errW_none, errW_some] <;> rfl), by (with_reducible repeat (first | apply Kd.R_alloc | apply Kd.R_drewN | apply Kd.R_drew)); exact HO142.out, by repeat (first | (with_reducible first | exact HB.out | apply below_alloc | apply pw_below_drewN | apply below_drew1) | exact HB.out)⟩
  · rw [if_neg c2] at H
    exact absurd H (by simp)

end Go.Proofs.Ythmkbojkhoaolaa.PFnSetEquals
