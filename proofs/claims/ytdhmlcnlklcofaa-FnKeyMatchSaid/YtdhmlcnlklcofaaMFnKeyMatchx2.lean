/- Written by the kit's print for this claim and turned by one fact more at sums of lengths: each function of this text answers what its Lean function answers; no condition beyond what each theorem says. -/
import Derived.Test.YtdhmlcnlklcofaaPFnKeyMatchx0
import Derived.Test.YtdhmlcnlklcofaaPFnKeyMatchx1
namespace Go.Proofs.Ytdhmlcnlklcofaa.PFnKeyMatch
open Go.RowKit Go.Proofs.YtdhmlcnlklcofaaW.PrintWords Go.Proofs.YtdhmlcnlklcofaaW.PrintLast Go.Proofs.YtdhmlcnlklcofaaW.PrintMore
attribute [local go_sem] max2_int min2_int max_two min_two max_three min_three max_four min_four   -- for this text's walks alone
set_option linter.unusedVariables false
set_option linter.unusedSimpArgs false

/-! ### util_zzEscape: function 54 -/
mutual
def util_zzEscape.l0 : Nat → ByteArray → ByteArray → Int → Option (ByteArray)
  | 0, _, _, _ => none
  | k + 1, x0, x3, x4 => if x4 < (x0.size : Int) then (if 0 ≤ x4 then ((util_zzBefore.f (bt x0 x4)).bind fun t101 => (if t101 = true then ((util_zzName.f k x0 (wrap64 (x4 + 1))).bind fun t102 => (util_zzEscape.j1 k x0 x3 x4 x4 t102)) else (util_zzEscape.j1 k x0 x3 x4 x4 (-1)))) else (none)) else (some x3)
def util_zzEscape.j1 : Nat → ByteArray → ByteArray → Int → Int → Int → Option (ByteArray)
  | 0, _, _, _, _, _ => none
  | k + 1, x0, x3, x4, x5, x6 => if x6 < 0 then (util_zzEscape.j2 k x0 x3 x4 x5 x6 (x4 == 0)) else (util_zzEscape.j2 k x0 x3 x4 x5 x6 false)
def util_zzEscape.j2 : Nat → ByteArray → ByteArray → Int → Int → Int → Bool → Option (ByteArray)
  | 0, _, _, _, _, _, _ => none
  | k + 1, x0, x3, x4, x5, x6, x25 => if x25 = true then ((util_zzName.f k x0 0).bind fun t103 => (if t103 < 0 then (if 0 ≤ x4 then (if x4 ≤ (wrap64 (x4 + 1)) then (if (wrap64 (x4 + 1)) ≤ (x0.size : Int) then (if x3.size + (x0.extract (x4 : Int).toNat ((wrap64 (x4 + 1)) : Int).toNat).size ≤ 9223372036854775807 then (util_zzEscape.l0 k x0 (x3 ++ (x0.extract (x4 : Int).toNat ((wrap64 (x4 + 1)) : Int).toNat)) (wrap64 (x4 + 1))) else (none)) else (none)) else (none)) else (none)) else (if 0 ≤ x5 then (if x5 ≤ (wrap64 (t103 - 1)) then (if (wrap64 (t103 - 1)) ≤ (x0.size : Int) then (if (x0.extract (x5 : Int).toNat ((wrap64 (t103 - 1)) : Int).toNat).size + 1 ≤ 9223372036854775807 then (if x3.size + ((x0.extract (x5 : Int).toNat ((wrap64 (t103 - 1)) : Int).toNat) ++ (⟨#[95]⟩ : ByteArray)).size ≤ 9223372036854775807 then (util_zzEscape.l0 k x0 (x3 ++ ((x0.extract (x5 : Int).toNat ((wrap64 (t103 - 1)) : Int).toNat) ++ (⟨#[95]⟩ : ByteArray))) t103) else (none)) else (none)) else (none)) else (none)) else (none)))) else (if x6 < 0 then (if 0 ≤ x4 then (if x4 ≤ (wrap64 (x4 + 1)) then (if (wrap64 (x4 + 1)) ≤ (x0.size : Int) then (if x3.size + (x0.extract (x4 : Int).toNat ((wrap64 (x4 + 1)) : Int).toNat).size ≤ 9223372036854775807 then (util_zzEscape.l0 k x0 (x3 ++ (x0.extract (x4 : Int).toNat ((wrap64 (x4 + 1)) : Int).toNat)) (wrap64 (x4 + 1))) else (none)) else (none)) else (none)) else (none)) else (if 0 ≤ x5 then (if x5 ≤ (wrap64 (x6 - 1)) then (if (wrap64 (x6 - 1)) ≤ (x0.size : Int) then (if (x0.extract (x5 : Int).toNat ((wrap64 (x6 - 1)) : Int).toNat).size + 1 ≤ 9223372036854775807 then (if x3.size + ((x0.extract (x5 : Int).toNat ((wrap64 (x6 - 1)) : Int).toNat) ++ (⟨#[95]⟩ : ByteArray)).size ≤ 9223372036854775807 then (util_zzEscape.l0 k x0 (x3 ++ ((x0.extract (x5 : Int).toNat ((wrap64 (x6 - 1)) : Int).toNat) ++ (⟨#[95]⟩ : ByteArray))) x6) else (none)) else (none)) else (none)) else (none)) else (none)))
end
def util_zzEscape.f (k : Nat) (a0 : ByteArray) : Option (ByteArray) := util_zzEscape.l0 k a0 (⟨#[]⟩ : ByteArray) 0
theorem util_zzEscape.mono_l : ∀ k, (∀ y0 y1 y2, LeO (util_zzEscape.l0 k y0 y1 y2) (util_zzEscape.l0 (k + 1) y0 y1 y2)) ∧ (∀ y0 y1 y2 y3 y4, LeO (util_zzEscape.j1 k y0 y1 y2 y3 y4) (util_zzEscape.j1 (k + 1) y0 y1 y2 y3 y4)) ∧ (∀ y0 y1 y2 y3 y4 y5, LeO (util_zzEscape.j2 k y0 y1 y2 y3 y4 y5) (util_zzEscape.j2 (k + 1) y0 y1 y2 y3 y4 y5))
  | 0 => ⟨fun _ _ _ r h => by simp [util_zzEscape.l0] at h, fun _ _ _ _ _ r h => by simp [util_zzEscape.j1] at h, fun _ _ _ _ _ _ r h => by simp [util_zzEscape.j2] at h⟩
  | k + 1 => by
    obtain ⟨ih0, ih1, ih2⟩ := util_zzEscape.mono_l k
    refine ⟨?_, ?_, ?_⟩
    · intro y0 y1 y2
      unfold util_zzEscape.l0
      repeat' first
      | (with_reducible exact ih0 _ _ _)
      | (with_reducible exact ih1 _ _ _ _ _)
      | (with_reducible exact ih2 _ _ _ _ _ _)
      | (with_reducible exact util_zzName.mono _ _ _)
      | (with_reducible exact LeO.refl _)
      | (with_reducible exact LeO.none _)
      | (with_reducible refine LeO.ite ?_ ?_)
      | (with_reducible refine LeO.bind ?_ (fun _ => ?_))
      | exact ih0 _ _ _
      | exact ih1 _ _ _ _ _
      | exact ih2 _ _ _ _ _ _
      | exact util_zzName.mono _ _ _
      | exact LeO.none _
      | refine LeO.ite ?_ ?_
      | refine LeO.bind ?_ (fun _ => ?_)
    · intro y0 y1 y2 y3 y4
      unfold util_zzEscape.j1
      repeat' first
      | (with_reducible exact ih0 _ _ _)
      | (with_reducible exact ih1 _ _ _ _ _)
      | (with_reducible exact ih2 _ _ _ _ _ _)
      | (with_reducible exact util_zzName.mono _ _ _)
      | (with_reducible exact LeO.refl _)
      | (with_reducible exact LeO.none _)
      | (with_reducible refine LeO.ite ?_ ?_)
      | (with_reducible refine LeO.bind ?_ (fun _ => ?_))
      | exact ih0 _ _ _
      | exact ih1 _ _ _ _ _
      | exact ih2 _ _ _ _ _ _
      | exact util_zzName.mono _ _ _
      | exact LeO.none _
      | refine LeO.ite ?_ ?_
      | refine LeO.bind ?_ (fun _ => ?_)
    · intro y0 y1 y2 y3 y4 y5
      unfold util_zzEscape.j2
      repeat' first
      | (with_reducible exact ih0 _ _ _)
      | (with_reducible exact ih1 _ _ _ _ _)
      | (with_reducible exact ih2 _ _ _ _ _ _)
      | (with_reducible exact util_zzName.mono _ _ _)
      | (with_reducible exact LeO.refl _)
      | (with_reducible exact LeO.none _)
      | (with_reducible refine LeO.ite ?_ ?_)
      | (with_reducible refine LeO.bind ?_ (fun _ => ?_))
      | exact ih0 _ _ _
      | exact ih1 _ _ _ _ _
      | exact ih2 _ _ _ _ _ _
      | exact util_zzName.mono _ _ _
      | exact LeO.none _
      | refine LeO.ite ?_ ?_
      | refine LeO.bind ?_ (fun _ => ?_)
theorem util_zzEscape.mono : ∀ a0 k, LeO (util_zzEscape.f k a0) (util_zzEscape.f (k + 1) a0) := by
  intro a0 k
  obtain ⟨ih0, ih1, ih2⟩ := util_zzEscape.mono_l k
  unfold util_zzEscape.f
  repeat' first
      | (with_reducible exact ih0 _ _ _)
      | (with_reducible exact ih1 _ _ _ _ _)
      | (with_reducible exact ih2 _ _ _ _ _ _)
      | (with_reducible exact util_zzName.mono _ _ _)
      | (with_reducible exact LeO.refl _)
      | (with_reducible exact LeO.none _)
      | (with_reducible refine LeO.ite ?_ ?_)
      | (with_reducible refine LeO.bind ?_ (fun _ => ?_))
      | exact ih0 _ _ _
      | exact ih1 _ _ _ _ _
      | exact ih2 _ _ _ _ _ _
      | exact util_zzName.mono _ _ _
      | exact LeO.none _
      | refine LeO.ite ?_ ?_
      | refine LeO.bind ?_ (fun _ => ?_)
set_option maxHeartbeats 8000000 in
set_option maxRecDepth 100000 in
theorem util_zzEscape.calls (k : Nat) (a0 : ByteArray) (r : ByteArray) (w : World) (h : util_zzEscape.f k a0 = some r) :
    Calls Try.prog 54 #[.string a0] w fun e w' => e = .returned (.string r) ∧ Drawn0 w w' := by
  have H : (util_zzEscape.l0 k a0 (⟨#[]⟩ : ByteArray) 0) = some r := h
  clear h
  have H' := Aside0.mk H
  clear H
  go_enter Try.func54, Try.ntmps54
  go_wp2
  go_loopg [3, 4] k (fun kq v3 v4 w' => ∃ (x3_1 : ByteArray) (x4_1 : Int), v3 = .string x3_1 ∧ v4 = .int .i64 x4_1 ∧ Aside0 (util_zzEscape.l0 kq a0 x3_1 x4_1 = some r) ∧ Aside0 (kq ≤ k) ∧ Drawn0 w w')
  case atStart => exact ⟨((⟨#[]⟩ : ByteArray)), (0), (by first | rfl | (simp; done) | (simp [*]; done)), (by first | rfl | (simp; done) | (simp [*]; done)), H', ⟨Nat.le_refl _⟩, by repeat (first | exact Drawn0.refl _ | apply Drawn0.step)⟩
  case round =>
    clear H'
    obtain ⟨x3_1, x4_1, rfl, rfl, HA, HK1, ⟨m1, rfl⟩⟩ := hrel
    cases gk with
    | zero => exact absurd HA.out (by simp [util_zzEscape.l0])
    | succ k1 =>
      have H := HA.out
      clear HA
      simp only [util_zzEscape.l0] at H
      by_cases c2 : x4_1 < (a0.size : Int)
      · rw [if_pos c2] at H
        have c2b0 : decide (x4_1 < (a0.size : Int)) = true := decide_eq_true c2
        clear c2
        by_cases c3 : 0 ≤ x4_1
        · rw [if_pos c3] at H
          have c3b0 : decide (0 ≤ x4_1) = true := decide_eq_true c3
          clear c3
          replace H := Option.bind_eq_some_iff.mp H
          obtain ⟨t101, A50, H⟩ := H
          replace H : (if t101 = true then ((util_zzName.f k1 a0 (wrap64 (x4_1 + 1))).bind fun t102 => (util_zzEscape.j1 k1 a0 x3_1 x4_1 x4_1 t102)) else (util_zzEscape.j1 k1 a0 x3_1 x4_1 x4_1 (-1))) = some r := H
          have A5 := Aside0.mk A50
          clear A50
          have HC6 := Aside0.mk H
          clear H
          have p4 : 0 ≤ (x4_1 : Int) := of_decide_eq_true (by first | (with_reducible assumption) | assumption)
          have q4 : x4_1 < (a0.size : Int) := of_decide_eq_true (by first | (with_reducible assumption) | assumption)
          have hx4 := bt_at a0 x4_1
          replace p4 := eq_true p4
          replace q4 := eq_true q4
          go_upto_if 15 with (first | ((with_reducible refine gate_callee (f := 58) rfl ?_); refine goesL_ (some 15) rfl rfl Try.func58 (by kernel_rfl) rfl #[.int .u8 (bt a0 x4_1)] rfl (by (try simp only [List.map_toArray, List.map_cons, List.map_nil]); first | done | rfl | (simp only [List.length_drop, List.length_take]; rfl)) ?_; (with_reducible refine (util_zzBefore.calls (bt a0 x4_1) t101 _ A5.out).mono ?_); rintro e w' ⟨rfl, ⟨nd, rfl⟩⟩; refine ⟨_, rfl, ?_⟩))
          (try simp only [Act.put, List.setIfInBounds_toArray, List.set_cons_zero, List.set_cons_succ])
          go_cut [6] (fun v6 wc => ∃ (kq : Nat) (x6_5 : Int), v6 = .int .i64 x6_5 ∧ Aside0 (util_zzEscape.j1 kq a0 x3_1 x4_1 x4_1 x6_5 = some r) ∧ Aside0 (kq ≤ k1) ∧ Drawn0 w wc)
          case first =>
            have H := HC6.out
            clear HC6
            by_cases c7 : t101 = true
            · subst c7
              have H1 : ((util_zzName.f k1 a0 (wrap64 (x4_1 + 1))).bind fun t102 => (util_zzEscape.j1 k1 a0 x3_1 x4_1 x4_1 t102)) = some r := by rw [if_pos rfl] at H; exact H
              clear H
              have H := H1
              clear H1
              replace H := Option.bind_eq_some_iff.mp H
              obtain ⟨t102, A80, H⟩ := H
              replace H : (util_zzEscape.j1 k1 a0 x3_1 x4_1 x4_1 t102) = some r := H
              have A8 := Aside0.mk A80
              clear A80
              have H' := Aside0.mk H
              clear H
              go_wp2_with (first | ((with_reducible refine gate_callee (f := 59) rfl ?_); refine goesL_ (some 19) rfl rfl Try.func59 (by kernel_rfl) rfl #[.string a0, .int .i64 (wrap64 (x4_1 + 1))] rfl (by (try simp only [List.map_toArray, List.map_cons, List.map_nil]); first | done | rfl | (simp only [List.length_drop, List.length_take]; rfl)) ?_; (with_reducible refine (util_zzName.calls k1 a0 (wrap64 (x4_1 + 1)) t102 _ A8.out).mono ?_); rintro e w' ⟨rfl, ⟨nd, rfl⟩⟩; refine ⟨_, rfl, ?_⟩))
              go_meet
              case rel => exact ⟨_, (t102), (by first | rfl | (simp; done) | (simp [*]; done)), H', ⟨by have := HK1.out; first | omega | exact Nat.le_refl _⟩, by repeat (first | exact Drawn0.refl _ | apply Drawn0.step)⟩
            · replace c7 := Bool.eq_false_iff.mpr c7
              subst c7
              have H1 : (util_zzEscape.j1 k1 a0 x3_1 x4_1 x4_1 (-1)) = some r := by rw [if_neg (show ¬ (false = true) by decide)] at H; exact H
              clear H
              have H := H1
              clear H1
              have H' := Aside0.mk H
              clear H
              go_wp2
              go_meet
              case rel => exact ⟨_, ((-1)), (by first | rfl | (simp; done) | (simp [*]; done)), H', ⟨by have := HK1.out; first | omega | exact Nat.le_refl _⟩, by repeat (first | exact Drawn0.refl _ | apply Drawn0.step)⟩
          case rest =>
            clear HC6
            try clear c2
            try clear c2b0
            try clear p2
            try clear c3
            try clear c3b0
            try clear p4
            try clear q4
            try clear hx4
            try clear c5
            try clear p6
            try clear c7
            try clear p4
            try clear q4
            obtain ⟨kq, x6_5, rfl, HA, HJ5, ⟨mc5, rfl⟩⟩ := hcut
            cases kq with
            | zero => exact absurd HA.out (by simp [util_zzEscape.j1])
            | succ kj5 =>
              have H := HA.out
              clear HA
              simp only [util_zzEscape.j1] at H
              have HC9 := Aside0.mk H
              clear H
              go_upto_region 7 with (fail)
              go_cut [25] (fun v25 wc => ∃ (kq : Nat) (x25_8 : Bool), v25 = .bool x25_8 ∧ Aside0 (util_zzEscape.j2 kq a0 x3_1 x4_1 x4_1 x6_5 x25_8 = some r) ∧ Aside0 (kq ≤ kj5) ∧ Drawn0 w wc)
              case first =>
                have H := HC9.out
                clear HC9
                by_cases c10 : x6_5 < 0
                · rw [if_pos c10] at H
                  have c10b0 : decide (x6_5 < 0) = true := decide_eq_true c10
                  clear c10
                  (first | rw [c10b0] | (simp only [i64_w, i32_w]; rw [c10b0]) | skip)
                  have H' := Aside0.mk H
                  clear H
                  go_wp2
                  go_meet
                  case rel => exact ⟨_, ((x4_1 == 0)), (by first | rfl | (simp; done) | (simp [*]; done)), H', ⟨by have := HK1.out; have := HJ5.out; first | omega | exact Nat.le_refl _⟩, by repeat (first | exact Drawn0.refl _ | apply Drawn0.step)⟩
                · rw [if_neg c10] at H
                  have c10b0 : decide (x6_5 < 0) = false := decide_eq_false c10
                  clear c10
                  (first | rw [c10b0] | (simp only [i64_w, i32_w]; rw [c10b0]) | skip)
                  have H' := Aside0.mk H
                  clear H
                  go_wp2
                  go_meet
                  case rel => exact ⟨_, (false), (by first | rfl | (simp; done) | (simp [*]; done)), H', ⟨by have := HK1.out; have := HJ5.out; first | omega | exact Nat.le_refl _⟩, by repeat (first | exact Drawn0.refl _ | apply Drawn0.step)⟩
              case rest =>
                clear HC9
                try clear c1
                try clear c2
                try clear c2b0
                try clear p2
                try clear c3
                try clear c3b0
                try clear p4
                try clear q4
                try clear hx4
                try clear c5
                try clear p6
                try clear c7
                try clear c10
                try clear c10b0
                try clear p2
                try clear p4
                try clear p6
                try clear q4
                obtain ⟨kq, x25_8, rfl, HA, HJ8, ⟨mc8, rfl⟩⟩ := hcut
                cases kq with
                | zero => exact absurd HA.out (by simp [util_zzEscape.j2])
                | succ kj8 =>
                  have H := HA.out
                  clear HA
                  simp only [util_zzEscape.j2] at H
                  by_cases c11 : x25_8 = true
                  · subst c11
                    have H1 : ((util_zzName.f kj8 a0 0).bind fun t103 => (if t103 < 0 then (if 0 ≤ x4_1 then (if x4_1 ≤ (wrap64 (x4_1 + 1)) then (if (wrap64 (x4_1 + 1)) ≤ (a0.size : Int) then (if x3_1.size + (a0.extract (x4_1 : Int).toNat ((wrap64 (x4_1 + 1)) : Int).toNat).size ≤ 9223372036854775807 then (util_zzEscape.l0 kj8 a0 (x3_1 ++ (a0.extract (x4_1 : Int).toNat ((wrap64 (x4_1 + 1)) : Int).toNat)) (wrap64 (x4_1 + 1))) else (none)) else (none)) else (none)) else (none)) else (if 0 ≤ x4_1 then (if x4_1 ≤ (wrap64 (t103 - 1)) then (if (wrap64 (t103 - 1)) ≤ (a0.size : Int) then (if (a0.extract (x4_1 : Int).toNat ((wrap64 (t103 - 1)) : Int).toNat).size + 1 ≤ 9223372036854775807 then (if x3_1.size + ((a0.extract (x4_1 : Int).toNat ((wrap64 (t103 - 1)) : Int).toNat) ++ (⟨#[95]⟩ : ByteArray)).size ≤ 9223372036854775807 then (util_zzEscape.l0 kj8 a0 (x3_1 ++ ((a0.extract (x4_1 : Int).toNat ((wrap64 (t103 - 1)) : Int).toNat) ++ (⟨#[95]⟩ : ByteArray))) t103) else (none)) else (none)) else (none)) else (none)) else (none)))) = some r := by rw [if_pos rfl] at H; exact H
                    clear H
                    have H := H1
                    clear H1
                    replace H := Option.bind_eq_some_iff.mp H
                    obtain ⟨t103, A120, H⟩ := H
                    replace H : (if t103 < 0 then (if 0 ≤ x4_1 then (if x4_1 ≤ (wrap64 (x4_1 + 1)) then (if (wrap64 (x4_1 + 1)) ≤ (a0.size : Int) then (if x3_1.size + (a0.extract (x4_1 : Int).toNat ((wrap64 (x4_1 + 1)) : Int).toNat).size ≤ 9223372036854775807 then (util_zzEscape.l0 kj8 a0 (x3_1 ++ (a0.extract (x4_1 : Int).toNat ((wrap64 (x4_1 + 1)) : Int).toNat)) (wrap64 (x4_1 + 1))) else (none)) else (none)) else (none)) else (none)) else (if 0 ≤ x4_1 then (if x4_1 ≤ (wrap64 (t103 - 1)) then (if (wrap64 (t103 - 1)) ≤ (a0.size : Int) then (if (a0.extract (x4_1 : Int).toNat ((wrap64 (t103 - 1)) : Int).toNat).size + 1 ≤ 9223372036854775807 then (if x3_1.size + ((a0.extract (x4_1 : Int).toNat ((wrap64 (t103 - 1)) : Int).toNat) ++ (⟨#[95]⟩ : ByteArray)).size ≤ 9223372036854775807 then (util_zzEscape.l0 kj8 a0 (x3_1 ++ ((a0.extract (x4_1 : Int).toNat ((wrap64 (t103 - 1)) : Int).toNat) ++ (⟨#[95]⟩ : ByteArray))) t103) else (none)) else (none)) else (none)) else (none)) else (none))) = some r := H
                    have A12 := Aside0.mk A120
                    clear A120
                    by_cases c13 : t103 < 0
                    · rw [if_pos c13] at H
                      have c13b0 : decide (t103 < 0) = true := decide_eq_true c13
                      clear c13
                      by_cases c14 : 0 ≤ x4_1
                      · rw [if_pos c14] at H
                        have c14b0 := eq_true c14
                        have c14b1 : decide (0 ≤ x4_1) = true := decide_eq_true c14
                        clear c14
                        by_cases c15 : x4_1 ≤ (wrap64 (x4_1 + 1))
                        · rw [if_pos c15] at H
                          have c15b0 := eq_true c15
                          have c15b1 : decide (x4_1 ≤ (wrap64 (x4_1 + 1))) = true := decide_eq_true c15
                          by_cases c16 : (wrap64 (x4_1 + 1)) ≤ (a0.size : Int)
                          · rw [if_pos c16] at H
                            have c16b0 := eq_true c16
                            have c16b1 : decide ((wrap64 (x4_1 + 1)) ≤ (a0.size : Int)) = true := decide_eq_true c16
                            by_cases c17 : x3_1.size + (a0.extract (x4_1 : Int).toNat ((wrap64 (x4_1 + 1)) : Int).toNat).size ≤ 9223372036854775807
                            · rw [if_pos c17] at H
                              have c17b0 := eq_true c17
                              have c17b1 : decide (x3_1.size + (a0.extract (x4_1 : Int).toNat ((wrap64 (x4_1 + 1)) : Int).toNat).size ≤ 9223372036854775807) = true := decide_eq_true c17
                              try have c17b2 : (9223372036854775807 < x3_1.size + (a0.extract (x4_1 : Int).toNat ((wrap64 (x4_1 + 1)) : Int).toNat).size) = False := eq_false (Nat.not_lt.2 c17)
                              have H' := Aside0.mk H
                              clear H
                              go_wp2_with (first | ((with_reducible refine gate_callee (f := 59) rfl ?_); refine goesL_ (some 27) rfl rfl Try.func59 (by kernel_rfl) rfl #[.string a0, .int .i64 0] rfl (by (try simp only [List.map_toArray, List.map_cons, List.map_nil]); first | done | rfl | (simp only [List.length_drop, List.length_take]; rfl)) ?_; (with_reducible refine (util_zzName.calls kj8 a0 0 t103 _ A12.out).mono ?_); rintro e w' ⟨rfl, ⟨nd, rfl⟩⟩; refine ⟨_, rfl, ?_⟩))
                              go_roundg kj8
                              case measure => have := HK1.out; have := HJ5.out; have := HJ8.out; omega
                              case rel => exact ⟨(x3_1 ++ (a0.extract (x4_1 : Int).toNat ((wrap64 (x4_1 + 1)) : Int).toNat)), (wrap64 (x4_1 + 1)), (by first | rfl | (simp; done) | (simp [*]; done)), (by first | rfl | (simp; done) | (simp [*]; done)), H', ⟨by have := HK1.out; have := HJ5.out; have := HJ8.out; omega⟩, by repeat (first | exact Drawn0.refl _ | apply Drawn0.step)⟩
                            · rw [if_neg c17] at H
                              exact absurd H (by simp)
                          · rw [if_neg c16] at H
                            exact absurd H (by simp)
                        · rw [if_neg c15] at H
                          exact absurd H (by simp)
                      · rw [if_neg c14] at H
                        exact absurd H (by simp)
                    · rw [if_neg c13] at H
                      have c13b0 : decide (t103 < 0) = false := decide_eq_false c13
                      clear c13
                      by_cases c18 : 0 ≤ x4_1
                      · rw [if_pos c18] at H
                        have c18b0 := eq_true c18
                        have c18b1 : decide (0 ≤ x4_1) = true := decide_eq_true c18
                        clear c18
                        by_cases c19 : x4_1 ≤ (wrap64 (t103 - 1))
                        · rw [if_pos c19] at H
                          have c19b0 := eq_true c19
                          have c19b1 : decide (x4_1 ≤ (wrap64 (t103 - 1))) = true := decide_eq_true c19
                          clear c19
                          by_cases c20 : (wrap64 (t103 - 1)) ≤ (a0.size : Int)
                          · rw [if_pos c20] at H
                            have c20b0 := eq_true c20
                            have c20b1 : decide ((wrap64 (t103 - 1)) ≤ (a0.size : Int)) = true := decide_eq_true c20
                            clear c20
                            by_cases c21 : (a0.extract (x4_1 : Int).toNat ((wrap64 (t103 - 1)) : Int).toNat).size + 1 ≤ 9223372036854775807
                            · rw [if_pos c21] at H
                              have c21b0 := eq_true c21
                              have c21b1 : decide ((a0.extract (x4_1 : Int).toNat ((wrap64 (t103 - 1)) : Int).toNat).size + 1 ≤ 9223372036854775807) = true := decide_eq_true c21
                              try have c21b2 : (9223372036854775807 < (a0.extract (x4_1 : Int).toNat ((wrap64 (t103 - 1)) : Int).toNat).size + 1) = False := eq_false (Nat.not_lt.2 c21)
                              have c21b9 : (9223372036854775807 < ((wrap64 (t103 - 1))).toNat - (x4_1).toNat + 1) = False := eq_false (by have q := c21; rw [ByteArray.size_extract] at q; have := of_decide_eq_true c20b1; omega)
                              by_cases c22 : x3_1.size + ((a0.extract (x4_1 : Int).toNat ((wrap64 (t103 - 1)) : Int).toNat) ++ (⟨#[95]⟩ : ByteArray)).size ≤ 9223372036854775807
                              · rw [if_pos c22] at H
                                have c22b0 := eq_true c22
                                have c22b1 : decide (x3_1.size + ((a0.extract (x4_1 : Int).toNat ((wrap64 (t103 - 1)) : Int).toNat) ++ (⟨#[95]⟩ : ByteArray)).size ≤ 9223372036854775807) = true := decide_eq_true c22
                                try have c22b2 : (9223372036854775807 < x3_1.size + ((a0.extract (x4_1 : Int).toNat ((wrap64 (t103 - 1)) : Int).toNat) ++ (⟨#[95]⟩ : ByteArray)).size) = False := eq_false (Nat.not_lt.2 c22)
                                have H' := Aside0.mk H
                                clear H
                                go_wp2_with (first | ((with_reducible refine gate_callee (f := 59) rfl ?_); refine goesL_ (some 27) rfl rfl Try.func59 (by kernel_rfl) rfl #[.string a0, .int .i64 0] rfl (by (try simp only [List.map_toArray, List.map_cons, List.map_nil]); first | done | rfl | (simp only [List.length_drop, List.length_take]; rfl)) ?_; (with_reducible refine (util_zzName.calls kj8 a0 0 t103 _ A12.out).mono ?_); rintro e w' ⟨rfl, ⟨nd, rfl⟩⟩; refine ⟨_, rfl, ?_⟩))
                                go_roundg kj8
                                case measure => have := HK1.out; have := HJ5.out; have := HJ8.out; omega
                                case rel => exact ⟨(x3_1 ++ ((a0.extract (x4_1 : Int).toNat ((wrap64 (t103 - 1)) : Int).toNat) ++ (⟨#[95]⟩ : ByteArray))), (t103), (by first | rfl | (simp; done) | (simp [*]; done)), (by first | rfl | (simp; done) | (simp [*]; done)), H', ⟨by have := HK1.out; have := HJ5.out; have := HJ8.out; omega⟩, by repeat (first | exact Drawn0.refl _ | apply Drawn0.step)⟩
                              · rw [if_neg c22] at H
                                exact absurd H (by simp)
                            · rw [if_neg c21] at H
                              exact absurd H (by simp)
                          · rw [if_neg c20] at H
                            exact absurd H (by simp)
                        · rw [if_neg c19] at H
                          exact absurd H (by simp)
                      · rw [if_neg c18] at H
                        exact absurd H (by simp)
                  · replace c11 := Bool.eq_false_iff.mpr c11
                    subst c11
                    have H1 : (if x6_5 < 0 then (if 0 ≤ x4_1 then (if x4_1 ≤ (wrap64 (x4_1 + 1)) then (if (wrap64 (x4_1 + 1)) ≤ (a0.size : Int) then (if x3_1.size + (a0.extract (x4_1 : Int).toNat ((wrap64 (x4_1 + 1)) : Int).toNat).size ≤ 9223372036854775807 then (util_zzEscape.l0 kj8 a0 (x3_1 ++ (a0.extract (x4_1 : Int).toNat ((wrap64 (x4_1 + 1)) : Int).toNat)) (wrap64 (x4_1 + 1))) else (none)) else (none)) else (none)) else (none)) else (if 0 ≤ x4_1 then (if x4_1 ≤ (wrap64 (x6_5 - 1)) then (if (wrap64 (x6_5 - 1)) ≤ (a0.size : Int) then (if (a0.extract (x4_1 : Int).toNat ((wrap64 (x6_5 - 1)) : Int).toNat).size + 1 ≤ 9223372036854775807 then (if x3_1.size + ((a0.extract (x4_1 : Int).toNat ((wrap64 (x6_5 - 1)) : Int).toNat) ++ (⟨#[95]⟩ : ByteArray)).size ≤ 9223372036854775807 then (util_zzEscape.l0 kj8 a0 (x3_1 ++ ((a0.extract (x4_1 : Int).toNat ((wrap64 (x6_5 - 1)) : Int).toNat) ++ (⟨#[95]⟩ : ByteArray))) x6_5) else (none)) else (none)) else (none)) else (none)) else (none))) = some r := by rw [if_neg (show ¬ (false = true) by decide)] at H; exact H
                    clear H
                    have H := H1
                    clear H1
                    by_cases c23 : x6_5 < 0
                    · rw [if_pos c23] at H
                      have c23b0 : decide (x6_5 < 0) = true := decide_eq_true c23
                      clear c23
                      by_cases c24 : 0 ≤ x4_1
                      · rw [if_pos c24] at H
                        have c24b0 := eq_true c24
                        have c24b1 : decide (0 ≤ x4_1) = true := decide_eq_true c24
                        clear c24
                        by_cases c25 : x4_1 ≤ (wrap64 (x4_1 + 1))
                        · rw [if_pos c25] at H
                          have c25b0 := eq_true c25
                          have c25b1 : decide (x4_1 ≤ (wrap64 (x4_1 + 1))) = true := decide_eq_true c25
                          by_cases c26 : (wrap64 (x4_1 + 1)) ≤ (a0.size : Int)
                          · rw [if_pos c26] at H
                            have c26b0 := eq_true c26
                            have c26b1 : decide ((wrap64 (x4_1 + 1)) ≤ (a0.size : Int)) = true := decide_eq_true c26
                            by_cases c27 : x3_1.size + (a0.extract (x4_1 : Int).toNat ((wrap64 (x4_1 + 1)) : Int).toNat).size ≤ 9223372036854775807
                            · rw [if_pos c27] at H
                              have c27b0 := eq_true c27
                              have c27b1 : decide (x3_1.size + (a0.extract (x4_1 : Int).toNat ((wrap64 (x4_1 + 1)) : Int).toNat).size ≤ 9223372036854775807) = true := decide_eq_true c27
                              try have c27b2 : (9223372036854775807 < x3_1.size + (a0.extract (x4_1 : Int).toNat ((wrap64 (x4_1 + 1)) : Int).toNat).size) = False := eq_false (Nat.not_lt.2 c27)
                              have H' := Aside0.mk H
                              clear H
                              go_wp2
                              go_roundg kj8
                              case measure => have := HK1.out; have := HJ5.out; have := HJ8.out; omega
                              case rel => exact ⟨(x3_1 ++ (a0.extract (x4_1 : Int).toNat ((wrap64 (x4_1 + 1)) : Int).toNat)), (wrap64 (x4_1 + 1)), (by first | rfl | (simp; done) | (simp [*]; done)), (by first | rfl | (simp; done) | (simp [*]; done)), H', ⟨by have := HK1.out; have := HJ5.out; have := HJ8.out; omega⟩, by repeat (first | exact Drawn0.refl _ | apply Drawn0.step)⟩
                            · rw [if_neg c27] at H
                              exact absurd H (by simp)
                          · rw [if_neg c26] at H
                            exact absurd H (by simp)
                        · rw [if_neg c25] at H
                          exact absurd H (by simp)
                      · rw [if_neg c24] at H
                        exact absurd H (by simp)
                    · rw [if_neg c23] at H
                      have c23b0 : decide (x6_5 < 0) = false := decide_eq_false c23
                      clear c23
                      by_cases c28 : 0 ≤ x4_1
                      · rw [if_pos c28] at H
                        have c28b0 := eq_true c28
                        have c28b1 : decide (0 ≤ x4_1) = true := decide_eq_true c28
                        clear c28
                        by_cases c29 : x4_1 ≤ (wrap64 (x6_5 - 1))
                        · rw [if_pos c29] at H
                          have c29b0 := eq_true c29
                          have c29b1 : decide (x4_1 ≤ (wrap64 (x6_5 - 1))) = true := decide_eq_true c29
                          clear c29
                          by_cases c30 : (wrap64 (x6_5 - 1)) ≤ (a0.size : Int)
                          · rw [if_pos c30] at H
                            have c30b0 := eq_true c30
                            have c30b1 : decide ((wrap64 (x6_5 - 1)) ≤ (a0.size : Int)) = true := decide_eq_true c30
                            clear c30
                            by_cases c31 : (a0.extract (x4_1 : Int).toNat ((wrap64 (x6_5 - 1)) : Int).toNat).size + 1 ≤ 9223372036854775807
                            · rw [if_pos c31] at H
                              have c31b0 := eq_true c31
                              have c31b1 : decide ((a0.extract (x4_1 : Int).toNat ((wrap64 (x6_5 - 1)) : Int).toNat).size + 1 ≤ 9223372036854775807) = true := decide_eq_true c31
                              try have c31b2 : (9223372036854775807 < (a0.extract (x4_1 : Int).toNat ((wrap64 (x6_5 - 1)) : Int).toNat).size + 1) = False := eq_false (Nat.not_lt.2 c31)
                              have c31b9 : (9223372036854775807 < ((wrap64 (x6_5 - 1))).toNat - (x4_1).toNat + 1) = False := eq_false (by have q := c31; rw [ByteArray.size_extract] at q; have := of_decide_eq_true c30b1; omega)
                              by_cases c32 : x3_1.size + ((a0.extract (x4_1 : Int).toNat ((wrap64 (x6_5 - 1)) : Int).toNat) ++ (⟨#[95]⟩ : ByteArray)).size ≤ 9223372036854775807
                              · rw [if_pos c32] at H
                                have c32b0 := eq_true c32
                                have c32b1 : decide (x3_1.size + ((a0.extract (x4_1 : Int).toNat ((wrap64 (x6_5 - 1)) : Int).toNat) ++ (⟨#[95]⟩ : ByteArray)).size ≤ 9223372036854775807) = true := decide_eq_true c32
                                try have c32b2 : (9223372036854775807 < x3_1.size + ((a0.extract (x4_1 : Int).toNat ((wrap64 (x6_5 - 1)) : Int).toNat) ++ (⟨#[95]⟩ : ByteArray)).size) = False := eq_false (Nat.not_lt.2 c32)
                                have H' := Aside0.mk H
                                clear H
                                go_wp2
                                go_roundg kj8
                                case measure => have := HK1.out; have := HJ5.out; have := HJ8.out; omega
                                case rel => exact ⟨(x3_1 ++ ((a0.extract (x4_1 : Int).toNat ((wrap64 (x6_5 - 1)) : Int).toNat) ++ (⟨#[95]⟩ : ByteArray))), (x6_5), (by first | rfl | (simp; done) | (simp [*]; done)), (by first | rfl | (simp; done) | (simp [*]; done)), H', ⟨by have := HK1.out; have := HJ5.out; have := HJ8.out; omega⟩, by repeat (first | exact Drawn0.refl _ | apply Drawn0.step)⟩
                              · rw [if_neg c32] at H
                                exact absurd H (by simp)
                            · rw [if_neg c31] at H
                              exact absurd H (by simp)
                          · rw [if_neg c30] at H
                            exact absurd H (by simp)
                        · rw [if_neg c29] at H
                          exact absurd H (by simp)
                      · rw [if_neg c28] at H
                        exact absurd H (by simp)
        · rw [if_neg c3] at H
          exact absurd H (by simp)
      · rw [if_neg c2] at H
        have c2b0 : decide (x4_1 < (a0.size : Int)) = false := decide_eq_false c2
        clear c2
        obtain rfl := Option.some.inj H
        go_wp2
        go_ret
        exact ⟨by first | rfl | (simp; done) | (simp [*]; done), by repeat (first | exact Drawn0.refl _ | apply Drawn0.step)⟩

/-! ### util_EscapeAssertion: function 41 -/
def util_EscapeAssertion.f (k : Nat) (a0 : ByteArray) : Option (ByteArray) := (util_zzEscape.f k a0).bind fun t104 => (some t104)
theorem util_EscapeAssertion.mono : ∀ a0 k, LeO (util_EscapeAssertion.f k a0) (util_EscapeAssertion.f (k + 1) a0) := by
  intro a0 k
  unfold util_EscapeAssertion.f
  repeat' first
      | (with_reducible exact util_zzEscape.mono _ _)
      | (with_reducible exact LeO.refl _)
      | (with_reducible exact LeO.none _)
      | (with_reducible refine LeO.ite ?_ ?_)
      | (with_reducible refine LeO.bind ?_ (fun _ => ?_))
      | exact util_zzEscape.mono _ _
      | exact LeO.none _
      | refine LeO.ite ?_ ?_
      | refine LeO.bind ?_ (fun _ => ?_)
set_option maxHeartbeats 8000000 in
set_option maxRecDepth 100000 in
theorem util_EscapeAssertion.calls (k : Nat) (a0 : ByteArray) (r : ByteArray) (w : World) (h : util_EscapeAssertion.f k a0 = some r) :
    Calls Try.prog 41 #[.string a0] w fun e w' => e = .returned (.string r) ∧ Drawn0 w w' := by
  have H : ((util_zzEscape.f k a0).bind fun t104 => (some t104)) = some r := h
  clear h
  replace H := Option.bind_eq_some_iff.mp H
  obtain ⟨t104, A20, H⟩ := H
  replace H : (some t104) = some r := H
  have A2 := Aside0.mk A20
  clear A20
  obtain rfl := Option.some.inj H
  go_enter Try.func41, Try.ntmps41
  go_wp2_with (first | ((with_reducible refine gate_callee (f := 54) rfl ?_); refine goesL_ (some 4) rfl rfl Try.func54 (by kernel_rfl) rfl #[.string a0] rfl (by (try simp only [List.map_toArray, List.map_cons, List.map_nil]); first | done | rfl | (simp only [List.length_drop, List.length_take]; rfl)) ?_; (with_reducible refine (util_zzEscape.calls k a0 t104 _ A2.out).mono ?_); rintro e w' ⟨rfl, ⟨nd, rfl⟩⟩; refine ⟨_, rfl, ?_⟩))
  go_ret
  exact ⟨by first | rfl | (simp; done) | (simp [*]; done), by repeat (first | exact Drawn0.refl _ | apply Drawn0.step)⟩

/-! ### impl_EscapeAssertion: function 21 -/
def impl_EscapeAssertion.f (k : Nat) (a0 : ByteArray) : Option (ByteArray) := (util_EscapeAssertion.f k a0).bind fun t105 => (some t105)
theorem impl_EscapeAssertion.mono : ∀ a0 k, LeO (impl_EscapeAssertion.f k a0) (impl_EscapeAssertion.f (k + 1) a0) := by
  intro a0 k
  unfold impl_EscapeAssertion.f
  repeat' first
      | (with_reducible exact util_EscapeAssertion.mono _ _)
      | (with_reducible exact LeO.refl _)
      | (with_reducible exact LeO.none _)
      | (with_reducible refine LeO.ite ?_ ?_)
      | (with_reducible refine LeO.bind ?_ (fun _ => ?_))
      | exact util_EscapeAssertion.mono _ _
      | exact LeO.none _
      | refine LeO.ite ?_ ?_
      | refine LeO.bind ?_ (fun _ => ?_)
set_option maxHeartbeats 8000000 in
set_option maxRecDepth 100000 in
theorem impl_EscapeAssertion.calls (k : Nat) (a0 : ByteArray) (r : ByteArray) (w : World) (h : impl_EscapeAssertion.f k a0 = some r) :
    Calls Try.prog 21 #[.string a0] w fun e w' => e = .returned (.string r) ∧ Drawn0 w w' := by
  have H : ((util_EscapeAssertion.f k a0).bind fun t105 => (some t105)) = some r := h
  clear h
  replace H := Option.bind_eq_some_iff.mp H
  obtain ⟨t105, A20, H⟩ := H
  replace H : (some t105) = some r := H
  have A2 := Aside0.mk A20
  clear A20
  obtain rfl := Option.some.inj H
  go_enter Try.func21, Try.ntmps21
  go_wp2_with (first | ((with_reducible refine gate_callee (f := 41) rfl ?_); refine goesL_ (some 4) rfl rfl Try.func41 (by kernel_rfl) rfl #[.string a0] rfl (by (try simp only [List.map_toArray, List.map_cons, List.map_nil]); first | done | rfl | (simp only [List.length_drop, List.length_take]; rfl)) ?_; (with_reducible refine (util_EscapeAssertion.calls k a0 t105 _ A2.out).mono ?_); rintro e w' ⟨rfl, ⟨nd, rfl⟩⟩; refine ⟨_, rfl, ?_⟩))
  go_ret
  exact ⟨by first | rfl | (simp; done) | (simp [*]; done), by repeat (first | exact Drawn0.refl _ | apply Drawn0.step)⟩

/-! ### util_zzIndex: function 56 -/
def util_zzIndex.l0 : Nat → ByteArray → ByteArray → Int → Option (Int)
  | 0, _, _, _ => none
  | k + 1, x0, x1, x5 => if (wrap64 (x5 + (x1.size : Int))) ≤ (x0.size : Int) then (if 0 ≤ x5 then (if x5 ≤ (wrap64 (x5 + (x1.size : Int))) then (if (x0.extract (x5 : Int).toNat ((wrap64 (x5 + (x1.size : Int))) : Int).toNat).toList = x1.toList then (some x5) else (util_zzIndex.l0 k x0 x1 (wrap64 (x5 + 1)))) else (none)) else (none)) else (some (-1))
def util_zzIndex.f (k : Nat) (a0 : ByteArray) (a1 : ByteArray) : Option (Int) := util_zzIndex.l0 k a0 a1 0
theorem util_zzIndex.mono_l : ∀ k, (∀ y0 y1 y2, LeO (util_zzIndex.l0 k y0 y1 y2) (util_zzIndex.l0 (k + 1) y0 y1 y2))
  | 0 => fun _ _ _ r h => by simp [util_zzIndex.l0] at h
  | k + 1 => by
    have ih0 := util_zzIndex.mono_l k
    · intro y0 y1 y2
      unfold util_zzIndex.l0
      repeat' first
      | (with_reducible exact ih0 _ _ _)
      | (with_reducible exact LeO.refl _)
      | (with_reducible exact LeO.none _)
      | (with_reducible refine LeO.ite ?_ ?_)
      | (with_reducible refine LeO.bind ?_ (fun _ => ?_))
      | exact ih0 _ _ _
      | exact LeO.none _
      | refine LeO.ite ?_ ?_
      | refine LeO.bind ?_ (fun _ => ?_)
theorem util_zzIndex.mono : ∀ a0 a1 k, LeO (util_zzIndex.f k a0 a1) (util_zzIndex.f (k + 1) a0 a1) := by
  intro a0 a1 k
  have ih0 := util_zzIndex.mono_l k
  unfold util_zzIndex.f
  repeat' first
      | (with_reducible exact ih0 _ _ _)
      | (with_reducible exact LeO.refl _)
      | (with_reducible exact LeO.none _)
      | (with_reducible refine LeO.ite ?_ ?_)
      | (with_reducible refine LeO.bind ?_ (fun _ => ?_))
      | exact ih0 _ _ _
      | exact LeO.none _
      | refine LeO.ite ?_ ?_
      | refine LeO.bind ?_ (fun _ => ?_)
set_option maxHeartbeats 8000000 in
set_option maxRecDepth 100000 in
theorem util_zzIndex.calls (k : Nat) (a0 : ByteArray) (a1 : ByteArray) (r : Int) (w : World) (h : util_zzIndex.f k a0 a1 = some r) :
    Calls Try.prog 56 #[.string a0, .string a1] w fun e w' => e = .returned (.int .i64 r) ∧ Drawn0 w w' := by
  have H : (util_zzIndex.l0 k a0 a1 0) = some r := h
  clear h
  have H' := Aside0.mk H
  clear H
  go_enter Try.func56, Try.ntmps56
  go_wp2
  go_loopg [5] k (fun kq v5 w' => ∃ (x5_1 : Int), v5 = .int .i64 x5_1 ∧ Aside0 (util_zzIndex.l0 kq a0 a1 x5_1 = some r) ∧ Aside0 (kq ≤ k) ∧ Drawn0 w w')
  case atStart => exact ⟨(0), (by first | rfl | (simp; done) | (simp [*]; done)), H', ⟨Nat.le_refl _⟩, by repeat (first | exact Drawn0.refl _ | apply Drawn0.step)⟩
  case round =>
    clear H'
    try clear p2
    obtain ⟨x5_1, rfl, HA, HK1, ⟨m1, rfl⟩⟩ := hrel
    cases gk with
    | zero => exact absurd HA.out (by simp [util_zzIndex.l0])
    | succ k1 =>
      have H := HA.out
      clear HA
      simp only [util_zzIndex.l0] at H
      by_cases c3 : (wrap64 (x5_1 + (a1.size : Int))) ≤ (a0.size : Int)
      · rw [if_pos c3] at H
        have c3b0 : decide ((wrap64 (x5_1 + (a1.size : Int))) ≤ (a0.size : Int)) = true := decide_eq_true c3
        clear c3
        by_cases c4 : 0 ≤ x5_1
        · rw [if_pos c4] at H
          have c4b0 := eq_true c4
          have c4b1 : decide (0 ≤ x5_1) = true := decide_eq_true c4
          clear c4
          by_cases c5 : x5_1 ≤ (wrap64 (x5_1 + (a1.size : Int)))
          · rw [if_pos c5] at H
            have c5b0 := eq_true c5
            have c5b1 : decide (x5_1 ≤ (wrap64 (x5_1 + (a1.size : Int)))) = true := decide_eq_true c5
            have c6b0 := eq_true (of_decide_eq_true (by first | (with_reducible assumption) | assumption) : (wrap64 (x5_1 + (a1.size : Int))) ≤ (a0.size : Int))
            by_cases c7 : (a0.extract (x5_1 : Int).toNat ((wrap64 (x5_1 + (a1.size : Int))) : Int).toNat).toList = a1.toList
            · rw [if_pos c7] at H
              have c7b0 : ((a0.extract (x5_1 : Int).toNat ((wrap64 (x5_1 + (a1.size : Int))) : Int).toNat).toList == a1.toList) = true := beq_iff_eq.mpr c7
              have c7b1 : ((a0.extract (x5_1 : Int).toNat ((wrap64 (x5_1 + (a1.size : Int))) : Int).toNat).toList != a1.toList) = false := bne_eq_false_iff_eq.mpr c7
              clear c7
              obtain rfl := Option.some.inj H
              go_wp2
              go_ret
              exact ⟨by first | rfl | (simp; done) | (simp [*]; done), by repeat (first | exact Drawn0.refl _ | apply Drawn0.step)⟩
            · rw [if_neg c7] at H
              have c7b0 : ((a0.extract (x5_1 : Int).toNat ((wrap64 (x5_1 + (a1.size : Int))) : Int).toNat).toList == a1.toList) = false := beq_eq_false_iff_ne.mpr c7
              have c7b1 : ((a0.extract (x5_1 : Int).toNat ((wrap64 (x5_1 + (a1.size : Int))) : Int).toNat).toList != a1.toList) = true := bne_iff_ne.mpr c7
              have H' := Aside0.mk H
              clear H
              go_wp2
              go_roundg k1
              case measure => have := HK1.out; omega
              case rel => exact ⟨(wrap64 (x5_1 + 1)), (by first | rfl | (simp; done) | (simp [*]; done)), H', ⟨by have := HK1.out; omega⟩, by repeat (first | exact Drawn0.refl _ | apply Drawn0.step)⟩
          · rw [if_neg c5] at H
            exact absurd H (by simp)
        · rw [if_neg c4] at H
          exact absurd H (by simp)
      · rw [if_neg c3] at H
        have c3b0 : decide ((wrap64 (x5_1 + (a1.size : Int))) ≤ (a0.size : Int)) = false := decide_eq_false c3
        clear c3
        obtain rfl := Option.some.inj H
        go_wp2
        go_ret
        exact ⟨by first | rfl | (simp; done) | (simp [*]; done), by repeat (first | exact Drawn0.refl _ | apply Drawn0.step)⟩

/-! ### util_KeyGet: function 43 -/
def util_KeyGet.f (k : Nat) (a0 : ByteArray) (a1 : ByteArray) : Option (ByteArray) := (util_zzIndex.f k a1 (⟨#[42]⟩ : ByteArray)).bind fun t106 => (if t106 = (-1) then (some (⟨#[]⟩ : ByteArray)) else (if (a0.size : Int) > t106 then (if 0 ≤ t106 then (if t106 ≤ (a0.size : Int) then (if t106 ≤ (a1.size : Int) then (if (a0.extract 0 (t106 : Int).toNat).toList = (a1.extract 0 (t106 : Int).toNat).toList then (some (a0.extract (t106 : Int).toNat a0.size)) else (some (⟨#[]⟩ : ByteArray))) else (none)) else (none)) else (none)) else (some (⟨#[]⟩ : ByteArray))))
theorem util_KeyGet.mono : ∀ a0 a1 k, LeO (util_KeyGet.f k a0 a1) (util_KeyGet.f (k + 1) a0 a1) := by
  intro a0 a1 k
  unfold util_KeyGet.f
  repeat' first
      | (with_reducible exact util_zzIndex.mono _ _ _)
      | (with_reducible exact LeO.refl _)
      | (with_reducible exact LeO.none _)
      | (with_reducible refine LeO.ite ?_ ?_)
      | (with_reducible refine LeO.bind ?_ (fun _ => ?_))
      | exact util_zzIndex.mono _ _ _
      | exact LeO.none _
      | refine LeO.ite ?_ ?_
      | refine LeO.bind ?_ (fun _ => ?_)
set_option maxHeartbeats 8000000 in
set_option maxRecDepth 100000 in
theorem util_KeyGet.calls (k : Nat) (a0 : ByteArray) (a1 : ByteArray) (r : ByteArray) (w : World) (h : util_KeyGet.f k a0 a1 = some r) :
    Calls Try.prog 43 #[.string a0, .string a1] w fun e w' => e = .returned (.string r) ∧ Drawn0 w w' := by
  have H : ((util_zzIndex.f k a1 (⟨#[42]⟩ : ByteArray)).bind fun t106 => (if t106 = (-1) then (some (⟨#[]⟩ : ByteArray)) else (if (a0.size : Int) > t106 then (if 0 ≤ t106 then (if t106 ≤ (a0.size : Int) then (if t106 ≤ (a1.size : Int) then (if (a0.extract 0 (t106 : Int).toNat).toList = (a1.extract 0 (t106 : Int).toNat).toList then (some (a0.extract (t106 : Int).toNat a0.size)) else (some (⟨#[]⟩ : ByteArray))) else (none)) else (none)) else (none)) else (some (⟨#[]⟩ : ByteArray))))) = some r := h
  clear h
  replace H := Option.bind_eq_some_iff.mp H
  obtain ⟨t106, A30, H⟩ := H
  replace H : (if t106 = (-1) then (some (⟨#[]⟩ : ByteArray)) else (if (a0.size : Int) > t106 then (if 0 ≤ t106 then (if t106 ≤ (a0.size : Int) then (if t106 ≤ (a1.size : Int) then (if (a0.extract 0 (t106 : Int).toNat).toList = (a1.extract 0 (t106 : Int).toNat).toList then (some (a0.extract (t106 : Int).toNat a0.size)) else (some (⟨#[]⟩ : ByteArray))) else (none)) else (none)) else (none)) else (some (⟨#[]⟩ : ByteArray)))) = some r := H
  have A3 := Aside0.mk A30
  clear A30
  by_cases c4 : t106 = (-1)
  · rw [if_pos c4] at H
    have c4b0 : (t106 == (-1)) = true := beq_iff_eq.mpr c4
    have c4b1 : (t106 != (-1)) = false := bne_eq_false_iff_eq.mpr c4
    clear c4
    obtain rfl := Option.some.inj H
    go_enter Try.func43, Try.ntmps43
    go_wp2_with (first | (go_at_call 56; (with_reducible refine (util_zzIndex.calls k a1 (⟨#[42]⟩ : ByteArray) t106 _ A3.out).mono ?_); rintro e w' ⟨rfl, ⟨nd, rfl⟩⟩; (try first | exact ⟨rfl, _, World.drewN_drewN _ _ _⟩ | exact ⟨rfl, _, Eq.trans (World.drewN_drewN _ _ _) (congrArg (World.drewN _) (Nat.add_assoc _ _ _))⟩)))
    repeat (go_quiet (first | (go_at_call 56; (with_reducible refine (util_zzIndex.calls k a1 (⟨#[42]⟩ : ByteArray) t106 _ A3.out).mono ?_); rintro e w' ⟨rfl, ⟨nd, rfl⟩⟩; (try first | exact ⟨rfl, _, World.drewN_drewN _ _ _⟩ | exact ⟨rfl, _, Eq.trans (World.drewN_drewN _ _ _) (congrArg (World.drewN _) (Nat.add_assoc _ _ _))⟩))); try go_wp2_with (first | (go_at_call 56; (with_reducible refine (util_zzIndex.calls k a1 (⟨#[42]⟩ : ByteArray) t106 _ A3.out).mono ?_); rintro e w' ⟨rfl, ⟨nd, rfl⟩⟩; (try first | exact ⟨rfl, _, World.drewN_drewN _ _ _⟩ | exact ⟨rfl, _, Eq.trans (World.drewN_drewN _ _ _) (congrArg (World.drewN _) (Nat.add_assoc _ _ _))⟩))))
    go_ret
    exact ⟨by first | rfl | (simp; done) | (simp [*]; done), by repeat (first | exact Drawn0.refl _ | apply Drawn0.step)⟩
  · rw [if_neg c4] at H
    have c4b0 : (t106 == (-1)) = false := beq_eq_false_iff_ne.mpr c4
    have c4b1 : (t106 != (-1)) = true := bne_iff_ne.mpr c4
    by_cases c5 : (a0.size : Int) > t106
    · rw [if_pos c5] at H
      have c5b0 : decide (t106 < (a0.size : Int)) = true := decide_eq_true c5
      clear c5
      by_cases c6 : 0 ≤ t106
      · rw [if_pos c6] at H
        have c6b0 := eq_true c6
        have c6b1 : decide (0 ≤ t106) = true := decide_eq_true c6
        clear c6
        by_cases c7 : t106 ≤ (a0.size : Int)
        · rw [if_pos c7] at H
          have c7b0 := eq_true c7
          have c7b1 : decide (t106 ≤ (a0.size : Int)) = true := decide_eq_true c7
          clear c7
          have c8b0 := eq_true (of_decide_eq_true (by first | (with_reducible assumption) | assumption) : 0 ≤ t106)
          by_cases c9 : t106 ≤ (a1.size : Int)
          · rw [if_pos c9] at H
            have c9b0 := eq_true c9
            have c9b1 : decide (t106 ≤ (a1.size : Int)) = true := decide_eq_true c9
            clear c9
            by_cases c10 : (a0.extract 0 (t106 : Int).toNat).toList = (a1.extract 0 (t106 : Int).toNat).toList
            · rw [if_pos c10] at H
              have c10b0 : ((a0.extract 0 (t106 : Int).toNat).toList == (a1.extract 0 (t106 : Int).toNat).toList) = true := beq_iff_eq.mpr c10
              have c10b1 : ((a0.extract 0 (t106 : Int).toNat).toList != (a1.extract 0 (t106 : Int).toNat).toList) = false := bne_eq_false_iff_eq.mpr c10
              clear c10
              have c11b0 := eq_true (of_decide_eq_true (by first | (with_reducible assumption) | assumption) : 0 ≤ t106)
              have c12b0 := eq_true (of_decide_eq_true (by first | (with_reducible assumption) | assumption) : t106 ≤ (a0.size : Int))
              obtain rfl := Option.some.inj H
              go_enter Try.func43, Try.ntmps43
              go_wp2_with (first | (go_at_call 56; (with_reducible refine (util_zzIndex.calls k a1 (⟨#[42]⟩ : ByteArray) t106 _ A3.out).mono ?_); rintro e w' ⟨rfl, ⟨nd, rfl⟩⟩; (try first | exact ⟨rfl, _, World.drewN_drewN _ _ _⟩ | exact ⟨rfl, _, Eq.trans (World.drewN_drewN _ _ _) (congrArg (World.drewN _) (Nat.add_assoc _ _ _))⟩)))
              repeat (go_quiet (first | (go_at_call 56; (with_reducible refine (util_zzIndex.calls k a1 (⟨#[42]⟩ : ByteArray) t106 _ A3.out).mono ?_); rintro e w' ⟨rfl, ⟨nd, rfl⟩⟩; (try first | exact ⟨rfl, _, World.drewN_drewN _ _ _⟩ | exact ⟨rfl, _, Eq.trans (World.drewN_drewN _ _ _) (congrArg (World.drewN _) (Nat.add_assoc _ _ _))⟩))); try go_wp2_with (first | (go_at_call 56; (with_reducible refine (util_zzIndex.calls k a1 (⟨#[42]⟩ : ByteArray) t106 _ A3.out).mono ?_); rintro e w' ⟨rfl, ⟨nd, rfl⟩⟩; (try first | exact ⟨rfl, _, World.drewN_drewN _ _ _⟩ | exact ⟨rfl, _, Eq.trans (World.drewN_drewN _ _ _) (congrArg (World.drewN _) (Nat.add_assoc _ _ _))⟩))))
              go_ret
              exact ⟨by first | rfl | (simp; done) | (simp [*]; done), by repeat (first | exact Drawn0.refl _ | apply Drawn0.step)⟩
            · rw [if_neg c10] at H
              have c10b0 : ((a0.extract 0 (t106 : Int).toNat).toList == (a1.extract 0 (t106 : Int).toNat).toList) = false := beq_eq_false_iff_ne.mpr c10
              have c10b1 : ((a0.extract 0 (t106 : Int).toNat).toList != (a1.extract 0 (t106 : Int).toNat).toList) = true := bne_iff_ne.mpr c10
              obtain rfl := Option.some.inj H
              go_enter Try.func43, Try.ntmps43
              go_wp2_with (first | (go_at_call 56; (with_reducible refine (util_zzIndex.calls k a1 (⟨#[42]⟩ : ByteArray) t106 _ A3.out).mono ?_); rintro e w' ⟨rfl, ⟨nd, rfl⟩⟩; (try first | exact ⟨rfl, _, World.drewN_drewN _ _ _⟩ | exact ⟨rfl, _, Eq.trans (World.drewN_drewN _ _ _) (congrArg (World.drewN _) (Nat.add_assoc _ _ _))⟩)))
              repeat (go_quiet (first | (go_at_call 56; (with_reducible refine (util_zzIndex.calls k a1 (⟨#[42]⟩ : ByteArray) t106 _ A3.out).mono ?_); rintro e w' ⟨rfl, ⟨nd, rfl⟩⟩; (try first | exact ⟨rfl, _, World.drewN_drewN _ _ _⟩ | exact ⟨rfl, _, Eq.trans (World.drewN_drewN _ _ _) (congrArg (World.drewN _) (Nat.add_assoc _ _ _))⟩))); try go_wp2_with (first | (go_at_call 56; (with_reducible refine (util_zzIndex.calls k a1 (⟨#[42]⟩ : ByteArray) t106 _ A3.out).mono ?_); rintro e w' ⟨rfl, ⟨nd, rfl⟩⟩; (try first | exact ⟨rfl, _, World.drewN_drewN _ _ _⟩ | exact ⟨rfl, _, Eq.trans (World.drewN_drewN _ _ _) (congrArg (World.drewN _) (Nat.add_assoc _ _ _))⟩))))
              go_ret
              exact ⟨by first | rfl | (simp; done) | (simp [*]; done), by repeat (first | exact Drawn0.refl _ | apply Drawn0.step)⟩
          · rw [if_neg c9] at H
            exact absurd H (by simp)
        · rw [if_neg c7] at H
          exact absurd H (by simp)
      · rw [if_neg c6] at H
        exact absurd H (by simp)
    · rw [if_neg c5] at H
      have c5b0 : decide (t106 < (a0.size : Int)) = false := decide_eq_false c5
      clear c5
      obtain rfl := Option.some.inj H
      go_enter Try.func43, Try.ntmps43
      go_wp2_with (first | (go_at_call 56; (with_reducible refine (util_zzIndex.calls k a1 (⟨#[42]⟩ : ByteArray) t106 _ A3.out).mono ?_); rintro e w' ⟨rfl, ⟨nd, rfl⟩⟩; (try first | exact ⟨rfl, _, World.drewN_drewN _ _ _⟩ | exact ⟨rfl, _, Eq.trans (World.drewN_drewN _ _ _) (congrArg (World.drewN _) (Nat.add_assoc _ _ _))⟩)))
      repeat (go_quiet (first | (go_at_call 56; (with_reducible refine (util_zzIndex.calls k a1 (⟨#[42]⟩ : ByteArray) t106 _ A3.out).mono ?_); rintro e w' ⟨rfl, ⟨nd, rfl⟩⟩; (try first | exact ⟨rfl, _, World.drewN_drewN _ _ _⟩ | exact ⟨rfl, _, Eq.trans (World.drewN_drewN _ _ _) (congrArg (World.drewN _) (Nat.add_assoc _ _ _))⟩))); try go_wp2_with (first | (go_at_call 56; (with_reducible refine (util_zzIndex.calls k a1 (⟨#[42]⟩ : ByteArray) t106 _ A3.out).mono ?_); rintro e w' ⟨rfl, ⟨nd, rfl⟩⟩; (try first | exact ⟨rfl, _, World.drewN_drewN _ _ _⟩ | exact ⟨rfl, _, Eq.trans (World.drewN_drewN _ _ _) (congrArg (World.drewN _) (Nat.add_assoc _ _ _))⟩))))
      go_ret
      exact ⟨by first | rfl | (simp; done) | (simp [*]; done), by repeat (first | exact Drawn0.refl _ | apply Drawn0.step)⟩

/-! ### impl_KeyGet: function 24 -/
def impl_KeyGet.f (k : Nat) (a0 : ByteArray) (a1 : ByteArray) : Option (ByteArray) := (util_KeyGet.f k a0 a1).bind fun t107 => (some t107)
theorem impl_KeyGet.mono : ∀ a0 a1 k, LeO (impl_KeyGet.f k a0 a1) (impl_KeyGet.f (k + 1) a0 a1) := by
  intro a0 a1 k
  unfold impl_KeyGet.f
  repeat' first
      | (with_reducible exact util_KeyGet.mono _ _ _)
      | (with_reducible exact LeO.refl _)
      | (with_reducible exact LeO.none _)
      | (with_reducible refine LeO.ite ?_ ?_)
      | (with_reducible refine LeO.bind ?_ (fun _ => ?_))
      | exact util_KeyGet.mono _ _ _
      | exact LeO.none _
      | refine LeO.ite ?_ ?_
      | refine LeO.bind ?_ (fun _ => ?_)
set_option maxHeartbeats 8000000 in
set_option maxRecDepth 100000 in
theorem impl_KeyGet.calls (k : Nat) (a0 : ByteArray) (a1 : ByteArray) (r : ByteArray) (w : World) (h : impl_KeyGet.f k a0 a1 = some r) :
    Calls Try.prog 24 #[.string a0, .string a1] w fun e w' => e = .returned (.string r) ∧ Drawn0 w w' := by
  have H : ((util_KeyGet.f k a0 a1).bind fun t107 => (some t107)) = some r := h
  clear h
  replace H := Option.bind_eq_some_iff.mp H
  obtain ⟨t107, A30, H⟩ := H
  replace H : (some t107) = some r := H
  have A3 := Aside0.mk A30
  clear A30
  obtain rfl := Option.some.inj H
  go_enter Try.func24, Try.ntmps24
  go_wp2_with (first | ((with_reducible refine gate_callee (f := 43) rfl ?_); refine goesL_ (some 7) rfl rfl Try.func43 (by kernel_rfl) rfl #[.string a0, .string a1] rfl (by (try simp only [List.map_toArray, List.map_cons, List.map_nil]); first | done | rfl | (simp only [List.length_drop, List.length_take]; rfl)) ?_; (with_reducible refine (util_KeyGet.calls k a0 a1 t107 _ A3.out).mono ?_); rintro e w' ⟨rfl, ⟨nd, rfl⟩⟩; refine ⟨_, rfl, ?_⟩))
  go_ret
  exact ⟨by first | rfl | (simp; done) | (simp [*]; done), by repeat (first | exact Drawn0.refl _ | apply Drawn0.step)⟩

/-! ### util_KeyMatch: function 46 -/
def util_KeyMatch.f (k : Nat) (a0 : ByteArray) (a1 : ByteArray) : Option (Bool) := (util_zzIndex.f k a1 (⟨#[42]⟩ : ByteArray)).bind fun t108 => (if t108 = (-1) then (some (a0.toList == a1.toList)) else (if (a0.size : Int) > t108 then (if 0 ≤ t108 then (if t108 ≤ (a0.size : Int) then (if t108 ≤ (a1.size : Int) then (some ((a0.extract 0 (t108 : Int).toNat).toList == (a1.extract 0 (t108 : Int).toNat).toList)) else (none)) else (none)) else (none)) else (if 0 ≤ t108 then (if t108 ≤ (a1.size : Int) then (some (a0.toList == (a1.extract 0 (t108 : Int).toNat).toList)) else (none)) else (none))))
theorem util_KeyMatch.mono : ∀ a0 a1 k, LeO (util_KeyMatch.f k a0 a1) (util_KeyMatch.f (k + 1) a0 a1) := by
  intro a0 a1 k
  unfold util_KeyMatch.f
  repeat' first
      | (with_reducible exact util_zzIndex.mono _ _ _)
      | (with_reducible exact LeO.refl _)
      | (with_reducible exact LeO.none _)
      | (with_reducible refine LeO.ite ?_ ?_)
      | (with_reducible refine LeO.bind ?_ (fun _ => ?_))
      | exact util_zzIndex.mono _ _ _
      | exact LeO.none _
      | refine LeO.ite ?_ ?_
      | refine LeO.bind ?_ (fun _ => ?_)
set_option maxHeartbeats 8000000 in
set_option maxRecDepth 100000 in
theorem util_KeyMatch.calls (k : Nat) (a0 : ByteArray) (a1 : ByteArray) (r : Bool) (w : World) (h : util_KeyMatch.f k a0 a1 = some r) :
    Calls Try.prog 46 #[.string a0, .string a1] w fun e w' => e = .returned (.bool r) ∧ Drawn0 w w' := by
  have H : ((util_zzIndex.f k a1 (⟨#[42]⟩ : ByteArray)).bind fun t108 => (if t108 = (-1) then (some (a0.toList == a1.toList)) else (if (a0.size : Int) > t108 then (if 0 ≤ t108 then (if t108 ≤ (a0.size : Int) then (if t108 ≤ (a1.size : Int) then (some ((a0.extract 0 (t108 : Int).toNat).toList == (a1.extract 0 (t108 : Int).toNat).toList)) else (none)) else (none)) else (none)) else (if 0 ≤ t108 then (if t108 ≤ (a1.size : Int) then (some (a0.toList == (a1.extract 0 (t108 : Int).toNat).toList)) else (none)) else (none))))) = some r := h
  clear h
  replace H := Option.bind_eq_some_iff.mp H
  obtain ⟨t108, A30, H⟩ := H
  replace H : (if t108 = (-1) then (some (a0.toList == a1.toList)) else (if (a0.size : Int) > t108 then (if 0 ≤ t108 then (if t108 ≤ (a0.size : Int) then (if t108 ≤ (a1.size : Int) then (some ((a0.extract 0 (t108 : Int).toNat).toList == (a1.extract 0 (t108 : Int).toNat).toList)) else (none)) else (none)) else (none)) else (if 0 ≤ t108 then (if t108 ≤ (a1.size : Int) then (some (a0.toList == (a1.extract 0 (t108 : Int).toNat).toList)) else (none)) else (none)))) = some r := H
  have A3 := Aside0.mk A30
  clear A30
  by_cases c4 : t108 = (-1)
  · rw [if_pos c4] at H
    have c4b0 : (t108 == (-1)) = true := beq_iff_eq.mpr c4
    have c4b1 : (t108 != (-1)) = false := bne_eq_false_iff_eq.mpr c4
    clear c4
    obtain rfl := Option.some.inj H
    go_enter Try.func46, Try.ntmps46
    go_wp2_with (first | (go_at_call 56; (with_reducible refine (util_zzIndex.calls k a1 (⟨#[42]⟩ : ByteArray) t108 _ A3.out).mono ?_); rintro e w' ⟨rfl, ⟨nd, rfl⟩⟩; (try first | exact ⟨rfl, _, World.drewN_drewN _ _ _⟩ | exact ⟨rfl, _, Eq.trans (World.drewN_drewN _ _ _) (congrArg (World.drewN _) (Nat.add_assoc _ _ _))⟩)))
    repeat (go_quiet (first | (go_at_call 56; (with_reducible refine (util_zzIndex.calls k a1 (⟨#[42]⟩ : ByteArray) t108 _ A3.out).mono ?_); rintro e w' ⟨rfl, ⟨nd, rfl⟩⟩; (try first | exact ⟨rfl, _, World.drewN_drewN _ _ _⟩ | exact ⟨rfl, _, Eq.trans (World.drewN_drewN _ _ _) (congrArg (World.drewN _) (Nat.add_assoc _ _ _))⟩))); try go_wp2_with (first | (go_at_call 56; (with_reducible refine (util_zzIndex.calls k a1 (⟨#[42]⟩ : ByteArray) t108 _ A3.out).mono ?_); rintro e w' ⟨rfl, ⟨nd, rfl⟩⟩; (try first | exact ⟨rfl, _, World.drewN_drewN _ _ _⟩ | exact ⟨rfl, _, Eq.trans (World.drewN_drewN _ _ _) (congrArg (World.drewN _) (Nat.add_assoc _ _ _))⟩))))
    go_ret
    exact ⟨by first | rfl | (simp; done) | (simp [*]; done), by repeat (first | exact Drawn0.refl _ | apply Drawn0.step)⟩
  · rw [if_neg c4] at H
    have c4b0 : (t108 == (-1)) = false := beq_eq_false_iff_ne.mpr c4
    have c4b1 : (t108 != (-1)) = true := bne_iff_ne.mpr c4
    by_cases c5 : (a0.size : Int) > t108
    · rw [if_pos c5] at H
      have c5b0 : decide (t108 < (a0.size : Int)) = true := decide_eq_true c5
      clear c5
      by_cases c6 : 0 ≤ t108
      · rw [if_pos c6] at H
        have c6b0 := eq_true c6
        have c6b1 : decide (0 ≤ t108) = true := decide_eq_true c6
        clear c6
        by_cases c7 : t108 ≤ (a0.size : Int)
        · rw [if_pos c7] at H
          have c7b0 := eq_true c7
          have c7b1 : decide (t108 ≤ (a0.size : Int)) = true := decide_eq_true c7
          clear c7
          have c8b0 := eq_true (of_decide_eq_true (by first | (with_reducible assumption) | assumption) : 0 ≤ t108)
          by_cases c9 : t108 ≤ (a1.size : Int)
          · rw [if_pos c9] at H
            have c9b0 := eq_true c9
            have c9b1 : decide (t108 ≤ (a1.size : Int)) = true := decide_eq_true c9
            clear c9
            obtain rfl := Option.some.inj H
            go_enter Try.func46, Try.ntmps46
            go_wp2_with (first | (go_at_call 56; (with_reducible refine (util_zzIndex.calls k a1 (⟨#[42]⟩ : ByteArray) t108 _ A3.out).mono ?_); rintro e w' ⟨rfl, ⟨nd, rfl⟩⟩; (try first | exact ⟨rfl, _, World.drewN_drewN _ _ _⟩ | exact ⟨rfl, _, Eq.trans (World.drewN_drewN _ _ _) (congrArg (World.drewN _) (Nat.add_assoc _ _ _))⟩)))
            repeat (go_quiet (first | (go_at_call 56; (with_reducible refine (util_zzIndex.calls k a1 (⟨#[42]⟩ : ByteArray) t108 _ A3.out).mono ?_); rintro e w' ⟨rfl, ⟨nd, rfl⟩⟩; (try first | exact ⟨rfl, _, World.drewN_drewN _ _ _⟩ | exact ⟨rfl, _, Eq.trans (World.drewN_drewN _ _ _) (congrArg (World.drewN _) (Nat.add_assoc _ _ _))⟩))); try go_wp2_with (first | (go_at_call 56; (with_reducible refine (util_zzIndex.calls k a1 (⟨#[42]⟩ : ByteArray) t108 _ A3.out).mono ?_); rintro e w' ⟨rfl, ⟨nd, rfl⟩⟩; (try first | exact ⟨rfl, _, World.drewN_drewN _ _ _⟩ | exact ⟨rfl, _, Eq.trans (World.drewN_drewN _ _ _) (congrArg (World.drewN _) (Nat.add_assoc _ _ _))⟩))))
            go_ret
            exact ⟨by first | rfl | (simp; done) | (simp [*]; done), by repeat (first | exact Drawn0.refl _ | apply Drawn0.step)⟩
          · rw [if_neg c9] at H
            exact absurd H (by simp)
        · rw [if_neg c7] at H
          exact absurd H (by simp)
      · rw [if_neg c6] at H
        exact absurd H (by simp)
    · rw [if_neg c5] at H
      have c5b0 : decide (t108 < (a0.size : Int)) = false := decide_eq_false c5
      clear c5
      by_cases c10 : 0 ≤ t108
      · rw [if_pos c10] at H
        have c10b0 := eq_true c10
        have c10b1 : decide (0 ≤ t108) = true := decide_eq_true c10
        clear c10
        by_cases c11 : t108 ≤ (a1.size : Int)
        · rw [if_pos c11] at H
          have c11b0 := eq_true c11
          have c11b1 : decide (t108 ≤ (a1.size : Int)) = true := decide_eq_true c11
          clear c11
          obtain rfl := Option.some.inj H
          go_enter Try.func46, Try.ntmps46
          go_wp2_with (first | (go_at_call 56; (with_reducible refine (util_zzIndex.calls k a1 (⟨#[42]⟩ : ByteArray) t108 _ A3.out).mono ?_); rintro e w' ⟨rfl, ⟨nd, rfl⟩⟩; (try first | exact ⟨rfl, _, World.drewN_drewN _ _ _⟩ | exact ⟨rfl, _, Eq.trans (World.drewN_drewN _ _ _) (congrArg (World.drewN _) (Nat.add_assoc _ _ _))⟩)))
          repeat (go_quiet (first | (go_at_call 56; (with_reducible refine (util_zzIndex.calls k a1 (⟨#[42]⟩ : ByteArray) t108 _ A3.out).mono ?_); rintro e w' ⟨rfl, ⟨nd, rfl⟩⟩; (try first | exact ⟨rfl, _, World.drewN_drewN _ _ _⟩ | exact ⟨rfl, _, Eq.trans (World.drewN_drewN _ _ _) (congrArg (World.drewN _) (Nat.add_assoc _ _ _))⟩))); try go_wp2_with (first | (go_at_call 56; (with_reducible refine (util_zzIndex.calls k a1 (⟨#[42]⟩ : ByteArray) t108 _ A3.out).mono ?_); rintro e w' ⟨rfl, ⟨nd, rfl⟩⟩; (try first | exact ⟨rfl, _, World.drewN_drewN _ _ _⟩ | exact ⟨rfl, _, Eq.trans (World.drewN_drewN _ _ _) (congrArg (World.drewN _) (Nat.add_assoc _ _ _))⟩))))
          go_ret
          exact ⟨by first | rfl | (simp; done) | (simp [*]; done), by repeat (first | exact Drawn0.refl _ | apply Drawn0.step)⟩
        · rw [if_neg c11] at H
          exact absurd H (by simp)
      · rw [if_neg c10] at H
        exact absurd H (by simp)

/-! ### impl_KeyMatch: function 26 -/
def impl_KeyMatch.f (k : Nat) (a0 : ByteArray) (a1 : ByteArray) : Option (Bool) := (util_KeyMatch.f k a0 a1).bind fun t109 => (some t109)
theorem impl_KeyMatch.mono : ∀ a0 a1 k, LeO (impl_KeyMatch.f k a0 a1) (impl_KeyMatch.f (k + 1) a0 a1) := by
  intro a0 a1 k
  unfold impl_KeyMatch.f
  repeat' first
      | (with_reducible exact util_KeyMatch.mono _ _ _)
      | (with_reducible exact LeO.refl _)
      | (with_reducible exact LeO.none _)
      | (with_reducible refine LeO.ite ?_ ?_)
      | (with_reducible refine LeO.bind ?_ (fun _ => ?_))
      | exact util_KeyMatch.mono _ _ _
      | exact LeO.none _
      | refine LeO.ite ?_ ?_
      | refine LeO.bind ?_ (fun _ => ?_)
set_option maxHeartbeats 8000000 in
set_option maxRecDepth 100000 in
theorem impl_KeyMatch.calls (k : Nat) (a0 : ByteArray) (a1 : ByteArray) (r : Bool) (w : World) (h : impl_KeyMatch.f k a0 a1 = some r) :
    Calls Try.prog 26 #[.string a0, .string a1] w fun e w' => e = .returned (.bool r) ∧ Drawn0 w w' := by
  have H : ((util_KeyMatch.f k a0 a1).bind fun t109 => (some t109)) = some r := h
  clear h
  replace H := Option.bind_eq_some_iff.mp H
  obtain ⟨t109, A30, H⟩ := H
  replace H : (some t109) = some r := H
  have A3 := Aside0.mk A30
  clear A30
  obtain rfl := Option.some.inj H
  go_enter Try.func26, Try.ntmps26
  go_wp2_with (first | ((with_reducible refine gate_callee (f := 46) rfl ?_); refine goesL_ (some 7) rfl rfl Try.func46 (by kernel_rfl) rfl #[.string a0, .string a1] rfl (by (try simp only [List.map_toArray, List.map_cons, List.map_nil]); first | done | rfl | (simp only [List.length_drop, List.length_take]; rfl)) ?_; (with_reducible refine (util_KeyMatch.calls k a0 a1 t109 _ A3.out).mono ?_); rintro e w' ⟨rfl, ⟨nd, rfl⟩⟩; refine ⟨_, rfl, ?_⟩))
  go_ret
  exact ⟨by first | rfl | (simp; done) | (simp [*]; done), by repeat (first | exact Drawn0.refl _ | apply Drawn0.step)⟩

end Go.Proofs.Ytdhmlcnlklcofaa.PFnKeyMatch
