/- The machine side of laws.FnModelAdd: each function of this text answers what its Lean function answers (written for this claim by a program of this session over the kit's print; no condition beyond what each theorem says). -/
import Derived.Test.YtjglpjlbnmpdfaaGreatDoorOFnModelAddx0
import Derived.Test.YtjglpjlbnmpdfaaGreatDoorOFnModelAddx7
namespace Go.Proofs.YtjglpjlbnmpdfaaGreatDoor.PFnModelAdd
open Go.RowKit Go.Proofs.YtjglpjlbnmpdfaaGreatDoorW.PrintWords Go.Proofs.YtjglpjlbnmpdfaaGreatDoorW.PrintLast Go.Proofs.YtjglpjlbnmpdfaaGreatDoorW.PrintMore
attribute [local go_sem] max2_int min2_int max_two min_two max_three min_three max_four min_four   -- for this text's walks alone
set_option linter.unusedVariables false
set_option linter.unusedSimpArgs false

/-! ### util_zzEscape: function 82 -/
mutual
def util_zzEscape.l0 : Nat → ByteArray → ByteArray → Int → Option (ByteArray)
 | 0, _, _, _ => none
 | k + 1, x0, x3, x4 => if x4 < (x0.size : Int) then (if 0 ≤ x4 then ((util_zzBefore.f (bt x0 x4)).bind fun t148 => (if t148 = true then ((util_zzName.f k x0 (wrap64 (x4 + 1))).bind fun t149 => (util_zzEscape.j1 k x0 x3 x4 x4 t149)) else (util_zzEscape.j1 k x0 x3 x4 x4 (-1)))) else (none)) else (some x3)
def util_zzEscape.j1 : Nat → ByteArray → ByteArray → Int → Int → Int → Option (ByteArray)
 | 0, _, _, _, _, _ => none
 | k + 1, x0, x3, x4, x5, x6 => if x6 < 0 then (util_zzEscape.j2 k x0 x3 x4 x5 x6 (x4 == 0)) else (util_zzEscape.j2 k x0 x3 x4 x5 x6 false)
def util_zzEscape.j2 : Nat → ByteArray → ByteArray → Int → Int → Int → Bool → Option (ByteArray)
 | 0, _, _, _, _, _, _ => none
 | k + 1, x0, x3, x4, x5, x6, x25 => if x25 = true then ((util_zzName.f k x0 0).bind fun t150 => (if t150 < 0 then (if 0 ≤ x4 then (if x4 ≤ (wrap64 (x4 + 1)) then (if (wrap64 (x4 + 1)) ≤ (x0.size : Int) then (if x3.size + (x0.extract (x4 : Int).toNat ((wrap64 (x4 + 1)) : Int).toNat).size ≤ 9223372036854775807 then (util_zzEscape.l0 k x0 (x3 ++ (x0.extract (x4 : Int).toNat ((wrap64 (x4 + 1)) : Int).toNat)) (wrap64 (x4 + 1))) else (none)) else (none)) else (none)) else (none)) else (if 0 ≤ x5 then (if x5 ≤ (wrap64 (t150 - 1)) then (if (wrap64 (t150 - 1)) ≤ (x0.size : Int) then (if (x0.extract (x5 : Int).toNat ((wrap64 (t150 - 1)) : Int).toNat).size + 1 ≤ 9223372036854775807 then (if x3.size + ((x0.extract (x5 : Int).toNat ((wrap64 (t150 - 1)) : Int).toNat) ++ (⟨#[95]⟩ : ByteArray)).size ≤ 9223372036854775807 then (util_zzEscape.l0 k x0 (x3 ++ ((x0.extract (x5 : Int).toNat ((wrap64 (t150 - 1)) : Int).toNat) ++ (⟨#[95]⟩ : ByteArray))) t150) else (none)) else (none)) else (none)) else (none)) else (none)))) else (if x6 < 0 then (if 0 ≤ x4 then (if x4 ≤ (wrap64 (x4 + 1)) then (if (wrap64 (x4 + 1)) ≤ (x0.size : Int) then (if x3.size + (x0.extract (x4 : Int).toNat ((wrap64 (x4 + 1)) : Int).toNat).size ≤ 9223372036854775807 then (util_zzEscape.l0 k x0 (x3 ++ (x0.extract (x4 : Int).toNat ((wrap64 (x4 + 1)) : Int).toNat)) (wrap64 (x4 + 1))) else (none)) else (none)) else (none)) else (none)) else (if 0 ≤ x5 then (if x5 ≤ (wrap64 (x6 - 1)) then (if (wrap64 (x6 - 1)) ≤ (x0.size : Int) then (if (x0.extract (x5 : Int).toNat ((wrap64 (x6 - 1)) : Int).toNat).size + 1 ≤ 9223372036854775807 then (if x3.size + ((x0.extract (x5 : Int).toNat ((wrap64 (x6 - 1)) : Int).toNat) ++ (⟨#[95]⟩ : ByteArray)).size ≤ 9223372036854775807 then (util_zzEscape.l0 k x0 (x3 ++ ((x0.extract (x5 : Int).toNat ((wrap64 (x6 - 1)) : Int).toNat) ++ (⟨#[95]⟩ : ByteArray))) x6) else (none)) else (none)) else (none)) else (none)) else (none)))
end
def util_zzEscape.f (k : Nat) (a0 : ByteArray) : Option (ByteArray) := util_zzEscape.l0 k a0 (⟨#[]⟩ : ByteArray) 0
theorem util_zzEscape.mono_l : ∀ k, (∀ y0 y1 y2, LeO (util_zzEscape.l0 k y0 y1 y2) (util_zzEscape.l0 (k + 1) y0 y1 y2)) ∧ (∀ y0 y1 y2 y3 y4, LeO (util_zzEscape.j1 k y0 y1 y2 y3 y4) (util_zzEscape.j1 (k + 1) y0 y1 y2 y3 y4)) ∧ (∀ y0 y1 y2 y3 y4 y5, LeO (util_zzEscape.j2 k y0 y1 y2 y3 y4 y5) (util_zzEscape.j2 (k + 1) y0 y1 y2 y3 y4 y5))
 | 0 => ⟨fun _ _ _ r h => by simp [util_zzEscape.l0] at h, fun _ _ _ _ _ r h => by simp [util_zzEscape.j1] at h, fun _ _ _ _ _ _ r h => by simp [util_zzEscape.j2] at h⟩
 | k + 1 => by
  obtain ⟨ih0, ih1, ih2⟩ := util_zzEscape.mono_l k
  refine ⟨?_, ?_, ?_⟩
  ·intro y0 y1 y2
   unfold util_zzEscape.l0
   repeat' first
   | (with_reducible exact ih0 _ _ _)
   | (with_reducible exact ih1 _ _ _ _ _)
   | (with_reducible exact ih2 _ _ _ _ _ _)
   | (with_reducible exact util_zzName.mono _ _ _)
   | (with_reducible exact LeO.refl _)
   | (with_reducible exact LeO.none _)
   | (with_reducible refine LeO.ite ?_ ?_)
   | (with_reducible refine LeO.bind ?_ (fun _ => ?_))
   | exact ih0 _ _ _
   | exact ih1 _ _ _ _ _
   | exact ih2 _ _ _ _ _ _
   | exact util_zzName.mono _ _ _
   | exact LeO.none _
   | refine LeO.ite ?_ ?_
   | refine LeO.bind ?_ (fun _ => ?_)
  ·intro y0 y1 y2 y3 y4
   unfold util_zzEscape.j1
   repeat' first
   | (with_reducible exact ih0 _ _ _)
   | (with_reducible exact ih1 _ _ _ _ _)
   | (with_reducible exact ih2 _ _ _ _ _ _)
   | (with_reducible exact util_zzName.mono _ _ _)
   | (with_reducible exact LeO.refl _)
   | (with_reducible exact LeO.none _)
   | (with_reducible refine LeO.ite ?_ ?_)
   | (with_reducible refine LeO.bind ?_ (fun _ => ?_))
   | exact ih0 _ _ _
   | exact ih1 _ _ _ _ _
   | exact ih2 _ _ _ _ _ _
   | exact util_zzName.mono _ _ _
   | exact LeO.none _
   | refine LeO.ite ?_ ?_
   | refine LeO.bind ?_ (fun _ => ?_)
  ·intro y0 y1 y2 y3 y4 y5
   unfold util_zzEscape.j2
   repeat' first
   | (with_reducible exact ih0 _ _ _)
   | (with_reducible exact ih1 _ _ _ _ _)
   | (with_reducible exact ih2 _ _ _ _ _ _)
   | (with_reducible exact util_zzName.mono _ _ _)
   | (with_reducible exact LeO.refl _)
   | (with_reducible exact LeO.none _)
   | (with_reducible refine LeO.ite ?_ ?_)
   | (with_reducible refine LeO.bind ?_ (fun _ => ?_))
   | exact ih0 _ _ _
   | exact ih1 _ _ _ _ _
   | exact ih2 _ _ _ _ _ _
   | exact util_zzName.mono _ _ _
   | exact LeO.none _
   | refine LeO.ite ?_ ?_
   | refine LeO.bind ?_ (fun _ => ?_)
theorem util_zzEscape.mono : ∀ a0 k, LeO (util_zzEscape.f k a0) (util_zzEscape.f (k + 1) a0) := by
 intro a0 k
 obtain ⟨ih0, ih1, ih2⟩ := util_zzEscape.mono_l k
 unfold util_zzEscape.f
 repeat' first
   | (with_reducible exact ih0 _ _ _)
   | (with_reducible exact ih1 _ _ _ _ _)
   | (with_reducible exact ih2 _ _ _ _ _ _)
   | (with_reducible exact util_zzName.mono _ _ _)
   | (with_reducible exact LeO.refl _)
   | (with_reducible exact LeO.none _)
   | (with_reducible refine LeO.ite ?_ ?_)
   | (with_reducible refine LeO.bind ?_ (fun _ => ?_))
   | exact ih0 _ _ _
   | exact ih1 _ _ _ _ _
   | exact ih2 _ _ _ _ _ _
   | exact util_zzName.mono _ _ _
   | exact LeO.none _
   | refine LeO.ite ?_ ?_
   | refine LeO.bind ?_ (fun _ => ?_)
set_option maxHeartbeats 8000000 in
set_option maxRecDepth 100000 in
theorem util_zzEscape.calls (k : Nat) (a0 : ByteArray) (r : ByteArray) (w : World) (h : util_zzEscape.f k a0 = some r) :
  Calls Tryz.prog 82 #[.string a0] w fun e w' => e = .returned (.string r) ∧ Drawn0 w w' := by
 have H : (util_zzEscape.l0 k a0 (⟨#[]⟩ : ByteArray) 0) = some r := h
 clear h
 have H' := Aside0.mk H
 clear H
 go_enter Tryz.func82, Tryz.ntmps82
 go_wp2
 go_loopg [3, 4] k (fun kq v3 v4 w' => ∃ (x3_1 : ByteArray) (x4_1 : Int), v3 = .string x3_1 ∧ v4 = .int .i64 x4_1 ∧ Aside0 (util_zzEscape.l0 kq a0 x3_1 x4_1 = some r) ∧ Aside0 (kq ≤ k) ∧ Drawn0 w w')
 case atStart => exact ⟨((⟨#[]⟩ : ByteArray)), (0), orf, orf, H', ⟨Nat.le_refl _⟩, by repeat (first | exact Drawn0.refl _ | apply Drawn0.step)⟩
 case round =>
  clear H'
  obtain ⟨x3_1, x4_1, rfl, rfl, HA, HK1, ⟨m1, rfl⟩⟩ := hrel
  cases gk with
  | zero => exact absurd HA.out (by simp [util_zzEscape.l0])
  | succ k1 =>
   have H := HA.out
   clear HA
   simp only [util_zzEscape.l0] at H
   by_cases c2 : x4_1 < (a0.size : Int)
   ·rw [if_pos c2] at H
    have c2b0 : decide (x4_1 < (a0.size : Int)) = true := decide_eq_true c2
    clear c2
    by_cases c3 : 0 ≤ x4_1
    ·rw [if_pos c3] at H
     have c3b0 : decide (0 ≤ x4_1) = true := decide_eq_true c3
     clear c3
     replace H := Option.bind_eq_some_iff.mp H
     obtain ⟨t148, A50, H⟩ := H
     replace H : (if t148 = true then ((util_zzName.f k1 a0 (wrap64 (x4_1 + 1))).bind fun t149 => (util_zzEscape.j1 k1 a0 x3_1 x4_1 x4_1 t149)) else (util_zzEscape.j1 k1 a0 x3_1 x4_1 x4_1 (-1))) = some r := H
     have A5 := Aside0.mk A50
     clear A50
     have HC6 := Aside0.mk H
     clear H
     have p4 : 0 ≤ (x4_1 : Int) := odt
     have q4 : x4_1 < (a0.size : Int) := odt
     have hx4 := bt_at a0 x4_1
     replace p4 := eq_true p4
     replace q4 := eq_true q4
     go_upto_if 15 with (first | ((with_reducible refine gate_callee (f := 102) rfl ?_); refine goesL_ (some 15) rfl rfl Tryz.func102 (by kernel_rfl) rfl #[.int .u8 (bt a0 x4_1)] rfl (by (try simp only [List.map_toArray, List.map_cons, List.map_nil]); first | done | rfl | (simp only [List.length_drop, List.length_take]; rfl)) ?_; (with_reducible refine (util_zzBefore.calls (bt a0 x4_1) t148 _ A5.out).mono ?_); rintro e w' ⟨rfl, ⟨nd, rfl⟩⟩; refine ⟨_, rfl, ?_⟩))
     (try simp only [Act.put, List.setIfInBounds_toArray, List.set_cons_zero, List.set_cons_succ])
     go_cut [6] (fun v6 wc => ∃ (kq : Nat) (x6_5 : Int), v6 = .int .i64 x6_5 ∧ Aside0 (util_zzEscape.j1 kq a0 x3_1 x4_1 x4_1 x6_5 = some r) ∧ Aside0 (kq ≤ k1) ∧ Drawn0 w wc)
     case first =>
      have H := HC6.out
      clear HC6
      by_cases c7 : t148 = true
      ·subst c7
       have H1 : ((util_zzName.f k1 a0 (wrap64 (x4_1 + 1))).bind fun t149 => (util_zzEscape.j1 k1 a0 x3_1 x4_1 x4_1 t149)) = some r := by rw [if_pos rfl] at H; exact H
       clear H
       have H := H1
       clear H1
       replace H := Option.bind_eq_some_iff.mp H
       obtain ⟨t149, A80, H⟩ := H
       replace H : (util_zzEscape.j1 k1 a0 x3_1 x4_1 x4_1 t149) = some r := H
       have A8 := Aside0.mk A80
       clear A80
       have H' := Aside0.mk H
       clear H
       go_wp2_with (first | ((with_reducible refine gate_callee (f := 103) rfl ?_); refine goesL_ (some 19) rfl rfl Tryz.func103 (by kernel_rfl) rfl #[.string a0, .int .i64 (wrap64 (x4_1 + 1))] rfl (by (try simp only [List.map_toArray, List.map_cons, List.map_nil]); first | done | rfl | (simp only [List.length_drop, List.length_take]; rfl)) ?_; (with_reducible refine (util_zzName.calls k1 a0 (wrap64 (x4_1 + 1)) t149 _ A8.out).mono ?_); rintro e w' ⟨rfl, ⟨nd, rfl⟩⟩; refine ⟨_, rfl, ?_⟩))
       go_meet
       case rel => exact ⟨_, (t149), orf, H', ⟨by have := HK1.out; first | omega | exact Nat.le_refl _⟩, by repeat (first | exact Drawn0.refl _ | apply Drawn0.step)⟩
      ·replace c7 := Bool.eq_false_iff.mpr c7
       subst c7
       have H1 : (util_zzEscape.j1 k1 a0 x3_1 x4_1 x4_1 (-1)) = some r := by rw [if_neg (show ¬ (false = true) by decide)] at H; exact H
       clear H
       have H := H1
       clear H1
       have H' := Aside0.mk H
       clear H
       go_wp2
       go_meet
       case rel => exact ⟨_, ((-1)), orf, H', ⟨by have := HK1.out; first | omega | exact Nat.le_refl _⟩, by repeat (first | exact Drawn0.refl _ | apply Drawn0.step)⟩
     case rest =>
      clear HC6
      try clear c1
      try clear c2
      try clear c2b0
      try clear p2
      try clear c3
      try clear c3b0
      try clear p4
      try clear q4
      try clear hx4
      try clear p6
      try clear c7
      try clear c8
      try clear p4
      try clear q4
      obtain ⟨kq, x6_5, rfl, HA, HJ5, ⟨mc5, rfl⟩⟩ := hcut
      cases kq with
      | zero => exact absurd HA.out (by simp [util_zzEscape.j1])
      | succ kj5 =>
       have H := HA.out
       clear HA
       simp only [util_zzEscape.j1] at H
       have HC9 := Aside0.mk H
       clear H
       go_upto_region 7 with (fail)
       go_cut [25] (fun v25 wc => ∃ (kq : Nat) (x25_8 : Bool), v25 = .bool x25_8 ∧ Aside0 (util_zzEscape.j2 kq a0 x3_1 x4_1 x4_1 x6_5 x25_8 = some r) ∧ Aside0 (kq ≤ kj5) ∧ Drawn0 w wc)
       case first =>
        have H := HC9.out
        clear HC9
        by_cases c10 : x6_5 < 0
        ·rw [if_pos c10] at H
         have c10b0 : decide (x6_5 < 0) = true := decide_eq_true c10
         clear c10
         (first | rw [c10b0] | (simp only [i64_w, i32_w]; rw [c10b0]) | skip)
         have H' := Aside0.mk H
         clear H
         go_wp2
         go_meet
         case rel => exact ⟨_, ((x4_1 == 0)), orf, H', ⟨by have := HK1.out; have := HJ5.out; first | omega | exact Nat.le_refl _⟩, by repeat (first | exact Drawn0.refl _ | apply Drawn0.step)⟩
        ·rw [if_neg c10] at H
         have c10b0 : decide (x6_5 < 0) = false := decide_eq_false c10
         clear c10
         (first | rw [c10b0] | (simp only [i64_w, i32_w]; rw [c10b0]) | skip)
         have H' := Aside0.mk H
         clear H
         go_wp2
         go_meet
         case rel => exact ⟨_, (false), orf, H', ⟨by have := HK1.out; have := HJ5.out; first | omega | exact Nat.le_refl _⟩, by repeat (first | exact Drawn0.refl _ | apply Drawn0.step)⟩
       case rest =>
        clear HC9
        try clear c1
        try clear c2
        try clear c2b0
        try clear p2
        try clear c3
        try clear c3b0
        try clear p4
        try clear q4
        try clear hx4
        try clear c5
        try clear p6
        try clear c7
        try clear c8
        try clear c10
        try clear c10b0
        try clear p2
        try clear p4
        try clear p6
        try clear q4
        obtain ⟨kq, x25_8, rfl, HA, HJ8, ⟨mc8, rfl⟩⟩ := hcut
        cases kq with
        | zero => exact absurd HA.out (by simp [util_zzEscape.j2])
        | succ kj8 =>
         have H := HA.out
         clear HA
         simp only [util_zzEscape.j2] at H
         by_cases c11 : x25_8 = true
         ·subst c11
          have H1 : ((util_zzName.f kj8 a0 0).bind fun t150 => (if t150 < 0 then (if 0 ≤ x4_1 then (if x4_1 ≤ (wrap64 (x4_1 + 1)) then (if (wrap64 (x4_1 + 1)) ≤ (a0.size : Int) then (if x3_1.size + (a0.extract (x4_1 : Int).toNat ((wrap64 (x4_1 + 1)) : Int).toNat).size ≤ 9223372036854775807 then (util_zzEscape.l0 kj8 a0 (x3_1 ++ (a0.extract (x4_1 : Int).toNat ((wrap64 (x4_1 + 1)) : Int).toNat)) (wrap64 (x4_1 + 1))) else (none)) else (none)) else (none)) else (none)) else (if 0 ≤ x4_1 then (if x4_1 ≤ (wrap64 (t150 - 1)) then (if (wrap64 (t150 - 1)) ≤ (a0.size : Int) then (if (a0.extract (x4_1 : Int).toNat ((wrap64 (t150 - 1)) : Int).toNat).size + 1 ≤ 9223372036854775807 then (if x3_1.size + ((a0.extract (x4_1 : Int).toNat ((wrap64 (t150 - 1)) : Int).toNat) ++ (⟨#[95]⟩ : ByteArray)).size ≤ 9223372036854775807 then (util_zzEscape.l0 kj8 a0 (x3_1 ++ ((a0.extract (x4_1 : Int).toNat ((wrap64 (t150 - 1)) : Int).toNat) ++ (⟨#[95]⟩ : ByteArray))) t150) else (none)) else (none)) else (none)) else (none)) else (none)))) = some r := by rw [if_pos rfl] at H; exact H
          clear H
          have H := H1
          clear H1
          replace H := Option.bind_eq_some_iff.mp H
          obtain ⟨t150, A120, H⟩ := H
          replace H : (if t150 < 0 then (if 0 ≤ x4_1 then (if x4_1 ≤ (wrap64 (x4_1 + 1)) then (if (wrap64 (x4_1 + 1)) ≤ (a0.size : Int) then (if x3_1.size + (a0.extract (x4_1 : Int).toNat ((wrap64 (x4_1 + 1)) : Int).toNat).size ≤ 9223372036854775807 then (util_zzEscape.l0 kj8 a0 (x3_1 ++ (a0.extract (x4_1 : Int).toNat ((wrap64 (x4_1 + 1)) : Int).toNat)) (wrap64 (x4_1 + 1))) else (none)) else (none)) else (none)) else (none)) else (if 0 ≤ x4_1 then (if x4_1 ≤ (wrap64 (t150 - 1)) then (if (wrap64 (t150 - 1)) ≤ (a0.size : Int) then (if (a0.extract (x4_1 : Int).toNat ((wrap64 (t150 - 1)) : Int).toNat).size + 1 ≤ 9223372036854775807 then (if x3_1.size + ((a0.extract (x4_1 : Int).toNat ((wrap64 (t150 - 1)) : Int).toNat) ++ (⟨#[95]⟩ : ByteArray)).size ≤ 9223372036854775807 then (util_zzEscape.l0 kj8 a0 (x3_1 ++ ((a0.extract (x4_1 : Int).toNat ((wrap64 (t150 - 1)) : Int).toNat) ++ (⟨#[95]⟩ : ByteArray))) t150) else (none)) else (none)) else (none)) else (none)) else (none))) = some r := H
          have A12 := Aside0.mk A120
          clear A120
          by_cases c13 : t150 < 0
          ·rw [if_pos c13] at H
           have c13b0 : decide (t150 < 0) = true := decide_eq_true c13
           clear c13
           by_cases c14 : 0 ≤ x4_1
           ·rw [if_pos c14] at H
            have c14b0 := eq_true c14
            have c14b1 : decide (0 ≤ x4_1) = true := decide_eq_true c14
            clear c14
            by_cases c15 : x4_1 ≤ (wrap64 (x4_1 + 1))
            ·rw [if_pos c15] at H
             have c15b0 := eq_true c15
             have c15b1 : decide (x4_1 ≤ (wrap64 (x4_1 + 1))) = true := decide_eq_true c15
             by_cases c16 : (wrap64 (x4_1 + 1)) ≤ (a0.size : Int)
             ·rw [if_pos c16] at H
              have c16b0 := eq_true c16
              have c16b1 : decide ((wrap64 (x4_1 + 1)) ≤ (a0.size : Int)) = true := decide_eq_true c16
              by_cases c17 : x3_1.size + (a0.extract (x4_1 : Int).toNat ((wrap64 (x4_1 + 1)) : Int).toNat).size ≤ 9223372036854775807
              ·rw [if_pos c17] at H
               have c17m : (9223372036854775807 < x3_1.size + ((((wrap64 (x4_1 + 1)) : Int).toNat - (x4_1 : Int).toNat))) = False := eq_false (by have q := c17; simp only [ByteArray.size_append, ByteArray.size_extract] at q; have := of_decide_eq_true c16b1; omega)
               have c17b0 := eq_true c17
               have c17b1 : decide (x3_1.size + (a0.extract (x4_1 : Int).toNat ((wrap64 (x4_1 + 1)) : Int).toNat).size ≤ 9223372036854775807) = true := decide_eq_true c17
               try have c17b2 : (9223372036854775807 < x3_1.size + (a0.extract (x4_1 : Int).toNat ((wrap64 (x4_1 + 1)) : Int).toNat).size) = False := eq_false (Nat.not_lt.2 c17)
               have H' := Aside0.mk H
               clear H
               go_wp2_with (first | ((with_reducible refine gate_callee (f := 103) rfl ?_); refine goesL_ (some 27) rfl rfl Tryz.func103 (by kernel_rfl) rfl #[.string a0, .int .i64 0] rfl (by (try simp only [List.map_toArray, List.map_cons, List.map_nil]); first | done | rfl | (simp only [List.length_drop, List.length_take]; rfl)) ?_; (with_reducible refine (util_zzName.calls kj8 a0 0 t150 _ A12.out).mono ?_); rintro e w' ⟨rfl, ⟨nd, rfl⟩⟩; refine ⟨_, rfl, ?_⟩))
               go_roundg kj8
               case measure => have := HK1.out; have := HJ5.out; have := HJ8.out; omega
               case rel => exact ⟨(x3_1 ++ (a0.extract (x4_1 : Int).toNat ((wrap64 (x4_1 + 1)) : Int).toNat)), (wrap64 (x4_1 + 1)), orf, orf, H', ⟨by have := HK1.out; have := HJ5.out; have := HJ8.out; omega⟩, by repeat (first | exact Drawn0.refl _ | apply Drawn0.step)⟩
              ·rw [if_neg c17] at H
               exact absurd H (by simp)
             ·rw [if_neg c16] at H
              exact absurd H (by simp)
            ·rw [if_neg c15] at H
             exact absurd H (by simp)
           ·rw [if_neg c14] at H
            exact absurd H (by simp)
          ·rw [if_neg c13] at H
           have c13b0 : decide (t150 < 0) = false := decide_eq_false c13
           clear c13
           by_cases c18 : 0 ≤ x4_1
           ·rw [if_pos c18] at H
            have c18b0 := eq_true c18
            have c18b1 : decide (0 ≤ x4_1) = true := decide_eq_true c18
            clear c18
            by_cases c19 : x4_1 ≤ (wrap64 (t150 - 1))
            ·rw [if_pos c19] at H
             have c19b0 := eq_true c19
             have c19b1 : decide (x4_1 ≤ (wrap64 (t150 - 1))) = true := decide_eq_true c19
             clear c19
             by_cases c20 : (wrap64 (t150 - 1)) ≤ (a0.size : Int)
             ·rw [if_pos c20] at H
              have c20b0 := eq_true c20
              have c20b1 : decide ((wrap64 (t150 - 1)) ≤ (a0.size : Int)) = true := decide_eq_true c20
              clear c20
              by_cases c21 : (a0.extract (x4_1 : Int).toNat ((wrap64 (t150 - 1)) : Int).toNat).size + 1 ≤ 9223372036854775807
              ·rw [if_pos c21] at H
               have c21m : (9223372036854775807 < (((wrap64 (t150 - 1)) : Int).toNat - (x4_1 : Int).toNat) + 1) = False := eq_false (by have q := c21; simp only [ByteArray.size_append, ByteArray.size_extract] at q; have := of_decide_eq_true c20b1; omega)
               have c21b0 := eq_true c21
               have c21b1 : decide ((a0.extract (x4_1 : Int).toNat ((wrap64 (t150 - 1)) : Int).toNat).size + 1 ≤ 9223372036854775807) = true := decide_eq_true c21
               try have c21b2 : (9223372036854775807 < (a0.extract (x4_1 : Int).toNat ((wrap64 (t150 - 1)) : Int).toNat).size + 1) = False := eq_false (Nat.not_lt.2 c21)
               have c21b9 : (9223372036854775807 < ((wrap64 (t150 - 1))).toNat - (x4_1).toNat + 1) = False := eq_false (by have q := c21; rw [ByteArray.size_extract] at q; have := of_decide_eq_true c20b1; omega)
               by_cases c22 : x3_1.size + ((a0.extract (x4_1 : Int).toNat ((wrap64 (t150 - 1)) : Int).toNat) ++ (⟨#[95]⟩ : ByteArray)).size ≤ 9223372036854775807
               ·rw [if_pos c22] at H
                have c22n := c22
                simp only [ByteArray.size_append, Int.natCast_add, show (⟨#[95]⟩ : ByteArray).size = 1 from rfl] at c22n
                have c22m : (9223372036854775807 < x3_1.size + ((((wrap64 (t150 - 1)) : Int).toNat - (x4_1 : Int).toNat) + 1)) = False := eq_false (by have q := c22; simp only [ByteArray.size_append, ByteArray.size_extract, show (⟨#[95]⟩ : ByteArray).size = 1 from rfl] at q; have := of_decide_eq_true c20b1; omega)
                have c22b0 := eq_true c22
                have c22b1 : decide (x3_1.size + ((a0.extract (x4_1 : Int).toNat ((wrap64 (t150 - 1)) : Int).toNat) ++ (⟨#[95]⟩ : ByteArray)).size ≤ 9223372036854775807) = true := decide_eq_true c22
                try have c22b2 : (9223372036854775807 < x3_1.size + ((a0.extract (x4_1 : Int).toNat ((wrap64 (t150 - 1)) : Int).toNat) ++ (⟨#[95]⟩ : ByteArray)).size) = False := eq_false (Nat.not_lt.2 c22)
                have H' := Aside0.mk H
                clear H
                go_wp2_with (first | ((with_reducible refine gate_callee (f := 103) rfl ?_); refine goesL_ (some 27) rfl rfl Tryz.func103 (by kernel_rfl) rfl #[.string a0, .int .i64 0] rfl (by (try simp only [List.map_toArray, List.map_cons, List.map_nil]); first | done | rfl | (simp only [List.length_drop, List.length_take]; rfl)) ?_; (with_reducible refine (util_zzName.calls kj8 a0 0 t150 _ A12.out).mono ?_); rintro e w' ⟨rfl, ⟨nd, rfl⟩⟩; refine ⟨_, rfl, ?_⟩))
                go_roundg kj8
                case measure => have := HK1.out; have := HJ5.out; have := HJ8.out; omega
                case rel => exact ⟨(x3_1 ++ ((a0.extract (x4_1 : Int).toNat ((wrap64 (t150 - 1)) : Int).toNat) ++ (⟨#[95]⟩ : ByteArray))), (t150), orf, orf, H', ⟨by have := HK1.out; have := HJ5.out; have := HJ8.out; omega⟩, by repeat (first | exact Drawn0.refl _ | apply Drawn0.step)⟩
               ·rw [if_neg c22] at H
                have c22n := c22
                simp only [ByteArray.size_append, Int.natCast_add, show (⟨#[95]⟩ : ByteArray).size = 1 from rfl] at c22n
                exact absurd H (by simp)
              ·rw [if_neg c21] at H
               exact absurd H (by simp)
             ·rw [if_neg c20] at H
              exact absurd H (by simp)
            ·rw [if_neg c19] at H
             exact absurd H (by simp)
           ·rw [if_neg c18] at H
            exact absurd H (by simp)
         ·replace c11 := Bool.eq_false_iff.mpr c11
          subst c11
          have H1 : (if x6_5 < 0 then (if 0 ≤ x4_1 then (if x4_1 ≤ (wrap64 (x4_1 + 1)) then (if (wrap64 (x4_1 + 1)) ≤ (a0.size : Int) then (if x3_1.size + (a0.extract (x4_1 : Int).toNat ((wrap64 (x4_1 + 1)) : Int).toNat).size ≤ 9223372036854775807 then (util_zzEscape.l0 kj8 a0 (x3_1 ++ (a0.extract (x4_1 : Int).toNat ((wrap64 (x4_1 + 1)) : Int).toNat)) (wrap64 (x4_1 + 1))) else (none)) else (none)) else (none)) else (none)) else (if 0 ≤ x4_1 then (if x4_1 ≤ (wrap64 (x6_5 - 1)) then (if (wrap64 (x6_5 - 1)) ≤ (a0.size : Int) then (if (a0.extract (x4_1 : Int).toNat ((wrap64 (x6_5 - 1)) : Int).toNat).size + 1 ≤ 9223372036854775807 then (if x3_1.size + ((a0.extract (x4_1 : Int).toNat ((wrap64 (x6_5 - 1)) : Int).toNat) ++ (⟨#[95]⟩ : ByteArray)).size ≤ 9223372036854775807 then (util_zzEscape.l0 kj8 a0 (x3_1 ++ ((a0.extract (x4_1 : Int).toNat ((wrap64 (x6_5 - 1)) : Int).toNat) ++ (⟨#[95]⟩ : ByteArray))) x6_5) else (none)) else (none)) else (none)) else (none)) else (none))) = some r := by rw [if_neg (show ¬ (false = true) by decide)] at H; exact H
          clear H
          have H := H1
          clear H1
          by_cases c23 : x6_5 < 0
          ·rw [if_pos c23] at H
           have c23b0 : decide (x6_5 < 0) = true := decide_eq_true c23
           clear c23
           by_cases c24 : 0 ≤ x4_1
           ·rw [if_pos c24] at H
            have c24b0 := eq_true c24
            have c24b1 : decide (0 ≤ x4_1) = true := decide_eq_true c24
            clear c24
            by_cases c25 : x4_1 ≤ (wrap64 (x4_1 + 1))
            ·rw [if_pos c25] at H
             have c25b0 := eq_true c25
             have c25b1 : decide (x4_1 ≤ (wrap64 (x4_1 + 1))) = true := decide_eq_true c25
             by_cases c26 : (wrap64 (x4_1 + 1)) ≤ (a0.size : Int)
             ·rw [if_pos c26] at H
              have c26b0 := eq_true c26
              have c26b1 : decide ((wrap64 (x4_1 + 1)) ≤ (a0.size : Int)) = true := decide_eq_true c26
              by_cases c27 : x3_1.size + (a0.extract (x4_1 : Int).toNat ((wrap64 (x4_1 + 1)) : Int).toNat).size ≤ 9223372036854775807
              ·rw [if_pos c27] at H
               have c27m : (9223372036854775807 < x3_1.size + ((((wrap64 (x4_1 + 1)) : Int).toNat - (x4_1 : Int).toNat))) = False := eq_false (by have q := c27; simp only [ByteArray.size_append, ByteArray.size_extract] at q; have := of_decide_eq_true c26b1; omega)
               have c27b0 := eq_true c27
               have c27b1 : decide (x3_1.size + (a0.extract (x4_1 : Int).toNat ((wrap64 (x4_1 + 1)) : Int).toNat).size ≤ 9223372036854775807) = true := decide_eq_true c27
               try have c27b2 : (9223372036854775807 < x3_1.size + (a0.extract (x4_1 : Int).toNat ((wrap64 (x4_1 + 1)) : Int).toNat).size) = False := eq_false (Nat.not_lt.2 c27)
               have H' := Aside0.mk H
               clear H
               go_wp2
               go_roundg kj8
               case measure => have := HK1.out; have := HJ5.out; have := HJ8.out; omega
               case rel => exact ⟨(x3_1 ++ (a0.extract (x4_1 : Int).toNat ((wrap64 (x4_1 + 1)) : Int).toNat)), (wrap64 (x4_1 + 1)), orf, orf, H', ⟨by have := HK1.out; have := HJ5.out; have := HJ8.out; omega⟩, by repeat (first | exact Drawn0.refl _ | apply Drawn0.step)⟩
              ·rw [if_neg c27] at H
               exact absurd H (by simp)
             ·rw [if_neg c26] at H
              exact absurd H (by simp)
            ·rw [if_neg c25] at H
             exact absurd H (by simp)
           ·rw [if_neg c24] at H
            exact absurd H (by simp)
          ·rw [if_neg c23] at H
           have c23b0 : decide (x6_5 < 0) = false := decide_eq_false c23
           clear c23
           by_cases c28 : 0 ≤ x4_1
           ·rw [if_pos c28] at H
            have c28b0 := eq_true c28
            have c28b1 : decide (0 ≤ x4_1) = true := decide_eq_true c28
            clear c28
            by_cases c29 : x4_1 ≤ (wrap64 (x6_5 - 1))
            ·rw [if_pos c29] at H
             have c29b0 := eq_true c29
             have c29b1 : decide (x4_1 ≤ (wrap64 (x6_5 - 1))) = true := decide_eq_true c29
             clear c29
             by_cases c30 : (wrap64 (x6_5 - 1)) ≤ (a0.size : Int)
             ·rw [if_pos c30] at H
              have c30b0 := eq_true c30
              have c30b1 : decide ((wrap64 (x6_5 - 1)) ≤ (a0.size : Int)) = true := decide_eq_true c30
              clear c30
              by_cases c31 : (a0.extract (x4_1 : Int).toNat ((wrap64 (x6_5 - 1)) : Int).toNat).size + 1 ≤ 9223372036854775807
              ·rw [if_pos c31] at H
               have c31m : (9223372036854775807 < (((wrap64 (x6_5 - 1)) : Int).toNat - (x4_1 : Int).toNat) + 1) = False := eq_false (by have q := c31; simp only [ByteArray.size_append, ByteArray.size_extract] at q; have := of_decide_eq_true c30b1; omega)
               have c31b0 := eq_true c31
               have c31b1 : decide ((a0.extract (x4_1 : Int).toNat ((wrap64 (x6_5 - 1)) : Int).toNat).size + 1 ≤ 9223372036854775807) = true := decide_eq_true c31
               try have c31b2 : (9223372036854775807 < (a0.extract (x4_1 : Int).toNat ((wrap64 (x6_5 - 1)) : Int).toNat).size + 1) = False := eq_false (Nat.not_lt.2 c31)
               have c31b9 : (9223372036854775807 < ((wrap64 (x6_5 - 1))).toNat - (x4_1).toNat + 1) = False := eq_false (by have q := c31; rw [ByteArray.size_extract] at q; have := of_decide_eq_true c30b1; omega)
               by_cases c32 : x3_1.size + ((a0.extract (x4_1 : Int).toNat ((wrap64 (x6_5 - 1)) : Int).toNat) ++ (⟨#[95]⟩ : ByteArray)).size ≤ 9223372036854775807
               ·rw [if_pos c32] at H
                have c32n := c32
                simp only [ByteArray.size_append, Int.natCast_add, show (⟨#[95]⟩ : ByteArray).size = 1 from rfl] at c32n
                have c32m : (9223372036854775807 < x3_1.size + ((((wrap64 (x6_5 - 1)) : Int).toNat - (x4_1 : Int).toNat) + 1)) = False := eq_false (by have q := c32; simp only [ByteArray.size_append, ByteArray.size_extract, show (⟨#[95]⟩ : ByteArray).size = 1 from rfl] at q; have := of_decide_eq_true c30b1; omega)
                have c32b0 := eq_true c32
                have c32b1 : decide (x3_1.size + ((a0.extract (x4_1 : Int).toNat ((wrap64 (x6_5 - 1)) : Int).toNat) ++ (⟨#[95]⟩ : ByteArray)).size ≤ 9223372036854775807) = true := decide_eq_true c32
                try have c32b2 : (9223372036854775807 < x3_1.size + ((a0.extract (x4_1 : Int).toNat ((wrap64 (x6_5 - 1)) : Int).toNat) ++ (⟨#[95]⟩ : ByteArray)).size) = False := eq_false (Nat.not_lt.2 c32)
                have H' := Aside0.mk H
                clear H
                go_wp2
                go_roundg kj8
                case measure => have := HK1.out; have := HJ5.out; have := HJ8.out; omega
                case rel => exact ⟨(x3_1 ++ ((a0.extract (x4_1 : Int).toNat ((wrap64 (x6_5 - 1)) : Int).toNat) ++ (⟨#[95]⟩ : ByteArray))), (x6_5), orf, orf, H', ⟨by have := HK1.out; have := HJ5.out; have := HJ8.out; omega⟩, by repeat (first | exact Drawn0.refl _ | apply Drawn0.step)⟩
               ·rw [if_neg c32] at H
                have c32n := c32
                simp only [ByteArray.size_append, Int.natCast_add, show (⟨#[95]⟩ : ByteArray).size = 1 from rfl] at c32n
                exact absurd H (by simp)
              ·rw [if_neg c31] at H
               exact absurd H (by simp)
             ·rw [if_neg c30] at H
              exact absurd H (by simp)
            ·rw [if_neg c29] at H
             exact absurd H (by simp)
           ·rw [if_neg c28] at H
            exact absurd H (by simp)
    ·rw [if_neg c3] at H
     exact absurd H (by simp)
   ·rw [if_neg c2] at H
    have c2b0 : decide (x4_1 < (a0.size : Int)) = false := decide_eq_false c2
    clear c2
    obtain rfl := Option.some.inj H
    go_wp2
    go_ret
    exact ⟨by first | rfl | (simp; done) | (simp [*]; done), by repeat (first | exact Drawn0.refl _ | apply Drawn0.step)⟩

/-! ### util_EscapeAssertion: function 55 -/
def util_EscapeAssertion.f (k : Nat) (a0 : ByteArray) : Option (ByteArray) := (util_zzEscape.f k a0).bind fun t151 => (some t151)
theorem util_EscapeAssertion.mono : ∀ a0 k, LeO (util_EscapeAssertion.f k a0) (util_EscapeAssertion.f (k + 1) a0) := by
 intro a0 k
 unfold util_EscapeAssertion.f
 repeat' first
   | (with_reducible exact util_zzEscape.mono _ _)
   | (with_reducible exact LeO.refl _)
   | (with_reducible exact LeO.none _)
   | (with_reducible refine LeO.ite ?_ ?_)
   | (with_reducible refine LeO.bind ?_ (fun _ => ?_))
   | exact util_zzEscape.mono _ _
   | exact LeO.none _
   | refine LeO.ite ?_ ?_
   | refine LeO.bind ?_ (fun _ => ?_)
set_option maxHeartbeats 8000000 in
set_option maxRecDepth 100000 in
theorem util_EscapeAssertion.calls (k : Nat) (a0 : ByteArray) (r : ByteArray) (w : World) (h : util_EscapeAssertion.f k a0 = some r) :
  Calls Tryz.prog 55 #[.string a0] w fun e w' => e = .returned (.string r) ∧ Drawn0 w w' := by
 have H : ((util_zzEscape.f k a0).bind fun t151 => (some t151)) = some r := h
 clear h
 replace H := Option.bind_eq_some_iff.mp H
 obtain ⟨t151, A20, H⟩ := H
 replace H : (some t151) = some r := H
 have A2 := Aside0.mk A20
 clear A20
 obtain rfl := Option.some.inj H
 go_enter Tryz.func55, Tryz.ntmps55
 go_wp2_with (first | ((with_reducible refine gate_callee (f := 82) rfl ?_); refine goesL_ (some 4) rfl rfl Tryz.func82 (by kernel_rfl) rfl #[.string a0] rfl (by (try simp only [List.map_toArray, List.map_cons, List.map_nil]); first | done | rfl | (simp only [List.length_drop, List.length_take]; rfl)) ?_; (with_reducible refine (util_zzEscape.calls k a0 t151 _ A2.out).mono ?_); rintro e w' ⟨rfl, ⟨nd, rfl⟩⟩; refine ⟨_, rfl, ?_⟩))
 go_ret
 exact ⟨by first | rfl | (simp; done) | (simp [*]; done), by repeat (first | exact Drawn0.refl _ | apply Drawn0.step)⟩

/-! ### util_EscapeStringLiterals: function 56 -/
theorem lays168 : Go.Proofs.Lays.n168 Tryz.prog Tryz.lays159_ren := {
 mixed := Tryz.lays159.mixed
 f168 := Tryz.lays159.f168
 f240 := Tryz.lays159.f240
 f242 := Tryz.lays159.f242
 f276 := Tryz.lays159.f276
 f278 := Tryz.lays159.f278
 t0 := Tryz.lays159.t0
 a0 := Tryz.lays159.a0
 z0 := Tryz.lays159.z0
 v0 := Tryz.lays159.v0
 t3 := Tryz.lays159.t3
 a3 := Tryz.lays159.a3
 z3 := Tryz.lays159.z3
 v3 := Tryz.lays159.v3
 t4 := Tryz.lays159.t4
 a4 := Tryz.lays159.a4
 z4 := Tryz.lays159.z4
 v4 := Tryz.lays159.v4
 t5 := Tryz.lays159.t5
 a5 := Tryz.lays159.a5
 z5 := Tryz.lays159.z5
 v5 := Tryz.lays159.v5
 t9 := Tryz.lays159.t9
 a9 := Tryz.lays159.a9
 z9 := Tryz.lays159.z9
 v9 := Tryz.lays159.v9
 t20 := Tryz.lays159.t20
 a20 := Tryz.lays159.a20
 z20 := Tryz.lays159.z20
 v20 := Tryz.lays159.v20
 t21 := Tryz.lays159.t21
 a21 := Tryz.lays159.a21
 z21 := Tryz.lays159.z21
 v21 := Tryz.lays159.v21
 t37 := Tryz.lays159.t37
 a37 := Tryz.lays159.a37
 z37 := Tryz.lays159.z37
 v37 := Tryz.lays159.v37
 t46 := Tryz.lays159.t46
 a46 := Tryz.lays159.a46
 z46 := Tryz.lays159.z46
 v46 := Tryz.lays159.v46
 t51 := Tryz.lays159.t51
 a51 := Tryz.lays159.a51
 z51 := Tryz.lays159.z51
 v51 := Tryz.lays159.v51
 t70 := Tryz.lays159.t70
 a70 := Tryz.lays159.a70
 z70 := Tryz.lays159.z70
 v70 := Tryz.lays159.v70
 t72 := Tryz.lays159.t72
 a72 := Tryz.lays159.a72
 z72 := Tryz.lays159.z72
 v72 := Tryz.lays159.v72
 t75 := Tryz.lays159.t75
 a75 := Tryz.lays159.a75
 z75 := Tryz.lays159.z75
 v75 := Tryz.lays159.v75
 t164 := Tryz.lays159.t164
 a164 := Tryz.lays159.a164
 z164 := Tryz.lays159.z164
 v164 := Tryz.lays159.v164 }
theorem builder_Extra_168 : Go.Proofs.Builder.Extra Tryz.prog Tryz.lays159_ren := Tryz.Builder_Extra_159
theorem writeRune (B b : Nat) (bs : List Value) (r : Int) (hr0 : -2147483648 ≤ r) (hr1 : r ≤ 2147483647) (w : World) (h : Lib.IsBuilderF 123 5 B b bs w) (hlen : bs.length + 4 ≤ 140737488355328) (hBw : B ≤ w.heap.size) :
  Calls Tryz.prog 83 #[.pointer (some ⟨b, 0, none⟩), .int .i32 r] w fun e w' => e = .returned (.tuple #[.int .i64 (Lib.runeCells r).length, .nilIface]) ∧ (Lib.BuilderAtF 123 5 B b (.pointer (some ⟨b, 0, none⟩)) (bs ++ Lib.runeCells r) w' ∧ Below B w w' ∧ Lib.OthersKept 5 (some b) w w') :=
 Any.Builder_WriteRune_k lays168 builder_Extra_168 B b bs r hr0 hr1 w h hlen hBw
/-- the text as it is written: the bytes so far, the place, whether it is between quotes, and the quote -/
def lit : Nat → ByteArray → List UInt8 → Int → Bool → Int → Option ByteArray
 | 0, _, _, _, _, _ => none
 | k + 1, x0, l, i, s, q => if i < (x0.size : Int) then (if 0 ≤ i then (if l.length < 140737488355000 then (if s = true then (if bt x0 i = 92 then lit k x0 ((l ++ Lib.encodeRune (bt x0 i)) ++ Lib.encodeRune 92) (wrap64 (i + 1)) true q else (if bt x0 i = q then lit k x0 (l ++ Lib.encodeRune (bt x0 i)) (wrap64 (i + 1)) false q else lit k x0 (l ++ Lib.encodeRune (bt x0 i)) (wrap64 (i + 1)) true q)) else (if bt x0 i = 39 then lit k x0 (l ++ Lib.encodeRune (bt x0 i)) (wrap64 (i + 1)) true (bt x0 i) else (if bt x0 i = 34 then lit k x0 (l ++ Lib.encodeRune (bt x0 i)) (wrap64 (i + 1)) true (bt x0 i) else lit k x0 (l ++ Lib.encodeRune (bt x0 i)) (wrap64 (i + 1)) false q))) else none) else none) else some ⟨l.toArray⟩
def util_EscapeStringLiterals.f (k : Nat) (a0 : ByteArray) : Option ByteArray := lit k a0 [] 0 false 0
theorem lit.mono : ∀ k x0 l i s q, LeO (lit k x0 l i s q) (lit (k + 1) x0 l i s q)
 | 0, _, _, _, _, _ => fun r h => by simp [lit] at h
 | k + 1, x0, l, i, s, q => by
  have ih := lit.mono k
  unfold lit
  repeat' first
   | (with_reducible exact ih _ _ _ _ _)
   | (with_reducible exact LeO.refl _)
   | (with_reducible exact LeO.none _)
   | (with_reducible refine LeO.ite ?_ ?_)
theorem util_EscapeStringLiterals.mono : ∀ a0 k, LeO (util_EscapeStringLiterals.f k a0) (util_EscapeStringLiterals.f (k + 1) a0) := fun a0 k => lit.mono k _ _ _ _ _
theorem writesRune {B b : Nat} {l : List UInt8} {W : World} (hI : Lib.IsBuilderF 123 5 B b (Lib.byteCells l) W) (hl : l.length < 140737488355300) (hB : B ≤ W.heap.size) (r : Int) (h0 : 0 ≤ r) (h1 : r ≤ 255) :
  Calls Tryz.prog 83 #[.pointer (some ⟨b, 0, none⟩), .int .i32 r] W fun e w' => (∃ v, e = .returned v) ∧ Lib.IsBuilderF 123 5 B b (Lib.byteCells (l ++ Lib.encodeRune r)) w' ∧ Below B W w' := by
 refine (writeRune B b (Lib.byteCells l) r (by omega) (by omega) W hI (by rw [Lib.byteCells_length]; omega) hB).mono ?_
 rintro e w' ⟨rfl, hb, hw, _⟩
 refine ⟨⟨_, rfl⟩, .inr ?_, hw⟩
 have e1 : Lib.byteCells (l ++ Lib.encodeRune r) = Lib.byteCells l ++ Lib.runeCells r := by
  rw [← Lib.byteCells_encodeRune]
  simp [Lib.byteCells]
 rw [e1]
 exact hb
/-! calls -/
set_option maxHeartbeats 8000000 in
set_option maxRecDepth 100000 in
theorem util_EscapeStringLiterals.calls (k : Nat) (a0 : ByteArray) (r : ByteArray) (w : World) (h : util_EscapeStringLiterals.f k a0 = some r) :
  Calls Tryz.prog 56 #[.string a0] w fun e w' => e = .returned (.string r) ∧ Below w.heap.size w w' := by
 have H' := Aside0.mk (show lit k a0 [] 0 false 0 = some r from h)
 clear h
 go_enter Tryz.func56, Tryz.ntmps56
 go_wp2
 go_loopg [4, 5, 6] k (fun kq v4 v5 v6 w' => ∃ (l : List UInt8) (s : Bool) (q : Int) (i : Int), v4 = .bool s ∧ v5 = .int .i32 q ∧ v6 = .int .i64 i ∧ Aside0 (lit kq a0 l i s q = some r) ∧ Aside0 (kq ≤ k) ∧ Aside0 (Lib.IsBuilderF 123 5 w.heap.size w.heap.size (Lib.byteCells l) w') ∧ Aside0 (Below w.heap.size w w'))
 case atStart => exact ⟨[], false, 0, 0, rfl, rfl, rfl, H', ⟨Nat.le_refl _⟩, ⟨Lib.IsBuilderF.of (Lib.fresh_isBuilder 123 5 w)⟩, ⟨(Below.refl _ _).alloc (Nat.le_refl _) _⟩⟩
 case round =>
  clear H'
  obtain ⟨l, s, q, i, rfl, rfl, rfl, HA, HK1, HI, HB⟩ := hrel
  cases gk with
  | zero => exact absurd HA.out (by simp [lit])
  | succ k1 =>
   have H := HA.out
   clear HA
   simp only [lit] at H
   by_cases c1 : i < (a0.size : Int)
   ·rw [if_pos c1] at H
    have c1b0 : decide (i < (a0.size : Int)) = true := decide_eq_true c1
    clear c1
    by_cases c2 : 0 ≤ i
    ·rw [if_pos c2] at H
     have c2b0 : decide (0 ≤ i) = true := decide_eq_true c2
     clear c2
     by_cases c3 : l.length < 140737488355000
     ·rw [if_pos c3] at H
      have HR := Aside0.mk (bt_range a0 i)
      have hw32 : wrap32 (bt a0 i) = bt a0 i := by have := bt_range a0 i; unfold wrap32; omega
      have hx1 := bt_at a0 i
      have p1 : (0 ≤ i) = True := eq_true (of_decide_eq_true c2b0)
      have q1 : (i < (a0.size : Int)) = True := eq_true (of_decide_eq_true c1b0)
      have HL1 := Aside0.mk (show l.length < 140737488355300 by omega)
      have HL2 := Aside0.mk (show (l ++ Lib.encodeRune (bt a0 i)).length < 140737488355300 by have := (Lib.runeCells_le (bt a0 i)).2; rw [Lib.runeCells_length] at this; rw [List.length_append]; omega)
      clear c3
      cases s with
      | true =>
       rw [if_pos rfl] at H
       by_cases c4 : bt a0 i = 92
       ·rw [if_pos c4] at H
        have c4b0 : (bt a0 i == 92) = true := beq_iff_eq.mpr c4
        have H' := Aside0.mk H
        clear H c4
        go_wp2_with (first | ((try go_at_call 83); (with_reducible refine (writesRune HI.out HL1.out (below_size HB.out) (bt a0 i) HR.out.1 HR.out.2).mono ?_); rintro e wz ⟨⟨vv, rfl⟩, hi, hb⟩; have n0_ := Aside0.mk hi; have n1_ := Aside0.mk (HB.out.trans hb); clear HI HB; have HI := n0_; have HB := n1_; clear n0_ n1_ hi hb) | ((try go_at_call 83); (with_reducible refine (writesRune HI.out HL2.out (below_size HB.out) 92 (by omega) (by omega)).mono ?_); rintro e wz ⟨⟨vv, rfl⟩, hi, hb⟩; have n0_ := Aside0.mk hi; have n1_ := Aside0.mk (HB.out.trans hb); clear HI HB; have HI := n0_; have HB := n1_; clear n0_ n1_ hi hb))
        go_roundg k1
        case measure => have := HK1.out; omega
        case rel => exact ⟨_, _, _, _, rfl, rfl, rfl, H', ⟨by have := HK1.out; omega⟩, HI, HB⟩
       ·rw [if_neg c4] at H
        have c4b0 : (bt a0 i == 92) = false := beq_eq_false_iff_ne.mpr c4
        clear c4
        by_cases c5 : bt a0 i = q
        ·rw [if_pos c5] at H
         have c5b0 : (bt a0 i == q) = true := beq_iff_eq.mpr c5
         have H' := Aside0.mk H
         clear H c5
         go_wp2_with (first | ((try go_at_call 83); (with_reducible refine (writesRune HI.out HL1.out (below_size HB.out) (bt a0 i) HR.out.1 HR.out.2).mono ?_); rintro e wz ⟨⟨vv, rfl⟩, hi, hb⟩; have n0_ := Aside0.mk hi; have n1_ := Aside0.mk (HB.out.trans hb); clear HI HB; have HI := n0_; have HB := n1_; clear n0_ n1_ hi hb))
         go_roundg k1
         case measure => have := HK1.out; omega
         case rel => exact ⟨_, _, _, _, rfl, rfl, rfl, H', ⟨by have := HK1.out; omega⟩, HI, HB⟩
        ·rw [if_neg c5] at H
         have c5b0 : (bt a0 i == q) = false := beq_eq_false_iff_ne.mpr c5
         have H' := Aside0.mk H
         clear H c5
         go_wp2_with (first | ((try go_at_call 83); (with_reducible refine (writesRune HI.out HL1.out (below_size HB.out) (bt a0 i) HR.out.1 HR.out.2).mono ?_); rintro e wz ⟨⟨vv, rfl⟩, hi, hb⟩; have n0_ := Aside0.mk hi; have n1_ := Aside0.mk (HB.out.trans hb); clear HI HB; have HI := n0_; have HB := n1_; clear n0_ n1_ hi hb))
         go_roundg k1
         case measure => have := HK1.out; omega
         case rel => exact ⟨_, _, _, _, rfl, rfl, rfl, H', ⟨by have := HK1.out; omega⟩, HI, HB⟩
      | false =>
       rw [if_neg (by simp)] at H
       by_cases c4 : bt a0 i = 39
       ·rw [if_pos c4] at H
        have c4b0 : (bt a0 i == 39) = true := beq_iff_eq.mpr c4
        have H' := Aside0.mk H
        clear H c4
        go_wp2_with (first | ((try go_at_call 83); (with_reducible refine (writesRune HI.out HL1.out (below_size HB.out) (bt a0 i) HR.out.1 HR.out.2).mono ?_); rintro e wz ⟨⟨vv, rfl⟩, hi, hb⟩; have n0_ := Aside0.mk hi; have n1_ := Aside0.mk (HB.out.trans hb); clear HI HB; have HI := n0_; have HB := n1_; clear n0_ n1_ hi hb))
        go_roundg k1
        case measure => have := HK1.out; omega
        case rel => exact ⟨_, _, bt a0 i, _, rfl, by first | rfl | (rw [hw32]) | (simp only [hw32]), rfl, H', ⟨by have := HK1.out; omega⟩, HI, HB⟩
       ·rw [if_neg c4] at H
        have c4b0 : (bt a0 i == 39) = false := beq_eq_false_iff_ne.mpr c4
        clear c4
        by_cases c5 : bt a0 i = 34
        ·rw [if_pos c5] at H
         have c5b0 : (bt a0 i == 34) = true := beq_iff_eq.mpr c5
         have H' := Aside0.mk H
         clear H c5
         go_wp2_with (first | ((try go_at_call 83); (with_reducible refine (writesRune HI.out HL1.out (below_size HB.out) (bt a0 i) HR.out.1 HR.out.2).mono ?_); rintro e wz ⟨⟨vv, rfl⟩, hi, hb⟩; have n0_ := Aside0.mk hi; have n1_ := Aside0.mk (HB.out.trans hb); clear HI HB; have HI := n0_; have HB := n1_; clear n0_ n1_ hi hb))
         go_roundg k1
         case measure => have := HK1.out; omega
         case rel => exact ⟨_, _, bt a0 i, _, rfl, by first | rfl | (rw [hw32]) | (simp only [hw32]), rfl, H', ⟨by have := HK1.out; omega⟩, HI, HB⟩
        ·rw [if_neg c5] at H
         have c5b0 : (bt a0 i == 34) = false := beq_eq_false_iff_ne.mpr c5
         have H' := Aside0.mk H
         clear H c5
         go_wp2_with (first | ((try go_at_call 83); (with_reducible refine (writesRune HI.out HL1.out (below_size HB.out) (bt a0 i) HR.out.1 HR.out.2).mono ?_); rintro e wz ⟨⟨vv, rfl⟩, hi, hb⟩; have n0_ := Aside0.mk hi; have n1_ := Aside0.mk (HB.out.trans hb); clear HI HB; have HI := n0_; have HB := n1_; clear n0_ n1_ hi hb))
         go_roundg k1
         case measure => have := HK1.out; omega
         case rel => exact ⟨_, _, _, _, rfl, rfl, rfl, H', ⟨by have := HK1.out; omega⟩, HI, HB⟩
     ·rw [if_neg c3] at H; exact absurd H (by simp)
    ·rw [if_neg c2] at H; exact absurd H (by simp)
   ·rw [if_neg c1] at H
    have c1b0 : decide (i < (a0.size : Int)) = false := decide_eq_false c1
    clear c1
    obtain rfl := Option.some.inj H
    go_wp2_with (first | ((with_reducible refine gate_callee (f := 71) rfl ?_); refine goesL_ (some 36) rfl rfl Tryz.func71 (by kernel_rfl) rfl #[.pointer (some ⟨w.heap.size, 0, none⟩)] rfl (by (try simp only [List.map_toArray, List.map_cons, List.map_nil]); first | done | rfl) ?_; refine (Tryz.Builder_String_any_f w.heap.size w.heap.size l _ HI.out (below_size HB.out)).mono ?_; rintro e wz ⟨rfl, _, hb⟩; refine ⟨_, rfl, ?_⟩; have n1_ := Aside0.mk (HB.out.trans hb); clear HI HB; have HB := n1_; clear n1_ hb))
    go_ret
    exact ⟨rfl, HB.out⟩

/-! ### model_zzContains: function 57 -/
def model_zzContains.f (k : Nat) (a0 : ByteArray) (a1 : ByteArray) : Option (Bool) := (model_zzIndex.f k a0 a1).bind fun t152 => (some (decide (t152 ≥ 0)))
theorem model_zzContains.mono : ∀ a0 a1 k, LeO (model_zzContains.f k a0 a1) (model_zzContains.f (k + 1) a0 a1) := by
 intro a0 a1 k
 unfold model_zzContains.f
 repeat' first
   | (with_reducible exact model_zzIndex.mono _ _ _)
   | (with_reducible exact LeO.refl _)
   | (with_reducible exact LeO.none _)
   | (with_reducible refine LeO.ite ?_ ?_)
   | (with_reducible refine LeO.bind ?_ (fun _ => ?_))
   | exact model_zzIndex.mono _ _ _
   | exact LeO.none _
   | refine LeO.ite ?_ ?_
   | refine LeO.bind ?_ (fun _ => ?_)
set_option maxHeartbeats 8000000 in
set_option maxRecDepth 100000 in
theorem model_zzContains.calls (k : Nat) (a0 : ByteArray) (a1 : ByteArray) (r : Bool) (w : World) (h : model_zzContains.f k a0 a1 = some r) :
  Calls Tryz.prog 57 #[.string a0, .string a1] w fun e w' => e = .returned (.bool r) ∧ Drawn0 w w' := by
 have H : ((model_zzIndex.f k a0 a1).bind fun t152 => (some (decide (t152 ≥ 0)))) = some r := h
 clear h
 replace H := Option.bind_eq_some_iff.mp H
 obtain ⟨t152, A30, H⟩ := H
 replace H : (some (decide (t152 ≥ 0))) = some r := H
 have A3 := Aside0.mk A30
 clear A30
 obtain rfl := Option.some.inj H
 go_enter Tryz.func57, Tryz.ntmps57
 go_wp2_with (first | ((with_reducible refine gate_callee (f := 74) rfl ?_); refine goesL_ (some 7) rfl rfl Tryz.func74 (by kernel_rfl) rfl #[.string a0, .string a1] rfl (by (try simp only [List.map_toArray, List.map_cons, List.map_nil]); first | done | rfl | (simp only [List.length_drop, List.length_take]; rfl)) ?_; (with_reducible refine (model_zzIndex.calls k a0 a1 t152 _ A3.out).mono ?_); rintro e w' ⟨rfl, ⟨nd, rfl⟩⟩; refine ⟨_, rfl, ?_⟩))
 go_ret
 exact ⟨by first | rfl | (simp; done) | (simp [*]; done), by repeat (first | exact Drawn0.refl _ | apply Drawn0.step)⟩

/-! ### model_zzReplace: function 58 -/
def model_zzReplace.l0 : Nat → ByteArray → ByteArray → ByteArray → ByteArray → Int → Option (ByteArray)
 | 0, _, _, _, _, _ => none
 | k + 1, x0, x1, x2, x7, x8 => if x8 < (x0.size : Int) then (if (wrap64 (x8 + (x1.size : Int))) ≤ (x0.size : Int) then (if 0 ≤ x8 then (if x8 ≤ (wrap64 (x8 + (x1.size : Int))) then (if (x0.extract (x8 : Int).toNat ((wrap64 (x8 + (x1.size : Int))) : Int).toNat).toList = x1.toList then (if x7.size + x2.size ≤ 9223372036854775807 then (model_zzReplace.l0 k x0 x1 x2 (x7 ++ x2) (wrap64 (x8 + (x1.size : Int)))) else (none)) else (if x8 ≤ (wrap64 (x8 + 1)) then (if (wrap64 (x8 + 1)) ≤ (x0.size : Int) then (if x7.size + (x0.extract (x8 : Int).toNat ((wrap64 (x8 + 1)) : Int).toNat).size ≤ 9223372036854775807 then (model_zzReplace.l0 k x0 x1 x2 (x7 ++ (x0.extract (x8 : Int).toNat ((wrap64 (x8 + 1)) : Int).toNat)) (wrap64 (x8 + 1))) else (none)) else (none)) else (none))) else (none)) else (none)) else (if 0 ≤ x8 then (if x8 ≤ (wrap64 (x8 + 1)) then (if (wrap64 (x8 + 1)) ≤ (x0.size : Int) then (if x7.size + (x0.extract (x8 : Int).toNat ((wrap64 (x8 + 1)) : Int).toNat).size ≤ 9223372036854775807 then (model_zzReplace.l0 k x0 x1 x2 (x7 ++ (x0.extract (x8 : Int).toNat ((wrap64 (x8 + 1)) : Int).toNat)) (wrap64 (x8 + 1))) else (none)) else (none)) else (none)) else (none))) else (some x7)
def model_zzReplace.f (k : Nat) (a0 : ByteArray) (a1 : ByteArray) (a2 : ByteArray) : Option (ByteArray) := model_zzReplace.l0 k a0 a1 a2 (⟨#[]⟩ : ByteArray) 0
theorem model_zzReplace.mono_l : ∀ k, (∀ y0 y1 y2 y3 y4, LeO (model_zzReplace.l0 k y0 y1 y2 y3 y4) (model_zzReplace.l0 (k + 1) y0 y1 y2 y3 y4))
 | 0 => fun _ _ _ _ _ r h => by simp [model_zzReplace.l0] at h
 | k + 1 => by
  have ih0 := model_zzReplace.mono_l k
  ·intro y0 y1 y2 y3 y4
   unfold model_zzReplace.l0
   repeat' first
   | (with_reducible exact ih0 _ _ _ _ _)
   | (with_reducible exact LeO.refl _)
   | (with_reducible exact LeO.none _)
   | (with_reducible refine LeO.ite ?_ ?_)
   | (with_reducible refine LeO.bind ?_ (fun _ => ?_))
   | exact ih0 _ _ _ _ _
   | exact LeO.none _
   | refine LeO.ite ?_ ?_
   | refine LeO.bind ?_ (fun _ => ?_)
theorem model_zzReplace.mono : ∀ a0 a1 a2 k, LeO (model_zzReplace.f k a0 a1 a2) (model_zzReplace.f (k + 1) a0 a1 a2) := by
 intro a0 a1 a2 k
 have ih0 := model_zzReplace.mono_l k
 unfold model_zzReplace.f
 repeat' first
   | (with_reducible exact ih0 _ _ _ _ _)
   | (with_reducible exact LeO.refl _)
   | (with_reducible exact LeO.none _)
   | (with_reducible refine LeO.ite ?_ ?_)
   | (with_reducible refine LeO.bind ?_ (fun _ => ?_))
   | exact ih0 _ _ _ _ _
   | exact LeO.none _
   | refine LeO.ite ?_ ?_
   | refine LeO.bind ?_ (fun _ => ?_)
set_option maxHeartbeats 8000000 in
set_option maxRecDepth 100000 in
theorem model_zzReplace.calls (k : Nat) (a0 : ByteArray) (a1 : ByteArray) (a2 : ByteArray) (r : ByteArray) (w : World) (h : model_zzReplace.f k a0 a1 a2 = some r) :
  Calls Tryz.prog 58 #[.string a0, .string a1, .string a2] w fun e w' => e = .returned (.string r) ∧ Drawn0 w w' := by
 have H : (model_zzReplace.l0 k a0 a1 a2 (⟨#[]⟩ : ByteArray) 0) = some r := h
 clear h
 have H' := Aside0.mk H
 clear H
 go_enter Tryz.func58, Tryz.ntmps58
 go_wp2
 go_loopg [7, 8] k (fun kq v7 v8 w' => ∃ (x7_1 : ByteArray) (x8_1 : Int), v7 = .string x7_1 ∧ v8 = .int .i64 x8_1 ∧ Aside0 (model_zzReplace.l0 kq a0 a1 a2 x7_1 x8_1 = some r) ∧ Aside0 (kq ≤ k) ∧ Drawn0 w w')
 case atStart => exact ⟨((⟨#[]⟩ : ByteArray)), (0), orf, orf, H', ⟨Nat.le_refl _⟩, by repeat (first | exact Drawn0.refl _ | apply Drawn0.step)⟩
 case round =>
  clear H'
  try clear p2
  obtain ⟨x7_1, x8_1, rfl, rfl, HA, HK1, ⟨m1, rfl⟩⟩ := hrel
  cases gk with
  | zero => exact absurd HA.out (by simp [model_zzReplace.l0])
  | succ k1 =>
   have H := HA.out
   clear HA
   simp only [model_zzReplace.l0] at H
   by_cases c4 : x8_1 < (a0.size : Int)
   ·rw [if_pos c4] at H
    have c4b0 : decide (x8_1 < (a0.size : Int)) = true := decide_eq_true c4
    clear c4
    by_cases c5 : (wrap64 (x8_1 + (a1.size : Int))) ≤ (a0.size : Int)
    ·rw [if_pos c5] at H
     have c5b0 : decide ((wrap64 (x8_1 + (a1.size : Int))) ≤ (a0.size : Int)) = true := decide_eq_true c5
     clear c5
     by_cases c6 : 0 ≤ x8_1
     ·rw [if_pos c6] at H
      have c6b0 := eq_true c6
      have c6b1 : decide (0 ≤ x8_1) = true := decide_eq_true c6
      clear c6
      by_cases c7 : x8_1 ≤ (wrap64 (x8_1 + (a1.size : Int)))
      ·rw [if_pos c7] at H
       have c7b0 := eq_true c7
       have c7b1 : decide (x8_1 ≤ (wrap64 (x8_1 + (a1.size : Int)))) = true := decide_eq_true c7
       have c8b0 := eq_true (odt : (wrap64 (x8_1 + (a1.size : Int))) ≤ (a0.size : Int))
       by_cases c9 : (a0.extract (x8_1 : Int).toNat ((wrap64 (x8_1 + (a1.size : Int))) : Int).toNat).toList = a1.toList
       ·rw [if_pos c9] at H
        have c9b0 : ((a0.extract (x8_1 : Int).toNat ((wrap64 (x8_1 + (a1.size : Int))) : Int).toNat).toList == a1.toList) = true := beq_iff_eq.mpr c9
        have c9b1 : ((a0.extract (x8_1 : Int).toNat ((wrap64 (x8_1 + (a1.size : Int))) : Int).toNat).toList != a1.toList) = false := bne_eq_false_iff_eq.mpr c9
        clear c9
        by_cases c10 : x7_1.size + a2.size ≤ 9223372036854775807
        ·rw [if_pos c10] at H
         have c10b0 := eq_true c10
         have c10b1 : decide (x7_1.size + a2.size ≤ 9223372036854775807) = true := decide_eq_true c10
         try have c10b2 : (9223372036854775807 < x7_1.size + a2.size) = False := eq_false (Nat.not_lt.2 c10)
         have H' := Aside0.mk H
         clear H
         go_wp2
         go_roundg k1
         case measure => have := HK1.out; omega
         case rel => exact ⟨(x7_1 ++ a2), (wrap64 (x8_1 + (a1.size : Int))), orf, orf, H', ⟨by have := HK1.out; omega⟩, by repeat (first | exact Drawn0.refl _ | apply Drawn0.step)⟩
        ·rw [if_neg c10] at H
         exact absurd H (by simp)
       ·rw [if_neg c9] at H
        have c9b0 : ((a0.extract (x8_1 : Int).toNat ((wrap64 (x8_1 + (a1.size : Int))) : Int).toNat).toList == a1.toList) = false := beq_eq_false_iff_ne.mpr c9
        have c9b1 : ((a0.extract (x8_1 : Int).toNat ((wrap64 (x8_1 + (a1.size : Int))) : Int).toNat).toList != a1.toList) = true := bne_iff_ne.mpr c9
        have c11b0 := eq_true (odt : 0 ≤ x8_1)
        by_cases c12 : x8_1 ≤ (wrap64 (x8_1 + 1))
        ·rw [if_pos c12] at H
         have c12b0 := eq_true c12
         have c12b1 : decide (x8_1 ≤ (wrap64 (x8_1 + 1))) = true := decide_eq_true c12
         by_cases c13 : (wrap64 (x8_1 + 1)) ≤ (a0.size : Int)
         ·rw [if_pos c13] at H
          have c13b0 := eq_true c13
          have c13b1 : decide ((wrap64 (x8_1 + 1)) ≤ (a0.size : Int)) = true := decide_eq_true c13
          by_cases c14 : x7_1.size + (a0.extract (x8_1 : Int).toNat ((wrap64 (x8_1 + 1)) : Int).toNat).size ≤ 9223372036854775807
          ·rw [if_pos c14] at H
           have c14m : (9223372036854775807 < x7_1.size + ((((wrap64 (x8_1 + 1)) : Int).toNat - (x8_1 : Int).toNat))) = False := eq_false (by have q := c14; simp only [ByteArray.size_append, ByteArray.size_extract] at q; have := of_decide_eq_true c13b1; omega)
           have c14b0 := eq_true c14
           have c14b1 : decide (x7_1.size + (a0.extract (x8_1 : Int).toNat ((wrap64 (x8_1 + 1)) : Int).toNat).size ≤ 9223372036854775807) = true := decide_eq_true c14
           try have c14b2 : (9223372036854775807 < x7_1.size + (a0.extract (x8_1 : Int).toNat ((wrap64 (x8_1 + 1)) : Int).toNat).size) = False := eq_false (Nat.not_lt.2 c14)
           have H' := Aside0.mk H
           clear H
           go_wp2
           go_roundg k1
           case measure => have := HK1.out; omega
           case rel => exact ⟨(x7_1 ++ (a0.extract (x8_1 : Int).toNat ((wrap64 (x8_1 + 1)) : Int).toNat)), (wrap64 (x8_1 + 1)), orf, orf, H', ⟨by have := HK1.out; omega⟩, by repeat (first | exact Drawn0.refl _ | apply Drawn0.step)⟩
          ·rw [if_neg c14] at H
           exact absurd H (by simp)
         ·rw [if_neg c13] at H
          exact absurd H (by simp)
        ·rw [if_neg c12] at H
         exact absurd H (by simp)
      ·rw [if_neg c7] at H
       exact absurd H (by simp)
     ·rw [if_neg c6] at H
      exact absurd H (by simp)
    ·rw [if_neg c5] at H
     have c5b0 : decide ((wrap64 (x8_1 + (a1.size : Int))) ≤ (a0.size : Int)) = false := decide_eq_false c5
     clear c5
     by_cases c15 : 0 ≤ x8_1
     ·rw [if_pos c15] at H
      have c15b0 := eq_true c15
      have c15b1 : decide (0 ≤ x8_1) = true := decide_eq_true c15
      clear c15
      by_cases c16 : x8_1 ≤ (wrap64 (x8_1 + 1))
      ·rw [if_pos c16] at H
       have c16b0 := eq_true c16
       have c16b1 : decide (x8_1 ≤ (wrap64 (x8_1 + 1))) = true := decide_eq_true c16
       by_cases c17 : (wrap64 (x8_1 + 1)) ≤ (a0.size : Int)
       ·rw [if_pos c17] at H
        have c17b0 := eq_true c17
        have c17b1 : decide ((wrap64 (x8_1 + 1)) ≤ (a0.size : Int)) = true := decide_eq_true c17
        by_cases c18 : x7_1.size + (a0.extract (x8_1 : Int).toNat ((wrap64 (x8_1 + 1)) : Int).toNat).size ≤ 9223372036854775807
        ·rw [if_pos c18] at H
         have c18m : (9223372036854775807 < x7_1.size + ((((wrap64 (x8_1 + 1)) : Int).toNat - (x8_1 : Int).toNat))) = False := eq_false (by have q := c18; simp only [ByteArray.size_append, ByteArray.size_extract] at q; have := of_decide_eq_true c17b1; omega)
         have c18b0 := eq_true c18
         have c18b1 : decide (x7_1.size + (a0.extract (x8_1 : Int).toNat ((wrap64 (x8_1 + 1)) : Int).toNat).size ≤ 9223372036854775807) = true := decide_eq_true c18
         try have c18b2 : (9223372036854775807 < x7_1.size + (a0.extract (x8_1 : Int).toNat ((wrap64 (x8_1 + 1)) : Int).toNat).size) = False := eq_false (Nat.not_lt.2 c18)
         have H' := Aside0.mk H
         clear H
         go_wp2
         go_roundg k1
         case measure => have := HK1.out; omega
         case rel => exact ⟨(x7_1 ++ (a0.extract (x8_1 : Int).toNat ((wrap64 (x8_1 + 1)) : Int).toNat)), (wrap64 (x8_1 + 1)), orf, orf, H', ⟨by have := HK1.out; omega⟩, by repeat (first | exact Drawn0.refl _ | apply Drawn0.step)⟩
        ·rw [if_neg c18] at H
         exact absurd H (by simp)
       ·rw [if_neg c17] at H
        exact absurd H (by simp)
      ·rw [if_neg c16] at H
       exact absurd H (by simp)
     ·rw [if_neg c15] at H
      exact absurd H (by simp)
   ·rw [if_neg c4] at H
    have c4b0 : decide (x8_1 < (a0.size : Int)) = false := decide_eq_false c4
    clear c4
    obtain rfl := Option.some.inj H
    go_wp2
    go_ret
    exact ⟨by first | rfl | (simp; done) | (simp [*]; done), by repeat (first | exact Drawn0.refl _ | apply Drawn0.step)⟩

end Go.Proofs.YtjglpjlbnmpdfaaGreatDoor.PFnModelAdd
